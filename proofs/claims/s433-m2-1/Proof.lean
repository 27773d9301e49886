import JvmDerived
import JvmDerived.Pilot.@@N@@Statement
import JvmDerived.Pilot.@@N@@Code
set_option linter.unusedVariables false
set_option linter.unusedSimpArgs false
namespace Jvm.Pilot.@@N@@
open Jvm Jvm.ClassFile Sem Op Lib Jvm.Free Jvm.Stand Jvm.LawKit Jvm.RoadKit Bundle Jvm.Pilot.@@N@@.Jvm.D
section Own
variable {p : Program} {l : Launch} {e : Env} {R : Room} {s : State} {m : MethodId} {args : Array Value} {below : List Frame} {meth : Method} {c : Code} {T T' : State} {cells slots cells' slots' : Nat} {Z : State} {a0 : Array Value} {h h' : Heap} {own : String} {ws ws' : List Addr} {V : Vm → Prop}
  {EN : State → Outcome → State → List Loc → Nat → Nat → Prop} {K N : Nat} {Q : Option Value → Vm → Heap → Prop} {g g' : JFrame}
/-- sizes as numbers -/
theorem natlt {a : Addr} {n : Nat} (h : a < n) : n > a := h
theorem adne {a b : Addr} (h : @LT.lt Nat _ a b ∨ @LT.lt Nat _ b a) : a ≠ b := fun q => by
  subst q; exact h.elim (Nat.lt_irrefl _) (Nat.lt_irrefl _)
/-- what is written lies in the cells ws or in cells made since -/
def Fx (ws : List Addr) (n : Nat) (L : List Loc) : Prop := ∀ y ∈ L, y.base ∈ ws ∨ n ≤ y.base
theorem keep_of {s' : State} {L : List Loc} (q : s.sameButNew s' L K N) (F : Fx ws s.heap.size L) : Keep s.heap s'.heap ws := by
  refine ⟨q.2.1, fun x c hc hx => ?_, fun x c hc => ?_⟩
  · obtain ⟨c', h1, h2, -, h4⟩ := q.2.2.2.2.2 x c hc
    have hb := (Array.getElem?_eq_some_iff.mp hc).1
    have hsl : c'.slots = c.slots := Array.ext_getElem? fun i => h4 i fun hm => (F _ hm).elim (fun r => hx r) (fun r => absurd r (Nat.not_le.mpr hb))
    have hcc : c' = c := by rw [h2, hsl]
    rw [← hcc]; exact h1
  · obtain ⟨c', h1, h2, h3, -⟩ := q.2.2.2.2.2 x c hc
    exact ⟨c', h1, by rw [h2], by rw [h2], h3⟩
/-- where a walk stands -/
def Hs (p : Program) (l : Launch) (e : Env) (R : Room) (s : State) (m : MethodId) (args : Array Value) (below : List Frame) (meth : Method) (c : Code) (Z : State) (own : String) (ws : List Addr) (V : Vm → Prop) (T : State) (h : Heap) (cells slots : Nat) : Prop :=
  ∃ (vm0 : Vm) (k0 : Nat) (locs : List Loc), p.tables.exec = Jvm.exec ∧ Stand p l e R (s.setVm vm0) m args below meth c T locs cells slots ∧ s.Since vm0 k0 ∧ k0 ≤ h.size ∧ Z.Warmed39 vm0 ∧ vm0.findClass own = some m.cls ∧ T.heap = h ∧ Fx ws s.heap.size locs ∧ V vm0 ∧ Ext Z.heap s.heap ∧ ∀ w ∈ ws, Z.heap.size ≤ w
theorem Hs.here (H : Hs p l e R s m args below meth c Z own ws V T h cells slots) : At T m c below := by
  obtain ⟨_, _, _, _, X, _⟩ := H; exact X.here
theorem Hs.ex (H : Hs p l e R s m args below meth c Z own ws V T h cells slots) : p.tables.exec = Jvm.exec := by
  obtain ⟨_, _, _, hx, _⟩ := H; exact hx
theorem Hs.keep (H : Hs p l e R s m args below meth c Z own ws V T h cells slots) : Keep s.heap h ws := by
  obtain ⟨vm0, k0, locs, hx, X, hS, hk, hZ, ho, rfl, F, -⟩ := H
  exact keep_of (s := s.setVm vm0) (s' := T.setVm (s.setVm vm0).vm) X.same F
theorem Hs.ge (H : Hs p l e R s m args below meth c Z own ws V T h cells slots) : s.heap.size ≤ h.size := H.keep.1
theorem Hs.old (H : Hs p l e R s m args below meth c Z own ws V T h cells slots) : Ext Z.heap h := by
  have K := H.keep
  obtain ⟨vm0, k0, locs, hx, X, hS, hk, hZ, ho, eT, F, hV, O, hw⟩ := H
  refine ⟨Nat.le_trans O.1 K.1, fun a cl q => K.2.1 a cl (O.2 a cl q) fun r => ?_⟩
  exact absurd (Array.getElem?_eq_some_iff.mp q).1 (Nat.not_lt.mpr (hw a r))
theorem Hs.more (H : Hs p l e R s m args below meth c Z own ws V T h cells slots) (hc : cells ≤ cells') (hn : slots ≤ slots') : Hs p l e R s m args below meth c Z own ws V T h cells' slots' := by
  obtain ⟨vm0, k0, locs, hx, X, r⟩ := H
  exact ⟨vm0, k0, locs, hx, X.mono hc hn, r⟩
theorem Hs.weak (H : Hs p l e R s m args below meth c Z own ws V T h cells slots) (q : ∀ w ∈ ws, w ∈ ws') (r : ∀ w ∈ ws', Z.heap.size ≤ w) : Hs p l e R s m args below meth c Z own ws' V T h cells slots := by
  obtain ⟨vm0, k0, locs, hx, X, hS, hk, hZ, ho, eT, F, hV, O, hw⟩ := H
  exact ⟨vm0, k0, locs, hx, X, hS, hk, hZ, ho, eT, fun y hy => (F y hy).imp (q _) id, hV, O, r⟩
theorem Hs.reV {V' : Vm → Prop} (H : Hs p l e R s m args below meth c Z own ws V T h cells slots) (q : ∀ vm, V vm → V' vm) : Hs p l e R s m args below meth c Z own ws V' T h cells slots := by
  obtain ⟨vm0, k0, locs, hx, X, hS, hk, hZ, ho, eT, F, hV, r⟩ := H
  exact ⟨vm0, k0, locs, hx, X, hS, hk, hZ, ho, eT, F, q _ hV, r⟩
/-- a predicate on the tables that a resolution leaves -/
def Stab (V : Vm → Prop) : Prop := ∀ (s : State) (vm1 : Vm), s.WarmedH vm1 → V s.vm → V vm1
theorem Hs.vm (H : Hs p l e R s m args below meth c Z own ws V T h cells slots) (q : Stab V) : V T.vm := by
  obtain ⟨vm0, k0, locs, hx, X, hS, hk, hZ, ho, eT, F, hV, O, hw⟩ := H
  exact q _ _ X.warmed hV
/-- it runs to its end, and Q holds there -/
def Rn (p : Program) (e : Env) (below : List Frame) (s : State) (EN : State → Outcome → State → List Loc → Nat → Nat → Prop) (ws : List Addr) (K N : Nat) (Q : Option Value → Vm → Heap → Prop) (T : State) (g : JFrame) : Prop :=
  ∃ s₂ o, Steps p.tables e below (T.setTop g) s₂ ∧ s₂.status = .running ∧ Ended s₂ below o ∧ ∃ v L, o = .returned v ∧ (Q v s₂.vm s₂.heap ∧ Fx ws s.heap.size L ∧ Keep s.heap s₂.heap ws) ∧ EN s o s₂ L K N
theorem Rn.pu (r : Rn p e below s EN ws K N Q T' g') (st : ∀ t, Steps p.tables e below (T'.setTop g') t → Steps p.tables e below (T.setTop g) t) : Rn p e below s EN ws K N Q T g := by
  obtain ⟨s₂, o, h1, h2⟩ := r; exact ⟨s₂, o, st _ h1, h2⟩
/-- how a walk may end -/
def Ends (EN : State → Outcome → State → List Loc → Nat → Nat → Prop) (s : State) (V : Vm → Prop) : Prop :=
  ∀ (vm0 : Vm) (k0 : Nat) (t : State) (v : Option Value) (L : List Loc) (K N : Nat), V vm0 → s.Since vm0 k0 → k0 ≤ t.heap.size → (s.setVm vm0).WarmedH t.vm → (s.setVm vm0).sameButNew ({ t with vm := (s.setVm vm0).vm } : State) L K N → EN s (.returned v) t L K N
theorem ends_N : Ends FrameEnd s (fun v => v = s.vm) := by
  intro vm0 k0 t v L K N hv hS hk hW hs
  subst hv
  exact ⟨⟨v, rfl⟩, hW, hs⟩
theorem ends_W : Ends ReturnedEndW s V := by
  intro vm0 k0 t v L K N hv hS hk hW hs
  obtain ⟨a, b, c'⟩ := hS.ended (U := t) hW hk hs
  exact ⟨⟨v, rfl⟩, a, b, c'⟩
theorem Hs.fin (H : Hs p l e R s m args below meth c Z own ws V T h cells slots) (hE : Ends EN s V) (hlk : meth.locks = false) {v : Option Value} (hv : meth.sig.returnType = none → v = none) (hc : cells ≤ K) (hn : slots ≤ N) (hws : ∀ w ∈ ws, w ∈ ws') (hQ : Q v T.vm h)
    (st : ∀ fs, (∀ (f : JFrame) (acts : List Action), f.method = m → f.locked = none → f.entered = [] → (doReturn e (T.setTop f) acts v).1 = T.setFrames fs) → Steps p.tables e below (T.setTop g) (T.setFrames fs)) : Rn p e below s EN ws' K N Q T g := by
  have KK := H.keep
  obtain ⟨vm0, k0, locs, hx, X, hS, hk, hZ, ho, rfl, F, hV, O, hw⟩ := H
  obtain ⟨fs, hr, hrun, hended, hW, hsame⟩ := X.leave (v := v) hv hlk
  refine ⟨_, _, st fs hr, hrun, hended, v, locs, rfl, ⟨hQ, fun y hy => (F y hy).imp (hws _) id, ⟨KK.1, fun x cl q r => KK.2.1 x cl q fun z => r (hws _ z), KK.2.2⟩⟩, hE vm0 k0 _ v locs K N hV hS hk hW (hsame.mono hc hn)⟩
theorem retI {pc : Nat} {Ls : Array Slot} {z : Int32} {rest : List Value} {locs : List Loc} (X : Stand p l e R s m args below meth c T locs cells slots) (hx : p.tables.exec = Jvm.exec) (hret : meth.sig.returnType = some .int) (hd : decode c.code pc = .ok (.ireturn, 1)) {fs : List Frame}
    (hl : ∀ (f : JFrame) (acts : List Action), f.method = m → f.locked = none → f.entered = [] → (doReturn e (T.setTop f) acts (some (.int z))).1 = T.setFrames fs) : Steps p.tables e below (T.setTop (mkF m pc Ls (.int z :: rest))) (T.setFrames fs) := by
  have hm' : T.vm.method? m = some meth := X.method'
  have hn : narrow .int (.int z) = .int z := rfl
  show Steps p.tables e below (T.setTop { method := m, pc := pc, locals := Ls, stack := _ :: rest, locked := none }) _
  jvm_step X.here [X.here.top, hx, hd, hm', hret, hn]
  first | (intro acts; rw [hl _ acts rfl rfl rfl]) | rw [hl _ _ rfl rfl rfl]
  exact Steps.refl _
theorem Hs.retI (H : Hs p l e R s m args below meth c Z own ws V T h cells slots) (hE : Ends EN s V) (hlk : meth.locks = false) (hret : meth.sig.returnType = some .int) {pc : Nat} {Ls : Array Slot} {z : Int32} {rest : List Value} (hd : decode c.code pc = .ok (.ireturn, 1)) (hc : cells ≤ K) (hn : slots ≤ N) (hws : ∀ w ∈ ws, w ∈ ws') (hQ : Q (some (.int z)) T.vm h) :
    Rn p e below s EN ws' K N Q T (mkF m pc Ls (.int z :: rest)) := by
  refine H.fin hE hlk (v := some (.int z)) (fun q => by rw [hret] at q; cases q) hc hn hws hQ fun fs hr => ?_
  obtain ⟨vm0, k0, locs, hx, X, -⟩ := H
  exact Jvm.Pilot.@@N@@.retI X hx hret hd hr
theorem Hs.retS (H : Hs p l e R s m args below meth c Z own ws V T h cells slots) (hE : Ends EN s V) (hlk : meth.locks = false) {t : FieldType} (hret : meth.sig.returnType = some t) (ht : t = .boolean ∨ t = .byte ∨ t = .char ∨ t = .short) {pc : Nat} {Ls : Array Slot} {z : Int32} {rest : List Value} (hd : decode c.code pc = .ok (.ireturn, 1)) (hc : cells ≤ K) (hn : slots ≤ N) (hws : ∀ w ∈ ws, w ∈ ws') (hQ : Q (some (.int (nar t z))) T.vm h) :
    Rn p e below s EN ws' K N Q T (mkF m pc Ls (.int z :: rest)) := by
  refine H.fin hE hlk (v := some (.int (nar t z))) (fun q => by rw [hret] at q; cases q) hc hn hws hQ fun fs hr => ?_
  obtain ⟨vm0, k0, locs, hx, X, -⟩ := H
  exact RoadKit.retN X hx hret ht hd hr
theorem Hs.retA (H : Hs p l e R s m args below meth c Z own ws V T h cells slots) (hE : Ends EN s V) (hlk : meth.locks = false) {t : FieldType} (hret : meth.sig.returnType = some t) {w : Value} (hnw : narrow t w = w) (hr1 : t.isReference = true) (hr2 : w.isRef = true) {pc : Nat} {Ls : Array Slot} {rest : List Value} (hd : decode c.code pc = .ok (.areturn, 1)) (hc : cells ≤ K) (hn : slots ≤ N) (hws : ∀ w ∈ ws, w ∈ ws') (hQ : Q (some w) T.vm h) :
    Rn p e below s EN ws' K N Q T (mkF m pc Ls (w :: rest)) := by
  refine H.fin hE hlk (v := some w) (fun q => by rw [hret] at q; cases q) hc hn hws hQ fun fs hr => ?_
  obtain ⟨vm0, k0, locs, hx, X, -⟩ := H
  exact retOut X hx hret hnw (Or.inr (Or.inr (Or.inr (Or.inr ⟨rfl, hr1, hr2⟩)))) hd hr
theorem Hs.retV (H : Hs p l e R s m args below meth c Z own ws V T h cells slots) (hE : Ends EN s V) (hlk : meth.locks = false) (hret : meth.sig.returnType = none) {pc : Nat} {Ls : Array Slot} (hd : decode c.code pc = .ok (.return_, 1)) (hc : cells ≤ K) (hn : slots ≤ N) (hws : ∀ w ∈ ws, w ∈ ws') (hQ : Q none T.vm h) :
    Rn p e below s EN ws' K N Q T (mkF m pc Ls []) := by
  refine H.fin hE hlk (v := none) (fun _ => rfl) hc hn hws hQ fun fs hr => ?_
  obtain ⟨vm0, k0, locs, hx, X, -⟩ := H
  exact X.returnOut hx hret hd hr
/-! contracts -/
def MetN (l : Launch) (Z : State) (y : MethodName) (bytes : ByteArray) (maxL : Nat) (ret : Option FieldType) (wl : List Jvm.Cond) (rm : Room) (as' : Array Value) (h : Heap) (ws : List Addr) (Q : Option Value → Heap → Prop) : Prop :=
  MetFree l y (head1 (Jvm.Cond.code y bytes maxL ret :: wl) rm) (fun a U => a = as' ∧ Z.Warmed39 U.vm ∧ U.heap = h) (fun _ _ _ _ _ => True)
    (fun _ U o U' => ∃ v L, o = .returned v ∧ (Q v U'.heap ∧ Fx ws h.size L ∧ Keep h U'.heap ws) ∧ FrameEnd U o U' L rm.cells rm.slots)
def MetW (l : Launch) (Z : State) (y : MethodName) (bytes : ByteArray) (maxL : Nat) (ret : Option FieldType) (wl : List Jvm.Cond) (rm : Room) (as' : Array Value) (h : Heap) (ws : List Addr) (J : Vm → Prop) (Q : Option Value → Vm → Heap → Prop) : Prop :=
  MetFree l y (head1 (Jvm.Cond.code y bytes maxL ret :: wl) rm) (fun a U => a = as' ∧ Z.Warmed39 U.vm ∧ U.heap = h ∧ J U.vm) (fun _ _ _ _ _ => True)
    (fun _ U o U' => ∃ v L, o = .returned v ∧ (Q v U'.vm U'.heap ∧ Fx ws h.size L ∧ Keep h U'.heap ws) ∧ ReturnedEndW U o U' L rm.cells rm.slots)
variable {y : MethodName} {bytes : ByteArray} {maxL : Nat} {ret' : Option FieldType} {wl : List Jvm.Cond} {rm : Room} {as' : Array Value} {QN : Option Value → Heap → Prop} {J : Vm → Prop}
theorem MetN.mk (hx : plainFor y = true) {Ls : Array Slot} (hef : ∀ m, entryFrame m as' maxL = mkF m 0 Ls []) (O : Ext Z.heap h) 
    (body : ∀ (p : Program) (e : Env) (s : State) (m : MethodId) (below : List Frame) (meth : Method) (c : Code) (T : State), p.tables.exec = Jvm.exec → c.code = bytes → c.maxLocals = maxL → meth.sig.returnType = ret' → meth.locks = false → meth.name = y.name → s.heap = h →
      Hs p l e rm s m as' below meth c Z y.cls [] (fun v => v = s.vm) T h 0 0 → Rn p e below s FrameEnd ws rm.cells rm.slots (fun v _ h' => QN v h') T (mkF m 0 Ls [])) :
    MetN l Z y bytes maxL ret' wl rm as' h ws QN := by
  refine MetFree.of_bodySF hx hisR ?_
  intro p e s m args below meth c s₁ Bd hml0 hP hK
  obtain ⟨rfl, hZ, hh⟩ := hP
  have X0 : Stand p l e rm s m args below meth c s₁ [] 0 0 := Stand.of_body Bd
  have e0 : s₁.heap = h := by rw [← hh, Bd.state]; rfl
  obtain ⟨s₂, o, h1, h2, h3, v, L, h4, ⟨h5, h6, h7⟩, h8⟩ := body p e s m below meth c s₁ Bd.exec Bd.bytes hml0 Bd.returns Bd.notSynchronized (name_of_methodNamed Bd.named Bd.method).1 hh
    ⟨s.vm, 0, [], Bd.exec, X0, (State.WarmedH.refl s).since _, Nat.zero_le _, hZ, findClass_of_methodNamed Bd.named, e0, (fun y hy => nomatch hy), rfl, (by rw [hh]; exact O), (fun y hy => nomatch hy)⟩
  subst hh
  exact ⟨s₂, o, castTop (hef m) h1, h2, h3, v, L, h4, ⟨h5, h6, h7⟩, h8⟩
theorem MetW.mk (hx : plainFor y = true) {Ls : Array Slot} (hef : ∀ m, entryFrame m as' maxL = mkF m 0 Ls []) (O : Ext Z.heap h) 
    (body : ∀ (p : Program) (e : Env) (s : State) (m : MethodId) (below : List Frame) (meth : Method) (c : Code) (T : State), p.tables.exec = Jvm.exec → c.code = bytes → c.maxLocals = maxL → meth.sig.returnType = ret' → meth.locks = false → meth.name = y.name → s.heap = h →
      Hs p l e rm s m as' below meth c Z y.cls [] J T h 0 0 → Rn p e below s ReturnedEndW ws rm.cells rm.slots Q T (mkF m 0 Ls [])) :
    MetW l Z y bytes maxL ret' wl rm as' h ws J Q := by
  refine MetFree.of_bodySF hx hisR ?_
  intro p e s m args below meth c s₁ Bd hml0 hP hK
  obtain ⟨rfl, hZ, hh, hJ⟩ := hP
  have X0 : Stand p l e rm s m args below meth c s₁ [] 0 0 := Stand.of_body Bd
  have e0 : s₁.heap = h := by rw [← hh, Bd.state]; rfl
  obtain ⟨s₂, o, h1, h2, h3, v, L, h4, ⟨h5, h6, h7⟩, h8⟩ := body p e s m below meth c s₁ Bd.exec Bd.bytes hml0 Bd.returns Bd.notSynchronized (name_of_methodNamed Bd.named Bd.method).1 hh
    ⟨s.vm, 0, [], Bd.exec, X0, (State.WarmedH.refl s).since _, Nat.zero_le _, hZ, findClass_of_methodNamed Bd.named, e0, (fun y hy => nomatch hy), hJ, (by rw [hh]; exact O), (fun y hy => nomatch hy)⟩
  subst hh
  exact ⟨s₂, o, castTop (hef m) h1, h2, h3, v, L, h4, ⟨h5, h6, h7⟩, h8⟩
/-- who pays a call -/
def PayN (l : Launch) (R : Room) (p : Program) (e : Env) (below : List Frame) (args : Array Value) (Z : State) (y : MethodName) (W : Nat) (as' : Array Value) (h : Heap) (kc ks : Nat) (ws : List Addr) (Q : Option Value → Heap → Prop) : Prop :=
  ∀ s : State, Z.Warmed39 s.vm → Back l R p e below s args y 3 W (fun A a => a = as' ∧ A.U.heap = h ∧ A.cells + kc ≤ R.cells ∧ A.slots + ks ≤ R.slots)
    (fun A _ v B => ∃ L, (Q v B.U.heap ∧ Fx ws h.size L ∧ Keep h B.U.heap ws) ∧ B.locs = A.locs ++ L ∧ B.cells = A.cells + kc ∧ B.slots = A.slots + ks)
def PayW (l : Launch) (R : Room) (p : Program) (e : Env) (below : List Frame) (args : Array Value) (Z : State) (y : MethodName) (W : Nat) (as' : Array Value) (h : Heap) (kc ks : Nat) (ws : List Addr) (J : Vm → Prop) (Q : Option Value → Vm → Heap → Prop) : Prop :=
  ∀ s : State, Z.Warmed39 s.vm → BackS l R p e below s args y 3 W (fun A a => a = as' ∧ A.U.heap = h ∧ A.cells + kc ≤ R.cells ∧ A.slots + ks ≤ R.slots ∧ J A.U.vm)
    (fun A _ v B => ∃ L, (Q v B.U.vm B.U.heap ∧ Fx ws h.size L ∧ Keep h B.U.heap ws) ∧ B.locs = A.locs ++ L ∧ B.cells = A.cells + kc ∧ B.slots = A.slots + ks)
theorem MetN.pay {W : Nat} (M : MetN l Z y bytes maxL ret' [] rm as' h ws QN) (wc : (Jvm.Cond.code y bytes maxL ret').before a0 Z = true) (wz : (Jvm.Cond.initialized y.cls).before a0 Z = true) (hf : rm.frames + 1 ≤ R.frames) (hl : W + (maxL + 11) + rm.locals ≤ R.locals) :
    PayN l R p e below args Z y W as' h rm.cells rm.slots ws QN := fun s hZ => backOf (Q := fun v h' L => QN v h' ∧ Fx ws h.size L ∧ Keep h h' ws) M hZ wc wz hf hl
theorem MetW.pay {W : Nat} (M : MetW l Z y bytes maxL ret' [] rm as' h ws J Q) (wc : (Jvm.Cond.code y bytes maxL ret').before a0 Z = true) (wz : (Jvm.Cond.initialized y.cls).before a0 Z = true) (hf : rm.frames + 1 ≤ R.frames) (hl : W + (maxL + 11) + rm.locals ≤ R.locals) :
    PayW l R p e below args Z y W as' h rm.cells rm.slots ws J Q := fun s hZ =>
  BackS.of_freeW (bytes := bytes) (maxL := maxL) (ret := ret') (E := fun _ _ o t L k n => k = rm.cells ∧ n = rm.slots ∧ ∃ v, o = .returned v ∧ (Q v t.vm t.heap ∧ Fx ws h.size L ∧ Keep h t.heap ws)) M hf hl
    (fun m meth c A a Y hp => have hU : Z.Warmed39 A.U.vm := wtrans hZ Y.warmed
      ⟨by show (Jvm.Cond.and _ .tt).before a A.U = true; rw [Cond.before_and, mv hU wc]; rfl, mv hU wc, mv hU wz, hp.2.2.1, hp.2.2.2.1⟩)
    (fun m meth c A a g mk Y hp => ⟨hp.1, wtrans hZ Y.warmed, hp.2.1, hp.2.2.2.2⟩) (fun _ _ _ _ _ _ _ _ _ => trivial)
    (fun _ _ _ _ ⟨v, L, h1, h2, h3⟩ => ⟨L, _, _, h3, rfl, rfl, v, h1, h2⟩)
    (fun m meth c A a g mk v t L k n Y hp _ _ ⟨e1, e2, v', e3, e4⟩ => by cases e3; subst e1 e2; exact ⟨L, e4, rfl, rfl, rfl⟩)
theorem fx_app {L L' : List Loc} {n n' : Nat} (F : Fx ws n L) (F' : Fx ws' n' L') (q : ∀ w ∈ ws', w ∈ ws ∨ n ≤ w) (r : n ≤ n') : Fx ws n (L ++ L') := fun y hy =>
  (List.mem_append.mp hy).elim (F y) fun z => (F' y z).elim (q _) fun u => Or.inr (Nat.le_trans r u)
/-- invokestatic, by its contract -/
theorem Hs.callS (H : Hs p l e R s m args below meth c Z own ws V T h cells slots) {index : Nat} (w1 : (Jvm.Cond.methodLink own index y).before a0 Z = true) (w2 : (Jvm.Cond.static y).before a0 Z = true) (w3 : (Jvm.Cond.initialized y.cls).before a0 Z = true) (w4 : (Jvm.Cond.code y bytes maxL ret').before a0 Z = true)
    (hy : y.cls ≠ "java/lang/invoke/MethodHandle" ∧ y.cls ≠ "java/lang/invoke/VarHandle") {W kc ks : Nat} (P : PayN l R p e below args Z y W as' h kc ks ws' QN) (hg : g.method = m) (hsize : g.locals.size = c.maxLocals) {argsL rest : List Value} (hlen : ∀ sig, parseMethodDescriptor y.desc = some sig → argsL.length = sig.parameters.length)
    (hst : g.stack = argsL.reverse ++ rest) (ha : argsL.toArray = as') (hW : 2 * g.monitorRoom + (rest.map fun v => v.category).sum ≤ W) (hd : decode c.code g.pc = .ok (.invokestatic index, 3)) (hc : cells + kc ≤ R.cells) (hl : slots + ks ≤ R.slots) (hws : ∀ w ∈ ws', w ∈ ws ∨ s.heap.size ≤ w) :
    ∃ v T' h', Hs p l e R s m args below meth c Z own ws V T' h' (cells + kc) (slots + ks) ∧ QN v h' ∧ Keep h h' ws' ∧ ∀ t, Steps p.tables e below (T'.setTop { g with pc := g.pc + 3, stack := v.toList ++ rest }) t → Steps p.tables e below (T.setTop g) t := by
  have ge := H.ge
  obtain ⟨vm0, k0, locs, hx, X, hS, hk, hZ, ho, eT, F, hV, O, hw⟩ := H
  obtain ⟨v, vm1, ⟨U, L', c', s'⟩, hW1, X', ⟨L, ⟨q1, q2, q3⟩, rfl, rfl, rfl⟩, st⟩ := Jvm.LawKit.callS X hx ho (mvT (s := s.setVm vm0) hZ w1) (mvT (s := s.setVm vm0) hZ w2) (mvT (s := s.setVm vm0) hZ w3) (mvT (s := s.setVm vm0) hZ w4) hy (P (s.setVm vm0) hZ) hg hsize hlen hst hW hd (fun _ _ => ⟨ha, eT, hc, hl⟩)
  exact ⟨v, U, U.heap, ⟨vm0, k0, _, hx, X', hS, Nat.le_trans hk q3.1, hZ, ho, rfl, fx_app F q2 hws ge, hV, O, hw⟩, q1, q3, st⟩
theorem Hs.callSW (H : Hs p l e R s m args below meth c Z own ws V T h cells slots) {index : Nat} (w1 : (Jvm.Cond.methodLink own index y).before a0 Z = true) (w2 : (Jvm.Cond.static y).before a0 Z = true) (w3 : (Jvm.Cond.initialized y.cls).before a0 Z = true) (w4 : (Jvm.Cond.code y bytes maxL ret').before a0 Z = true)
    (hy : y.cls ≠ "java/lang/invoke/MethodHandle" ∧ y.cls ≠ "java/lang/invoke/VarHandle") {W kc ks : Nat} (P : PayW l R p e below args Z y W as' h kc ks ws' J Q) (hg : g.method = m) (hsize : g.locals.size = c.maxLocals) {argsL rest : List Value} (hlen : ∀ sig, parseMethodDescriptor y.desc = some sig → argsL.length = sig.parameters.length)
    (hst : g.stack = argsL.reverse ++ rest) (ha : argsL.toArray = as') (hW : 2 * g.monitorRoom + (rest.map fun v => v.category).sum ≤ W) (hd : decode c.code g.pc = .ok (.invokestatic index, 3)) (hc : cells + kc ≤ R.cells) (hl : slots + ks ≤ R.slots) (hws : ∀ w ∈ ws', w ∈ ws ∨ s.heap.size ≤ w)
    (hJ : ∀ (U : State) (vm1 : Vm), V U.vm → U.WarmedH vm1 → J vm1) :
    ∃ v T' h', Hs p l e R s m args below meth c Z own ws (fun v => v = T'.vm) T' h' (cells + kc) (slots + ks) ∧ Q v T'.vm h' ∧ Keep h h' ws' ∧ ∀ t, Steps p.tables e below (T'.setTop { g with pc := g.pc + 3, stack := v.toList ++ rest }) t → Steps p.tables e below (T.setTop g) t := by
  have ge := H.ge
  obtain ⟨vm0, k0, locs, hx, X, hS, hk, hZ, ho, eT, F, hV, O, hw⟩ := H
  obtain ⟨v, vm1, ⟨U, L', c', s'⟩, hW1, X', hS', hgr, ⟨L, ⟨q1, q2, q3⟩, rfl, rfl, rfl⟩, st⟩ := callSS X hx ho (mvT (s := s.setVm vm0) hZ w1) (mvT (s := s.setVm vm0) hZ w2) (mvT (s := s.setVm vm0) hZ w3) (mvT (s := s.setVm vm0) hZ w4) hy (P (s.setVm vm0) hZ) hg hsize hlen hst hW hd (fun vm1 hw1 => ⟨ha, eT, hc, hl, hJ _ _ hV hw1⟩)
  obtain ⟨r1, r2, r3, r4⟩ := rebS hS (by rw [← eT] at hk; exact hk) X' hS' hgr hZ ho
  exact ⟨v, U, U.heap, ⟨U.vm, _, _, hx, r1, r2, Nat.le_refl _, r3, r4, rfl, fx_app F q2 hws ge, rfl, O, hw⟩, q1, q3, fun t k => st.trans k⟩
/-- invokevirtual, by its contract -/
theorem Hs.callV (H : Hs p l e R s m args below meth c Z own ws V T h cells slots) {index : Nat} {C : String} (w1 : (Jvm.Cond.methodLink own index y).before a0 Z = true) (w2 : (Jvm.Cond.declares y).before a0 Z = true) (w3 : (Jvm.Cond.selects C y y).before a0 Z = true) (w4 : (Jvm.Cond.instanceMethod y).before a0 Z = true)
    (hy : y.cls ≠ "java/lang/invoke/MethodHandle" ∧ y.cls ≠ "java/lang/invoke/VarHandle") {W kc ks : Nat} (P : PayN l R p e below args Z y W as' h kc ks ws' QN) {b : Addr} (E : Exa Z h b C) (hg : g.method = m) (hsize : g.locals.size = c.maxLocals) {argsL rest : List Value} (hlen : ∀ sig, parseMethodDescriptor y.desc = some sig → argsL.length = sig.parameters.length)
    (hst : g.stack = argsL.reverse ++ .ref b :: rest) (ha : (Value.ref b :: argsL).toArray = as') (hW : 2 * g.monitorRoom + (rest.map fun v => v.category).sum ≤ W) (hd : decode c.code g.pc = .ok (.invokevirtual index, 3)) (hc : cells + kc ≤ R.cells) (hl : slots + ks ≤ R.slots) (hws : ∀ w ∈ ws', w ∈ ws ∨ s.heap.size ≤ w) :
    ∃ v T' h', Hs p l e R s m args below meth c Z own ws V T' h' (cells + kc) (slots + ks) ∧ QN v h' ∧ Keep h h' ws' ∧ ∀ t, Steps p.tables e below (T'.setTop { g with pc := g.pc + 3, stack := v.toList ++ rest }) t → Steps p.tables e below (T.setTop g) t := by
  have ge := H.ge
  obtain ⟨vm0, k0, locs, hx, X, hS, hk, hZ, ho, eT, F, hV, O, hw⟩ := H
  obtain ⟨cB, kB, i1, i2, i3⟩ := isOf (s := s.setVm vm0) hZ eT E
  obtain ⟨v, vm1, ⟨U, L', c', s'⟩, hW1, X', ⟨L, ⟨q1, q2, q3⟩, rfl, rfl, rfl⟩, st⟩ := X.virtualBack hx ho (mvT (s := s.setVm vm0) hZ w1) (mvT (s := s.setVm vm0) hZ w2) (notFace_of_selects (args := #[]) (mvT (s := s.setVm vm0) hZ w3)) (mvT (s := s.setVm vm0) hZ w3) (mvT (s := s.setVm vm0) hZ w4) hy (P (s.setVm vm0) hZ) i1 i3 hg hsize (Steps.refl _) hlen hst hW hd (fun _ _ => ⟨ha, eT, hc, hl⟩)
  exact ⟨v, U, U.heap, ⟨vm0, k0, _, hx, X', hS, Nat.le_trans hk q3.1, hZ, ho, rfl, fx_app F q2 hws ge, hV, O, hw⟩, q1, q3, fun t k => st.trans k⟩
theorem Hs.callVW (H : Hs p l e R s m args below meth c Z own ws V T h cells slots) {index : Nat} {C : String} (w1 : (Jvm.Cond.methodLink own index y).before a0 Z = true) (w2 : (Jvm.Cond.declares y).before a0 Z = true) (w3 : (Jvm.Cond.selects C y y).before a0 Z = true) (w4 : (Jvm.Cond.instanceMethod y).before a0 Z = true)
    (hy : y.cls ≠ "java/lang/invoke/MethodHandle" ∧ y.cls ≠ "java/lang/invoke/VarHandle") {W kc ks : Nat} (P : PayW l R p e below args Z y W as' h kc ks ws' J Q) {b : Addr} (E : Exa Z h b C) (hg : g.method = m) (hsize : g.locals.size = c.maxLocals) {argsL rest : List Value} (hlen : ∀ sig, parseMethodDescriptor y.desc = some sig → argsL.length = sig.parameters.length)
    (hst : g.stack = argsL.reverse ++ .ref b :: rest) (ha : (Value.ref b :: argsL).toArray = as') (hW : 2 * g.monitorRoom + (rest.map fun v => v.category).sum ≤ W) (hd : decode c.code g.pc = .ok (.invokevirtual index, 3)) (hc : cells + kc ≤ R.cells) (hl : slots + ks ≤ R.slots) (hws : ∀ w ∈ ws', w ∈ ws ∨ s.heap.size ≤ w)
    (hJ : ∀ (U : State) (vm1 : Vm), V U.vm → U.WarmedH vm1 → J vm1) :
    ∃ v T' h', Hs p l e R s m args below meth c Z own ws (fun v => v = T'.vm) T' h' (cells + kc) (slots + ks) ∧ Q v T'.vm h' ∧ Keep h h' ws' ∧ ∀ t, Steps p.tables e below (T'.setTop { g with pc := g.pc + 3, stack := v.toList ++ rest }) t → Steps p.tables e below (T.setTop g) t := by
  have ge := H.ge
  obtain ⟨vm0, k0, locs, hx, X, hS, hk, hZ, ho, eT, F, hV, O, hw⟩ := H
  obtain ⟨cB, kB, i1, i2, i3⟩ := isOf (s := s.setVm vm0) hZ eT E
  obtain ⟨v, vm1, ⟨U, L', c', s'⟩, hW1, X', hS', hgr, ⟨L, ⟨q1, q2, q3⟩, rfl, rfl, rfl⟩, st⟩ := X.virtualBackS hx ho (mvT (s := s.setVm vm0) hZ w1) (mvT (s := s.setVm vm0) hZ w2) (notFace_of_selects (args := #[]) (mvT (s := s.setVm vm0) hZ w3)) (mvT (s := s.setVm vm0) hZ w3) (mvT (s := s.setVm vm0) hZ w4) hy (P (s.setVm vm0) hZ) i1 i3 hg hsize (Steps.refl _) hlen hst hW hd (fun vm1 hw1 => ⟨ha, eT, hc, hl, hJ _ _ hV hw1⟩)
  obtain ⟨r1, r2, r3, r4⟩ := rebS hS (by rw [← eT] at hk; exact hk) X' hS' hgr hZ ho
  exact ⟨v, U, U.heap, ⟨U.vm, _, _, hx, r1, r2, Nat.le_refl _, r3, r4, rfl, fx_app F q2 hws ge, rfl, O, hw⟩, q1, q3, fun t k => st.trans k⟩
/-- a constructor, by its contract -/
theorem Hs.callI (H : Hs p l e R s m args below meth c Z own ws V T h cells slots) {index : Nat} (hy1 : y.name = "<init>") (w1 : (Jvm.Cond.methodLink own index y).before a0 Z = true) (w2 : (Jvm.Cond.instanceMethod y).before a0 Z = true) (w3 : (Jvm.Cond.code y bytes maxL none).before a0 Z = true)
    (hy : y.cls ≠ "java/lang/invoke/MethodHandle" ∧ y.cls ≠ "java/lang/invoke/VarHandle") {W kc ks : Nat} (P : PayN l R p e below args Z y W as' h kc ks ws' QN) (hg : g.method = m) (hsize : g.locals.size = c.maxLocals) {b : Addr} {argsL rest : List Value} (hlen : ∀ sig, parseMethodDescriptor y.desc = some sig → argsL.length = sig.parameters.length)
    (hst : g.stack = argsL.reverse ++ .ref b :: rest) (ha : (Value.ref b :: argsL).toArray = as') (hW : 2 * g.monitorRoom + (rest.map fun v => v.category).sum ≤ W) (hd : decode c.code g.pc = .ok (.invokespecial index, 3)) (hc : cells + kc ≤ R.cells) (hl : slots + ks ≤ R.slots) (hws : ∀ w ∈ ws', w ∈ ws ∨ s.heap.size ≤ w) :
    ∃ v T' h', Hs p l e R s m args below meth c Z own ws V T' h' (cells + kc) (slots + ks) ∧ QN v h' ∧ Keep h h' ws' ∧ ∀ t, Steps p.tables e below (T'.setTop { g with pc := g.pc + 3, stack := v.toList ++ rest }) t → Steps p.tables e below (T.setTop g) t := by
  have ge := H.ge
  obtain ⟨vm0, k0, locs, hx, X, hS, hk, hZ, ho, eT, F, hV, O, hw⟩ := H
  obtain ⟨v, vm1, ⟨U, L', c', s'⟩, hW1, X', ⟨L, ⟨q1, q2, q3⟩, rfl, rfl, rfl⟩, st⟩ := X.specialBack hx hy1 ho (mvT (s := s.setVm vm0) hZ w1) (mvT (s := s.setVm vm0) hZ w2) (mvT (s := s.setVm vm0) hZ w3) hy (P (s.setVm vm0) hZ) hg hsize (Steps.refl _) hlen hst hW hd (fun _ _ => ⟨ha, eT, hc, hl⟩)
  exact ⟨v, U, U.heap, ⟨vm0, k0, _, hx, X', hS, Nat.le_trans hk q3.1, hZ, ho, rfl, fx_app F q2 hws ge, hV, O, hw⟩, q1, q3, fun t k => st.trans k⟩
theorem Hs.callIW (H : Hs p l e R s m args below meth c Z own ws V T h cells slots) {index : Nat} (hy1 : y.name = "<init>") (w1 : (Jvm.Cond.methodLink own index y).before a0 Z = true) (w2 : (Jvm.Cond.instanceMethod y).before a0 Z = true) (w3 : (Jvm.Cond.code y bytes maxL none).before a0 Z = true)
    (hy : y.cls ≠ "java/lang/invoke/MethodHandle" ∧ y.cls ≠ "java/lang/invoke/VarHandle") {W kc ks : Nat} (P : PayW l R p e below args Z y W as' h kc ks ws' J Q) (hg : g.method = m) (hsize : g.locals.size = c.maxLocals) {b : Addr} {argsL rest : List Value} (hlen : ∀ sig, parseMethodDescriptor y.desc = some sig → argsL.length = sig.parameters.length)
    (hst : g.stack = argsL.reverse ++ .ref b :: rest) (ha : (Value.ref b :: argsL).toArray = as') (hW : 2 * g.monitorRoom + (rest.map fun v => v.category).sum ≤ W) (hd : decode c.code g.pc = .ok (.invokespecial index, 3)) (hc : cells + kc ≤ R.cells) (hl : slots + ks ≤ R.slots) (hws : ∀ w ∈ ws', w ∈ ws ∨ s.heap.size ≤ w)
    (hJ : ∀ (U : State) (vm1 : Vm), V U.vm → U.WarmedH vm1 → J vm1) :
    ∃ v T' h', Hs p l e R s m args below meth c Z own ws (fun v => v = T'.vm) T' h' (cells + kc) (slots + ks) ∧ Q v T'.vm h' ∧ Keep h h' ws' ∧ ∀ t, Steps p.tables e below (T'.setTop { g with pc := g.pc + 3, stack := v.toList ++ rest }) t → Steps p.tables e below (T.setTop g) t := by
  have ge := H.ge
  obtain ⟨vm0, k0, locs, hx, X, hS, hk, hZ, ho, eT, F, hV, O, hw⟩ := H
  obtain ⟨v, vm1, ⟨U, L', c', s'⟩, hW1, X', hS', hgr, ⟨L, ⟨q1, q2, q3⟩, rfl, rfl, rfl⟩, st⟩ := X.specialBackS hx hy1 ho (mvT (s := s.setVm vm0) hZ w1) (mvT (s := s.setVm vm0) hZ w2) (mvT (s := s.setVm vm0) hZ w3) hy (P (s.setVm vm0) hZ) hg hsize (Steps.refl _) hlen hst hW hd (fun vm1 hw1 => ⟨ha, eT, hc, hl, hJ _ _ hV hw1⟩)
  obtain ⟨r1, r2, r3, r4⟩ := rebS hS (by rw [← eT] at hk; exact hk) X' hS' hgr hZ ho
  exact ⟨v, U, U.heap, ⟨U.vm, _, _, hx, r1, r2, Nat.le_refl _, r3, r4, rfl, fx_app F q2 hws ge, rfl, O, hw⟩, q1, q3, fun t k => st.trans k⟩
/-- a payer that books no more than kc cells and ks slots -/
def PayM (l : Launch) (R : Room) (p : Program) (e : Env) (below : List Frame) (args : Array Value) (Z : State) (y : MethodName) (W : Nat) (as' : Array Value) (h : Heap) (kc ks : Nat) (ws : List Addr) (Q : Option Value → Heap → Prop) : Prop :=
  ∃ kc' ks', kc' ≤ kc ∧ ks' ≤ ks ∧ PayN l R p e below args Z y W as' h kc' ks' ws Q
theorem Hs.callIm (H : Hs p l e R s m args below meth c Z own ws V T h cells slots) {index : Nat} (hy1 : y.name = "<init>") (w1 : (Jvm.Cond.methodLink own index y).before a0 Z = true) (w2 : (Jvm.Cond.instanceMethod y).before a0 Z = true) (w3 : (Jvm.Cond.code y bytes maxL none).before a0 Z = true)
    (hy : y.cls ≠ "java/lang/invoke/MethodHandle" ∧ y.cls ≠ "java/lang/invoke/VarHandle") {W kc ks : Nat} (P : PayM l R p e below args Z y W as' h kc ks ws' QN) (hg : g.method = m) (hsize : g.locals.size = c.maxLocals) {b : Addr} {argsL rest : List Value} (hlen : ∀ sig, parseMethodDescriptor y.desc = some sig → argsL.length = sig.parameters.length)
    (hst : g.stack = argsL.reverse ++ .ref b :: rest) (ha : (Value.ref b :: argsL).toArray = as') (hW : 2 * g.monitorRoom + (rest.map fun v => v.category).sum ≤ W) (hd : decode c.code g.pc = .ok (.invokespecial index, 3)) (hc : cells + kc ≤ R.cells) (hl : slots + ks ≤ R.slots) (hws : ∀ w ∈ ws', w ∈ ws ∨ s.heap.size ≤ w) :
    ∃ v T' h', Hs p l e R s m args below meth c Z own ws V T' h' (cells + kc) (slots + ks) ∧ QN v h' ∧ Keep h h' ws' ∧ ∀ t, Steps p.tables e below (T'.setTop { g with pc := g.pc + 3, stack := v.toList ++ rest }) t → Steps p.tables e below (T.setTop g) t := by
  obtain ⟨kc', ks', q1, q2, P'⟩ := P
  obtain ⟨v, T', h', H', r⟩ := H.callI hy1 w1 w2 w3 hy P' hg hsize hlen hst ha hW hd (by omega) (by omega) hws
  exact ⟨v, T', h', H'.more (by omega) (by omega), r⟩
/-! heap steps -/
theorem ext_keep (E : Ext h h') : Keep h h' [] := (Keep.refl h []).ext E
theorem Hs.newO (H : Hs p l e R s m args below meth c Z own ws V T h cells slots) {C : String} {index n : Nat} (w : (Jvm.Cond.classLink own index C).before a0 Z = true) (wi : (Jvm.Cond.instantiable C n).before a0 Z = true) (wz : (Jvm.Cond.initialized C).before a0 Z = true) (hg : g.method = m) (hd : decode c.code g.pc = .ok (.new index, 3)) (hc : cells + 1 ≤ R.cells) (hl : slots + n ≤ R.slots) :
    ∃ (a : Addr) (T' : State) (h' : Heap), @Eq Nat a h.size ∧ Hs p l e R s m args below meth c Z own ws V T' h' (cells + 1) (slots + n) ∧ Keep h h' [] ∧ Exa Z h' a C ∧ (∀ {O nm d : String} {ty : FieldType}, Laid Z a0 C O nm d → parseFieldDescriptor d = some ty → Fld Z h' a O nm d (defaultValue ty)) ∧
      ∀ t, Steps p.tables e below (T'.setTop { g with pc := g.pc + 3, stack := .ref a :: g.stack }) t → Steps p.tables e below (T.setTop g) t := by
  obtain ⟨vm0, k0, locs, hx, X, hS, hk, hZ, ho, eT, r⟩ := H
  obtain ⟨T', h', X', e', E, A, D, -, st⟩ := RoadKit.newO X hx (s := s.setVm vm0) hZ ho w wi wz eT hg hd hc hl
  exact ⟨_, T', h', rfl, ⟨vm0, k0, locs, hx, X', hS, Nat.le_trans hk E.1, hZ, ho, e', r⟩, ext_keep E, A, D, st⟩
theorem Hs.newP (H : Hs p l e R s m args below meth c Z own ws V T h cells slots) {aty : ArrayType} (w : (Jvm.Cond.arrayClass (newarray.typeOf aty)).before a0 Z = true) (hg : g.method = m) (hd : decode c.code g.pc = .ok (.newarray aty, 2)) {n : Int32} {rest : List Value} (hs : g.stack = .int n :: rest) (hn : ¬ n < 0) {cap : Nat} (hcap : n.toNatClampNeg ≤ cap) (hb : cap * 8 ≤ 536870912) (hc : cells + 1 ≤ R.cells) (hl : slots + cap ≤ R.slots) :
    ∃ (a : Addr) (kA : ClassId) (T' : State) (h' : Heap), @Eq Nat a h.size ∧ Hs p l e R s m args below meth c Z own ws V T' h' (cells + 1) (slots + cap) ∧ Keep h h' [] ∧ Arv Z h' a kA (newarray.typeOf aty) n [] (defaultValue (newarray.typeOf aty)) ∧
      ∀ t, Steps p.tables e below (T'.setTop { g with pc := g.pc + 2, stack := .ref a :: rest }) t → Steps p.tables e below (T.setTop g) t := by
  obtain ⟨vm0, k0, locs, hx, X, hS, hk, hZ, ho, eT, r⟩ := H
  obtain ⟨T', h', cA, X', e', E, A, st⟩ := RoadKit.newP X hx (s := s.setVm vm0) hZ w eT hg hd hs hn hcap hb hc hl
  exact ⟨_, cA, T', h', rfl, ⟨vm0, k0, locs, hx, X', hS, Nat.le_trans hk E.1, hZ, ho, e', r⟩, ext_keep E, Arv.new A hn, st⟩
theorem arv_snoc {a : Addr} {kA : ClassId} {ty : FieldType} {z j : Int32} {vs : List Value} {dv v : Value} (F : Arv Z h a kA ty z vs dv) (hi : j.toNatClampNeg = vs.length) (hv : fits ty v = true) (W : Wr h h' a j.toNatClampNeg v) : Arv Z h' a kA ty z (vs ++ [v]) dv := by
  have F2 : Arv Z h a kA ty z (vs ++ [dv]) dv := F.pad (pad_rep vs dv 1)
  obtain ⟨cl, A, q1, S, q3, HH, G⟩ := F2
  have := Arv.set A q1 S q3 HH G hv W vs.length hi (by simp)
  simpa using this
/-- castore at the next place -/
theorem Hs.stC (H : Hs p l e R s m args below meth c Z own ws V T h cells slots) {a : Addr} {kA : ClassId} {z j x : Int32} {vs : List Value} {dv : Value} (F : Arv Z h a kA .char z vs dv) (hj : ¬ j < 0 ∧ j < z) (hi : j.toNatClampNeg = vs.length) (ga : a ∈ ws ∨ s.heap.size ≤ a) (hg : g.method = m) {rest : List Value} (hs : g.stack = .int x :: .int j :: .ref a :: rest) (hd : decode c.code g.pc = .ok (.castore, 1)) :
    ∃ (T' : State) (h' : Heap), Hs p l e R s m args below meth c Z own ws V T' h' cells slots ∧ Keep h h' [a] ∧ Arv Z h' a kA .char z (vs ++ [.int (nar .char x)]) dv ∧
      ∀ t, Steps p.tables e below (T'.setTop { g with pc := g.pc + 1, stack := rest }) t → Steps p.tables e below (T.setTop g) t := by
  obtain ⟨vm0, k0, locs, hx, X, hS, hk, hZ, ho, eT, F0, r⟩ := H
  have FF := F
  obtain ⟨cl, A, q1, S, q3, HH, G⟩ := F
  obtain ⟨T', h', X', e', W, st⟩ := RoadKit.stC X hx (s := s.setVm vm0) hZ eT A (inb_of S hj) hg hs hd
  exact ⟨T', h', ⟨vm0, k0, _, hx, X', hS, by rw [W.size]; exact hk, hZ, ho, e', fun y hy => (List.mem_append.mp hy).elim (F0 y) (fun q => by cases List.mem_singleton.mp q; exact ga), r⟩, Keep.of_wr W, arv_snoc FF hi (fits_nar_char _) W, st⟩
/-- castore at a known place -/
theorem Hs.stCi (H : Hs p l e R s m args below meth c Z own ws V T h cells slots) {a : Addr} {kA : ClassId} {z j x : Int32} {vs : List Value} {dv : Value} (F : Arv Z h a kA .char z vs dv) (hj : ¬ j < 0 ∧ j < z) {i : Nat} (hi : j.toNatClampNeg = i) (hl : i < vs.length) (ga : a ∈ ws ∨ s.heap.size ≤ a) (hg : g.method = m) {rest : List Value} (hs : g.stack = .int x :: .int j :: .ref a :: rest) (hd : decode c.code g.pc = .ok (.castore, 1)) :
    ∃ (T' : State) (h' : Heap), Hs p l e R s m args below meth c Z own ws V T' h' cells slots ∧ Keep h h' [a] ∧ Arv Z h' a kA .char z (vs.set i (.int (nar .char x))) dv ∧
      ∀ t, Steps p.tables e below (T'.setTop { g with pc := g.pc + 1, stack := rest }) t → Steps p.tables e below (T.setTop g) t := by
  obtain ⟨vm0, k0, locs, hx, X, hS, hk, hZ, ho, eT, F0, r⟩ := H
  obtain ⟨cl, A, q1, S, q3, HH, G⟩ := F
  obtain ⟨T', h', X', e', W, st⟩ := RoadKit.stC X hx (s := s.setVm vm0) hZ eT A (inb_of S hj) hg hs hd
  exact ⟨T', h', ⟨vm0, k0, _, hx, X', hS, by rw [W.size]; exact hk, hZ, ho, e', fun y hy => (List.mem_append.mp hy).elim (F0 y) (fun q => by cases List.mem_singleton.mp q; exact ga), r⟩, Keep.of_wr W, Arv.set A q1 S q3 HH G (fits_nar_char _) W i hi hl, st⟩
/-- bastore at the next place -/
theorem Hs.stB (H : Hs p l e R s m args below meth c Z own ws V T h cells slots) {a : Addr} {kA : ClassId} {z j x : Int32} {vs : List Value} {dv : Value} (F : Arv Z h a kA .byte z vs dv) (hj : ¬ j < 0 ∧ j < z) (hi : j.toNatClampNeg = vs.length) (ga : a ∈ ws ∨ s.heap.size ≤ a) (hg : g.method = m) {rest : List Value} (hs : g.stack = .int x :: .int j :: .ref a :: rest) (hd : decode c.code g.pc = .ok (.bastore, 1)) :
    ∃ (T' : State) (h' : Heap), Hs p l e R s m args below meth c Z own ws V T' h' cells slots ∧ Keep h h' [a] ∧ Arv Z h' a kA .byte z (vs ++ [.int (nar .byte x)]) dv ∧
      ∀ t, Steps p.tables e below (T'.setTop { g with pc := g.pc + 1, stack := rest }) t → Steps p.tables e below (T.setTop g) t := by
  obtain ⟨vm0, k0, locs, hx, X, hS, hk, hZ, ho, eT, F0, r⟩ := H
  have FF := F
  obtain ⟨cl, A, q1, S, q3, HH, G⟩ := F
  obtain ⟨T', h', X', e', W, st⟩ := RoadKit.stB X hx (s := s.setVm vm0) hZ eT A (inb_of S hj) hg hs hd
  exact ⟨T', h', ⟨vm0, k0, _, hx, X', hS, by rw [W.size]; exact hk, hZ, ho, e', fun y hy => (List.mem_append.mp hy).elim (F0 y) (fun q => by cases List.mem_singleton.mp q; exact ga), r⟩, Keep.of_wr W, arv_snoc FF hi (fits_nar_byte _) W, st⟩
theorem Hs.getF (H : Hs p l e R s m args below meth c Z own ws V T h cells slots) {R0 O n d host : String} {index : Nat} (w : (Jvm.Cond.fieldLink own index R0 n d).before a0 Z = true ∨ (Jvm.Cond.fieldLinkNest own index R0 n d host).before a0 Z = true) (via : Via Z R0 O n d)
    {a : Addr} {v : Value} (F : Fld Z h a O n d v) (hg : g.method = m) {rest : List Value} (hs : g.stack = .ref a :: rest) (hd : decode c.code g.pc = .ok (.getfield index, 3)) :
    ∃ T', Hs p l e R s m args below meth c Z own ws V T' h cells slots ∧ ∀ t, Steps p.tables e below (T'.setTop { g with pc := g.pc + 3, stack := v :: rest }) t → Steps p.tables e below (T.setTop g) t := by
  obtain ⟨vm0, k0, locs, hx, X, hS, hk, hZ, ho, eT, r⟩ := H
  obtain ⟨T', X', e', st⟩ := RoadKit.getF X hx (s := s.setVm vm0) hZ ho w via eT F hg hs hd
  exact ⟨T', ⟨vm0, k0, locs, hx, X', hS, hk, hZ, ho, e', r⟩, st⟩
theorem Hs.getS (H : Hs p l e R s m args below meth c Z own ws V T h cells slots) {R0 O n d host : String} {index : Nat} (w : (Jvm.Cond.fieldLink own index R0 n d).before a0 Z = true ∨ (Jvm.Cond.fieldLinkNest own index R0 n d host).before a0 Z = true) (via : Via Z R0 O n d)
    {v : Value} (F : Sta Z h O n d v) (hg : g.method = m) (hd : decode c.code g.pc = .ok (.getstatic index, 3)) :
    ∃ T', Hs p l e R s m args below meth c Z own ws V T' h cells slots ∧ ∀ t, Steps p.tables e below (T'.setTop { g with pc := g.pc + 3, stack := v :: g.stack }) t → Steps p.tables e below (T.setTop g) t := by
  obtain ⟨vm0, k0, locs, hx, X, hS, hk, hZ, ho, eT, r⟩ := H
  obtain ⟨T', X', e', st⟩ := RoadKit.getS2 X hx (s := s.setVm vm0) hZ ho w via eT F hg hd
  exact ⟨T', ⟨vm0, k0, locs, hx, X', hS, hk, hZ, ho, e', r⟩, st⟩
theorem Hs.putF (H : Hs p l e R s m args below meth c Z own ws V T h cells slots) {R0 O n d host C : String} {index kk : Nat} {ty : FieldType} (w : (Jvm.Cond.fieldLink own index R0 n d).before a0 Z = true ∨ (Jvm.Cond.fieldLinkNest own index R0 n d host).before a0 Z = true) (via : Via Z R0 O n d)
    {a : Addr} {v old : Value} (F : Fld Z h a O n d old) (E : Exa Z h a C) (L : (Jvm.Cond.lays C O n d).before a0 Z = true ∨ ((Jvm.Cond.laysFinal C O n d).before a0 Z = true ∧ own = O ∧ meth.name = "<init>")) (wi : (Jvm.Cond.instantiable C kk).before a0 Z = true)
    (hty : parseFieldDescriptor d = some ty) (hn : narrow ty v = v) (hf : fits ty v = true) (ga : a ∈ ws ∨ s.heap.size ≤ a) (hg : g.method = m) {rest : List Value} (hs : g.stack = v :: .ref a :: rest) (hd : decode c.code g.pc = .ok (.putfield index, 3)) :
    ∃ (T' : State) (h' : Heap), Hs p l e R s m args below meth c Z own ws V T' h' cells slots ∧ Keep h h' [a] ∧ Wr h h' a (RoadKit.slotOf Z O n d) v ∧ ∀ t, Steps p.tables e below (T'.setTop { g with pc := g.pc + 3, stack := rest }) t → Steps p.tables e below (T.setTop g) t := by
  obtain ⟨vm0, k0, locs, hx, X, hS, hk, hZ, ho, eT, F0, r⟩ := H
  obtain ⟨T', h', X', e', W, st⟩ := RoadKit.putF X hx (s := s.setVm vm0) hZ ho w via eT F E L wi hty hn hf hg hs hd
  exact ⟨T', h', ⟨vm0, k0, _, hx, X', hS, by rw [W.size]; exact hk, hZ, ho, e', fun y hy => (List.mem_append.mp hy).elim (F0 y) (fun q => by cases List.mem_singleton.mp q; exact ga), r⟩, Keep.of_wr W, W, st⟩
theorem Hs.initO (H : Hs p l e R s m args below meth c Z own ws V T h cells slots) {idx : Nat} (w1 : (Jvm.Cond.methodLink own idx Lib.objectInit).before a0 Z = true) (w2 : (Jvm.Cond.instanceMethod Lib.objectInit).before a0 Z = true) (w3 : (Jvm.Cond.code Lib.objectInit ⟨#[0xb1]⟩ 1 none).before a0 Z = true)
    (hg : g.method = m) (hsize : g.locals.size = c.maxLocals) {a : Addr} {rest : List Value} (hs : g.stack = .ref a :: rest) (hd : decode c.code g.pc = .ok (.invokespecial idx, 3)) (hf : 1 ≤ R.frames) {W : Nat} (hW : 2 * g.monitorRoom + (rest.map fun v => v.category).sum ≤ W) (hl : W + 12 ≤ R.locals) :
    ∃ T', Hs p l e R s m args below meth c Z own ws V T' h cells slots ∧ ∀ t, Steps p.tables e below (T'.setTop { g with pc := g.pc + 3, stack := rest }) t → Steps p.tables e below (T.setTop g) t := by
  obtain ⟨vm0, k0, locs, hx, X, hS, hk, hZ, ho, eT, r⟩ := H
  obtain ⟨T', X', e', st⟩ := RoadKit.initO X hx (s := s.setVm vm0) hZ ho w1 w2 w3 eT hg hsize hs hd hf hW hl
  exact ⟨T', ⟨vm0, k0, locs, hx, X', hS, hk, hZ, ho, e', r⟩, st⟩
/-- ldc of a String whose text isn't asked -/
theorem Hs.ldcS (H : Hs p l e R s m args below meth c Z own ws (fun _ => True) T h cells slots) {text : String} {index : Nat} (w : (Jvm.Cond.stringLink own index text).before a0 Z = true) (wS : ∀ a ∈ Bundle.stringAtoms, a.before a0 Z = true) (hg : g.method = m) (hd : decode c.code g.pc = .ok (.ldc index, 2)) {n : Nat} (hn : 4 * text.toList.length ≤ n) (hbig : n ≤ 536870912) (hc : cells + 2 ≤ R.cells) (hl : slots + (n + 4) ≤ R.slots) :
    ∃ (a : Addr) (T' : State) (h' : Heap), Hs p l e R s m args below meth c Z own ws (fun _ => True) T' h' (cells + 2) (slots + (n + 4)) ∧ Keep h h' [] ∧ ∀ t, Steps p.tables e below (T'.setTop { g with pc := g.pc + 2, stack := .ref a :: g.stack }) t → Steps p.tables e below (T.setTop g) t := by
  obtain ⟨vm0, k0, locs, hx, X, hS, hk, hZ, ho, eT, F0, hV, r⟩ := H
  obtain ⟨a, T', h', k1, X', e', E, hS', hk', hZ', ho', st⟩ := RoadKit.ldcS X hx hZ ho w wS eT hS hk hg hd hn hbig hc hl
  exact ⟨a, T', h', ⟨_, k1, locs, hx, X', hS', hk', hZ', ho', e', F0, trivial, r⟩, ext_keep E, st⟩
theorem Hs.ldcI (H : Hs p l e R s m args below meth c Z own ws V T h cells slots) {index : Nat} {n : Int32} (w : (Jvm.Cond.constant own index n).before a0 Z = true) (hg : g.method = m) (hd : decode c.code g.pc = .ok (.ldc index, 2)) :
    ∀ t, Steps p.tables e below (T.setTop { g with pc := g.pc + 2, stack := .int n :: g.stack }) t → Steps p.tables e below (T.setTop g) t := by
  obtain ⟨vm0, k0, locs, hx, X, hS, hk, hZ, ho, eT, r⟩ := H
  exact X.ldcInt hx ho (mvT (s := s.setVm vm0) hZ w) hg hd
theorem Hs.castY (H : Hs p l e R s m args below meth c Z own ws V T h cells slots) {KK : String} {index : Nat} (w : (Jvm.Cond.classLink own index KK).before a0 Z = true) {a : Addr} (F : Ins Z h a KK true) (hg : g.method = m) {rest : List Value} (hs : g.stack = .ref a :: rest) (hd : decode c.code g.pc = .ok (.checkcast index, 3)) :
    ∃ T', Hs p l e R s m args below meth c Z own ws V T' h cells slots ∧ ∀ t, Steps p.tables e below (T'.setTop { g with pc := g.pc + 3 }) t → Steps p.tables e below (T.setTop g) t := by
  obtain ⟨vm0, k0, locs, hx, X, hS, hk, hZ, ho, eT, r⟩ := H
  obtain ⟨T', X', e', st⟩ := RoadKit.castY X hx (s := s.setVm vm0) hZ ho w eT F hg hs hd
  exact ⟨T', ⟨vm0, k0, locs, hx, X', hS, hk, hZ, ho, e', r⟩, st⟩
theorem Hs.instY (H : Hs p l e R s m args below meth c Z own ws V T h cells slots) {KK : String} {index : Nat} (w : (Jvm.Cond.classLink own index KK).before a0 Z = true) {a : Addr} (F : Ins Z h a KK true) (hg : g.method = m) {rest : List Value} (hs : g.stack = .ref a :: rest) (hd : decode c.code g.pc = .ok (.instanceof index, 3)) :
    ∃ T', Hs p l e R s m args below meth c Z own ws V T' h cells slots ∧ ∀ t, Steps p.tables e below (T'.setTop { g with pc := g.pc + 3, stack := .int 1 :: rest }) t → Steps p.tables e below (T.setTop g) t := by
  obtain ⟨vm0, k0, locs, hx, X, hS, hk, hZ, ho, eT, r⟩ := H
  obtain ⟨T', X', e', st⟩ := RoadKit.instY X hx (s := s.setVm vm0) hZ ho w eT F hg hs hd
  exact ⟨T', ⟨vm0, k0, locs, hx, X', hS, hk, hZ, ho, e', r⟩, st⟩
theorem Hs.instNo (H : Hs p l e R s m args below meth c Z own ws V T h cells slots) {C KK : String} {index : Nat} (w : (Jvm.Cond.classLink own index KK).before a0 Z = true) {a : Addr} (E : Exa Z h a C) (F : ∃ c t, Z.vm.findClass C = some c ∧ Z.vm.findClass KK = some t ∧ Z.vm.assignable c t = false) (hg : g.method = m) {rest : List Value} (hs : g.stack = .ref a :: rest) (hd : decode c.code g.pc = .ok (.instanceof index, 3)) :
    ∃ T', Hs p l e R s m args below meth c Z own ws V T' h cells slots ∧ ∀ t, Steps p.tables e below (T'.setTop { g with pc := g.pc + 3, stack := .int 0 :: rest }) t → Steps p.tables e below (T.setTop g) t := by
  obtain ⟨vm0, k0, locs, hx, X, hS, hk, hZ, ho, eT, r⟩ := H
  obtain ⟨T', X', e', st⟩ := RoadKit.instNo X hx (s := s.setVm vm0) hZ (a0 := a0) ho w eT E F hg hs hd
  exact ⟨T', ⟨vm0, k0, locs, hx, X', hS, hk, hZ, ho, e', r⟩, st⟩
/-! arrays read -/
theorem Hs.alen (H : Hs p l e R s m args below meth c Z own ws V T h cells slots) {a : Addr} {kA : ClassId} {ty : FieldType} {z : Int32} {vs : List Value} {dv : Value} (F : Arv Z h a kA ty z vs dv) (hg : g.method = m) {rest : List Value} (hs : g.stack = .ref a :: rest) (hd : decode c.code g.pc = .ok (.arraylength, 1)) :
    ∀ t, Steps p.tables e below (T.setTop { g with pc := g.pc + 1, stack := .int z :: rest }) t → Steps p.tables e below (T.setTop g) t := by
  obtain ⟨vm0, k0, locs, hx, X, hS, hk, hZ, ho, eT, r⟩ := H
  obtain ⟨cl, A, q1, S, q3, HH, G⟩ := F
  intro t k
  refine X.arraylength hx (by rw [eT]; exact A.1) (State.isArrayOf_alike (T := s.setVm vm0) (State.Warmed39.alike (s := Z) hZ) A.2.1) hg hs hd t ?_
  rw [len_of S q3]; exact k
theorem Hs.aald (H : Hs p l e R s m args below meth c Z own ws V T h cells slots) {a : Addr} {kA : ClassId} {ty : FieldType} {z j : Int32} {vs : List Value} {dv v : Value} (F : Arv Z h a kA ty z vs dv) (hty : ty.isReference = true) (hj : ¬ j < 0 ∧ j < z) (hv : vs.getD j.toNatClampNeg dv = v) (hg : g.method = m) {rest : List Value} (hs : g.stack = .int j :: .ref a :: rest) (hd : decode c.code g.pc = .ok (.aaload, 1)) :
    ∀ t, Steps p.tables e below (T.setTop { g with pc := g.pc + 1, stack := v :: rest }) t → Steps p.tables e below (T.setTop g) t := by
  obtain ⟨vm0, k0, locs, hx, X, hS, hk, hZ, ho, eT, r⟩ := H
  obtain ⟨cl, A, q1, S, q3, HH, G⟩ := F
  intro t k
  exact X.aaload hx (by rw [eT]; exact A.1) (State.isArrayOf_alike (T := s.setVm vm0) (State.Warmed39.alike (s := Z) hZ) A.2.1) hty A.2.2 (inb_of S hj) (HH.at (inb_of S hj) hv) hg hs hd t k
theorem Hs.cald (H : Hs p l e R s m args below meth c Z own ws V T h cells slots) {a : Addr} {kA : ClassId} {z j : Int32} {vs : List Value} {dv v : Value} (F : Arv Z h a kA .char z vs dv) (hj : ¬ j < 0 ∧ j < z) (hv : vs.getD j.toNatClampNeg dv = v) (hg : g.method = m) {rest : List Value} (hs : g.stack = .int j :: .ref a :: rest) (hd : decode c.code g.pc = .ok (.caload, 1)) :
    ∀ t, Steps p.tables e below (T.setTop { g with pc := g.pc + 1, stack := v :: rest }) t → Steps p.tables e below (T.setTop g) t := by
  obtain ⟨vm0, k0, locs, hx, X, hS, hk, hZ, ho, eT, r⟩ := H
  obtain ⟨cl, A, q1, S, q3, HH, G⟩ := F
  intro t k
  exact X.caload hx (by rw [eT]; exact A.1) (State.isArrayOf_alike (T := s.setVm vm0) (State.Warmed39.alike (s := Z) hZ) A.2.1) A.2.2 (inb_of S hj) (HH.at (inb_of S hj) hv) hg hs hd t k
theorem Hs.bald (H : Hs p l e R s m args below meth c Z own ws V T h cells slots) {a : Addr} {kA : ClassId} {z j : Int32} {vs : List Value} {dv v : Value} (F : Arv Z h a kA .byte z vs dv) (hj : ¬ j < 0 ∧ j < z) (hv : vs.getD j.toNatClampNeg dv = v) (hg : g.method = m) {rest : List Value} (hs : g.stack = .int j :: .ref a :: rest) (hd : decode c.code g.pc = .ok (.baload, 1)) :
    ∀ t, Steps p.tables e below (T.setTop { g with pc := g.pc + 1, stack := v :: rest }) t → Steps p.tables e below (T.setTop g) t := by
  obtain ⟨vm0, k0, locs, hx, X, hS, hk, hZ, ho, eT, r⟩ := H
  obtain ⟨cl, A, q1, S, q3, HH, G⟩ := F
  intro t k
  exact X.baloadBytes hx (by rw [eT]; exact A.1) (State.isArrayOf_alike (T := s.setVm vm0) (State.Warmed39.alike (s := Z) hZ) A.2.1) A.2.2 (inb_of S hj) (HH.at (inb_of S hj) hv) hg hs hd t k
/-- an array's clone() -/
theorem Hs.clone (H : Hs p l e R s m args below meth c Z own ws V T h cells slots) {ad : String} {index : Nat} (w1 : (Jvm.Cond.methodLink own index ⟨ad, "clone", "()Ljava/lang/Object;"⟩).before a0 Z = true) (w2 : (Jvm.Cond.sameMethod ad "java/lang/Object" "clone" "()Ljava/lang/Object;").before a0 Z = true) (w3 : (Jvm.Cond.native ⟨"java/lang/Object", "clone", "()Ljava/lang/Object;"⟩).before a0 Z = true)
    (w4 : (Jvm.Cond.instanceMethod ⟨"java/lang/Object", "clone", "()Ljava/lang/Object;"⟩).before a0 Z = true) (w5 : (Jvm.Cond.selects ad ⟨ad, "clone", "()Ljava/lang/Object;"⟩ ⟨"java/lang/Object", "clone", "()Ljava/lang/Object;"⟩).before a0 Z = true) (w6 : (Jvm.Cond.castable ad "java/lang/Cloneable").before a0 Z = true)
    {a : Addr} {kA : ClassId} {ty : FieldType} {z : Int32} {vs : List Value} {dv : Value} (F : Arv Z h a kA ty z vs dv) (E : Exa Z h a ad) (hg : g.method = m) (hsize : g.locals.size = c.maxLocals) {rest : List Value} (hst : g.stack = .ref a :: rest) (hd : decode c.code g.pc = .ok (.invokevirtual index, 3))
    (hf : 1 ≤ R.frames) {W cap : Nat} (hW : 2 * g.monitorRoom + (rest.map fun v => v.category).sum ≤ W) (hl : W + 14 ≤ R.locals) (hcap : z.toNatClampNeg ≤ cap) (hc : cells + 1 ≤ R.cells) (hsl : slots + cap ≤ R.slots) :
    ∃ (b : Addr) (T' : State) (h' : Heap), @Eq Nat b h.size ∧ Hs p l e R s m args below meth c Z own ws V T' h' (cells + 1) (slots + cap) ∧ Keep h h' [] ∧ Arv Z h' b kA ty z vs dv ∧ Exa Z h' b ad ∧
      ∀ t, Steps p.tables e below (T'.setTop { g with pc := g.pc + 3, stack := .ref b :: rest }) t → Steps p.tables e below (T.setTop g) t := by
  obtain ⟨vm0, k0, locs, hx, X, hS, hk, hZ, ho, eT, r⟩ := H
  obtain ⟨T', h', X', e', Ex, A, E', st⟩ := cloneH X hx (s := s.setVm vm0) hZ ho w1 w2 w3 w4 w5 w6 eT F.arh E hg hsize hst hd hf hW hl hcap hc hsl
  exact ⟨_, T', h', rfl, ⟨vm0, k0, locs, hx, X', hS, Nat.le_trans hk Ex.1, hZ, ho, e', r⟩, ext_keep Ex, A, E', st⟩
theorem iremH (H : Hs p l e R s m args below meth c Z own ws V T h cells slots) (hx : p.tables.exec = Jvm.exec) (hg : g.method = m) {x y : Int32} {rest : List Value} {target : State} (hd : decode c.code g.pc = .ok (.irem, 1)) (hs : g.stack = .int y :: .int x :: rest) (hy : y ≠ 0)
    (hr : Steps p.tables e below (T.setTop { g with pc := g.pc + 1, stack := .int (x % y) :: rest }) target) : Steps p.tables e below (T.setTop g) target := by
  obtain ⟨vm0, k0, locs, hx', X, -⟩ := H
  exact iremM X hx hg hd hs hy hr
theorem Hs.instNull (H : Hs p l e R s m args below meth c Z own ws V T h cells slots) {index : Nat} (hg : g.method = m) {rest : List Value} (hs : g.stack = .null :: rest) (hd : decode c.code g.pc = .ok (.instanceof index, 3)) :
    ∀ t, Steps p.tables e below (T.setTop { g with pc := g.pc + 3, stack := .int 0 :: rest }) t → Steps p.tables e below (T.setTop g) t := by
  obtain ⟨vm0, k0, locs, hx, X, r⟩ := H
  exact Jvm.Stand.instanceofNull X hx hg hs hd
/-- no object of the class C is one of the class K -/
theorem not_sub {C K : String} {n : Nat} (w : (Jvm.Cond.superclass C "java/lang/Object").before a0 Z = true) (w0 : (Jvm.Cond.noSuperclass "java/lang/Object").before a0 Z = true) (wk : (Jvm.Cond.instantiable K n).before a0 Z = true) (n1 : C ≠ K) (n2 : "java/lang/Object" ≠ K) :
    ∃ c t, Z.vm.findClass C = some c ∧ Z.vm.findClass K = some t ∧ Z.vm.assignable c t = false := by
  obtain ⟨c, h0⟩ := found_sup w
  obtain ⟨p, k, kp, h1, h2, h3, h4, h5, -, h7⟩ := Cond.superclass_spec h0 w
  obtain ⟨t, k', g0, g2, g5, g6, -, -⟩ := Cond.instantiable_spec wk
  obtain ⟨c', k'', r1, r2, r3, -, -⟩ := Cond.noSuperclass_spec w0
  cases h1.symm.trans r1
  have ne := ids_ne h0 g0 n1
  have ne2 := ids_ne r1 g0 n2
  have g7 : k'.isInterface = false := by cases q : k'.isInterface <;> simp [q] at g6 ⊢
  have n3 : ∀ fuel, Z.vm.isSubclassAux fuel c t = false := fun fuel => by
    cases fuel with
    | zero => rfl
    | succ f => cases f with
      | zero => simp [Vm.isSubclassAux, ne, h2, h4]
      | succ f => simp [Vm.isSubclassAux, ne, ne2, h2, h4, r2, r3]
  refine ⟨c, t, h0, g0, ?_⟩
  show Z.vm.assignableAux (255 + 1) c t = false
  simp [Vm.assignableAux, ne, h2, g2, h5, g5, g7, Vm.isSubclass, n3]
/-! branches -/
theorem z_eq_t {x : Int32} (q : x = 0) : ifCond.holds .eq x = true := (if0 _ _).trans (teq q).1
theorem z_eq_f {x : Int32} (q : ¬ x = 0) : ifCond.holds .eq x = false := (if0 _ _).trans (feq q).1
theorem z_ne_f {x : Int32} (q : x = 0) : ifCond.holds .ne x = false := (if0 _ _).trans (teq q).2
theorem z_ne_t {x : Int32} (q : ¬ x = 0) : ifCond.holds .ne x = true := (if0 _ _).trans (feq q).2
theorem z_lt_t {x : Int32} (q : x < 0) : ifCond.holds .lt x = true := (if0 _ _).trans (tlt q).1
theorem z_lt_f {x : Int32} (q : ¬ x < 0) : ifCond.holds .lt x = false := (if0 _ _).trans (flt q).1
theorem z_ge_f {x : Int32} (q : x < 0) : ifCond.holds .ge x = false := (if0 _ _).trans (tlt q).2.1
theorem z_ge_t {x : Int32} (q : ¬ x < 0) : ifCond.holds .ge x = true := (if0 _ _).trans (flt q).2.1
theorem z_gt_t {x : Int32} (q : 0 < x) : ifCond.holds .gt x = true := (if0 _ _).trans (tlt q).2.2.1
theorem z_gt_f {x : Int32} (q : ¬ 0 < x) : ifCond.holds .gt x = false := (if0 _ _).trans (flt q).2.2.1
theorem z_le_f {x : Int32} (q : 0 < x) : ifCond.holds .le x = false := (if0 _ _).trans (tlt q).2.2.2
theorem z_le_t {x : Int32} (q : ¬ 0 < x) : ifCond.holds .le x = true := (if0 _ _).trans (flt q).2.2.2
theorem c_eq_t {x y : Int32} (q : x = y) : if_icmp.holds .eq x y = true := (teq q).1
theorem c_eq_f {x y : Int32} (q : ¬ x = y) : if_icmp.holds .eq x y = false := (feq q).1
theorem c_ne_f {x y : Int32} (q : x = y) : if_icmp.holds .ne x y = false := (teq q).2
theorem c_ne_t {x y : Int32} (q : ¬ x = y) : if_icmp.holds .ne x y = true := (feq q).2
theorem c_lt_t {x y : Int32} (q : x < y) : if_icmp.holds .lt x y = true := (tlt q).1
theorem c_lt_f {x y : Int32} (q : ¬ x < y) : if_icmp.holds .lt x y = false := (flt q).1
theorem c_ge_f {x y : Int32} (q : x < y) : if_icmp.holds .ge x y = false := (tlt q).2.1
theorem c_ge_t {x y : Int32} (q : ¬ x < y) : if_icmp.holds .ge x y = true := (flt q).2.1
theorem c_gt_t {x y : Int32} (q : y < x) : if_icmp.holds .gt x y = true := (tlt q).2.2.1
theorem c_gt_f {x y : Int32} (q : ¬ y < x) : if_icmp.holds .gt x y = false := (flt q).2.2.1
theorem c_le_f {x y : Int32} (q : y < x) : if_icmp.holds .le x y = false := (tlt q).2.2.2
theorem c_le_t {x y : Int32} (q : ¬ y < x) : if_icmp.holds .le x y = true := (flt q).2.2.2
theorem ac_eq_t {x y : Value} (q : x = y) : XT.acmp .eq x y = true := decide_eq_true q
theorem ac_eq_f {x y : Value} (q : ¬ x = y) : XT.acmp .eq x y = false := decide_eq_false q
theorem ac_ne_t {x y : Value} (q : ¬ x = y) : XT.acmp .ne x y = true := decide_eq_true q
theorem ac_ne_f {x y : Value} (q : x = y) : XT.acmp .ne x y = false := decide_eq_false fun r => r q
theorem ref_ne {a b : Addr} (q : ¬ a = b) : ¬ Value.ref a = Value.ref b := fun r => q (Value.ref.inj r)
end Own
end Jvm.Pilot.@@N@@
/- laws to paste: Road.backArv, Road.lenW, Road.empW, Road.wide_lo, Road.wide_hi, Road.low_at, pair_says, shr0, shr1 (cut by pick.py; bodies as the Statement names them) -/
namespace Jvm.Pilot.@@N@@
namespace StrChars
open Jvm Sem ClassFile Op Lib Jvm.Stand Jvm.Free.XT Jvm.Free.ALB Jvm.Free.JM Jvm.Free
open Jvm.Lib.Cold (StaticIs)
/-- a char array whose places are chars -/
def Ch (a : Addr) (A : Cell) (U : State) : Prop := Arr .char a A U ∧ Typed .char A
theorem Ch.mv {a : Addr} {A : Cell} {U U' : State} (h : Ch a A U) (hal : U.vm.Alike U'.vm) (hh : U'.heap = U.heap) : Ch a A U' := ⟨h.1.mv hal hh, h.2⟩
theorem Ch.keep {a : Addr} {A : Cell} {U U' : State} (h : Ch a A U) (hal : U.vm.Alike U'.vm) (hk : U'.heap[a]? = some A) : Ch a A U' := ⟨h.1.keep hal hk, h.2⟩
/-- what place i of a char[]'s cell holds -/
def cv (A : Cell) (i : Nat) : Int32 := match A.slots[i]? with | some (.int x) => x | _ => 0
theorem Ch.get {a : Addr} {A : Cell} {U : State} (h : Ch a A U) {i : Nat} (hi : i < A.slots.size) : A.slots[i]? = some (.int (cv A i)) := by
  have e := Array.getElem?_eq_getElem hi
  have f := h.2 i _ e
  unfold cv; rw [e]
  generalize A.slots[i] = v at f
  cases v <;> simp [fits] at f ⊢
/-- the byte that i2b leaves of a char -/
def lo8 (x : Int32) : Int32 := x.toInt8.toInt32
theorem fits_lo8 (y : Int32) : fits .byte (.int (lo8 y)) = true := by
  have h1 := y.toInt8.le_toInt
  have h2 := y.toInt8.toInt_lt
  simp only [lo8, fits, Bool.and_eq_true, decide_eq_true_eq, Int32.le_iff_toInt_le, Int8.toInt_toInt32, show (-128 : Int32).toInt = -128 from by decide, show (127 : Int32).toInt = 127 from by decide]
  omega
/-- A' is A but that each place j of lo .. hi - 1 holds f j -/
def Laid (A A' : Cell) (lo hi : Nat) (f : Nat → Value) : Prop := A'.cls = A.cls ∧ A'.vm = A.vm ∧ A'.slots.size = A.slots.size ∧ ∀ i, A'.slots[i]? = if lo ≤ i ∧ i < hi then some (f i) else A.slots[i]?
theorem Laid.zero (A : Cell) (lo : Nat) (f : Nat → Value) : Laid A A lo (lo + 0) f := ⟨rfl, rfl, rfl, fun i => by rw [if_neg (by omega)]⟩
theorem Laid.step {A Ak : Cell} {lo k : Nat} {f : Nat → Value} {v : Value} (h : Laid A Ak lo k f) (hlo : lo ≤ k) (hk : k < Ak.slots.size) (hv : v = f k) : Laid A (Ak.setSlot k v) lo (k + 1) f := by
  refine ⟨h.1, h.2.1, by simpa [Cell.setSlot] using h.2.2.1, fun i => ?_⟩
  by_cases e : k = i
  · subst e; rw [Cell.slots_setSlot_self v hk, if_pos (by omega), hv]
  · rw [Cell.slots_setSlot_ne v e, h.2.2.2 i]
    by_cases q : lo ≤ i ∧ i < k
    · rw [if_pos q, if_pos (by omega)]
    · rw [if_neg q, if_neg (by omega)]
def U16 : String := "java/lang/StringUTF16"
namespace Cmp5
def yN : MethodName := ⟨"java/lang/StringUTF16", "compress", "([CI[BII)I"⟩
abbrev yB : ByteArray := jdk_52_method_21_code
theorem d0 : decode yB 0 = .ok (.iconst 0, 1) := by decide +kernel
theorem d1 : decode yB 1 = .ok (.istore 5, 2) := by decide +kernel
theorem d3 : decode yB 3 = .ok (.iload 5, 2) := by decide +kernel
theorem d5 : decode yB 5 = .ok (.iload 4, 2) := by decide +kernel
theorem d7 : decode yB 7 = .ok (.if_icmp (.ge) 37, 3) := by decide +kernel
theorem d10 : decode yB 10 = .ok (.aload_n 0, 1) := by decide +kernel
theorem d11 : decode yB 11 = .ok (.iload_n 1, 1) := by decide +kernel
theorem d12 : decode yB 12 = .ok (.caload, 1) := by decide +kernel
theorem d13 : decode yB 13 = .ok (.istore 6, 2) := by decide +kernel
theorem d15 : decode yB 15 = .ok (.iload 6, 2) := by decide +kernel
theorem d17 : decode yB 17 = .ok (.sipush 255, 3) := by decide +kernel
theorem d20 : decode yB 20 = .ok (.if_icmp (.le) 6, 3) := by decide +kernel
theorem d26 : decode yB 26 = .ok (.aload_n 2, 1) := by decide +kernel
theorem d27 : decode yB 27 = .ok (.iload_n 3, 1) := by decide +kernel
theorem d28 : decode yB 28 = .ok (.iload 6, 2) := by decide +kernel
theorem d30 : decode yB 30 = .ok (.i2b, 1) := by decide +kernel
theorem d31 : decode yB 31 = .ok (.bastore, 1) := by decide +kernel
theorem d32 : decode yB 32 = .ok (.iinc 1 1, 3) := by decide +kernel
theorem d35 : decode yB 35 = .ok (.iinc 3 1, 3) := by decide +kernel
theorem d38 : decode yB 38 = .ok (.iinc 5 1, 3) := by decide +kernel
theorem d41 : decode yB 41 = .ok (.goto (-38), 3) := by decide +kernel
theorem d44 : decode yB 44 = .ok (.iload 4, 2) := by decide +kernel
theorem d46 : decode yB 46 = .ok (.ireturn, 1) := by decide +kernel
def site : List Cond := []
def tab : Cond := tabOf yN yB 7 (some .int) site
def P (b : Addr) (A : Cell) (d : Addr) (B : Cell) (o q len : Nat) (args : Array Value) (s : State) : Prop := args = #[.ref b, .int (Int32.ofNat o), .ref d, .int (Int32.ofNat q), .int (Int32.ofNat len)] ∧ Ch b A s ∧ Arr .byte d B s ∧ b ≠ d ∧ o + len ≤ A.slots.size ∧ q + len ≤ B.slots.size ∧ ∀ i, i < len → ¬ 255 < cv A (o + i)
def E (b : Addr) (A : Cell) (d : Addr) (B : Cell) (o q len : Nat) (r : Option Value) (s u : State) : Prop := r = some (.int (Int32.ofNat len)) ∧ ∃ B', Put d B' s u ∧ Laid B B' q (q + len) (fun j => Value.int (lo8 (cv A (o + (j - q)))))
/-- no char of the range above 255: len; the places written hold each char's low byte -/
theorem law (l : Launch) (b : Addr) (A : Cell) (d : Addr) (B : Cell) (o q len : Nat) : Law l yN 5 5 0 0 yB 7 (some .int) site (P b A d B o q len) (E b A d B o q len) (copyLocs d q len) 0 0 := by
  refine Law.of_walk (plainFor_of_name (by decide +kernel)) (by decide +kernel) (by decide +kernel) (by decide) (fun _ _ h => by rw [h.1]; rfl) (fun _ U U' hal hh h => ⟨h.1, h.2.1.mv hal hh, h.2.2.1.mv hal hh, h.2.2.2⟩) (fun r U U' V V' h1 hal h2 h => ⟨h.1, h.2.elim fun B' q => ⟨B', q.1.mv h1 h2, q.2⟩⟩) ?_
  intro p e s m args below meth c s₁ X0 hexec hbytes hml hret hlk hnm hown hh0 W hP
  obtain ⟨rfl, hA, hB, hne, l1, l2, hp⟩ := hP
  have c1 : Steps p.tables e below (s₁.setTop (entryFrame m #[.ref b, .int (Int32.ofNat o), .ref d, .int (Int32.ofNat q), .int (Int32.ofNat len)] 7)) (s₁.setTop (mkF m 0 #[.val (.ref b), .val (.int (Int32.ofNat o)), .val (.ref d), .val (.int (Int32.ofNat q)), .val (.int (Int32.ofNat len)), .unset, .unset] [])) := entry rfl
  have hA0 := hA.1.mv X0.warmed.alike hh0
  have hB0 := hB.mv X0.warmed.alike hh0
  have a31 := hA.1.2.2.2
  have c2 : Steps p.tables e below (s₁.setTop (entryFrame m #[.ref b, .int (Int32.ofNat o), .ref d, .int (Int32.ofNat q), .int (Int32.ofNat len)] 7)) (s₁.setTop (mkF m 3 #[.val (.ref b), .val (.int (Int32.ofNat o)), .val (.ref d), .val (.int (Int32.ofNat q)), .val (.int (Int32.ofNat len)), .val (.int 0), .unset] [])) := c1.trans (by
    refine iconstV X0.here hexec rfl 0 (hb hbytes d0) (by decide) ?_
    refine XS.istore X0.here hexec rfl (hb hbytes d1) rfl rfl ?_
    exact Steps.refl _)
  have loop : ∀ (r i : Nat), i + r = len → ∀ (z : Slot), (z = .unset ∨ ∃ w, z = .val w ∧ w.category = 1) → ∀ (Tl : State) (Bk : Cell), Stand p l e { frames := 0, locals := 0, cells := 0, slots := 0 } s m #[.ref b, .int (Int32.ofNat o), .ref d, .int (Int32.ofNat q), .int (Int32.ofNat len)] below meth c Tl ([] ++ copyLocs d q i) 0 0 → Put d Bk s₁ Tl → Laid B Bk q (q + i) (fun j => Value.int (lo8 (cv A (o + (j - q))))) →
      Steps p.tables e below (s₁.setTop (entryFrame m #[.ref b, .int (Int32.ofNat o), .ref d, .int (Int32.ofNat q), .int (Int32.ofNat len)] 7)) (Tl.setTop (mkF m 3 #[.val (.ref b), .val (.int (Int32.ofNat (o + i))), .val (.ref d), .val (.int (Int32.ofNat (q + i))), .val (.int (Int32.ofNat len)), .val (.int (Int32.ofNat i)), z] [])) → ∃ (T' : State) (B' : Cell) (z' : Slot), Stand p l e { frames := 0, locals := 0, cells := 0, slots := 0 } s m #[.ref b, .int (Int32.ofNat o), .ref d, .int (Int32.ofNat q), .int (Int32.ofNat len)] below meth c T' ([] ++ copyLocs d q len) 0 0 ∧ Put d B' s₁ T' ∧ Laid B B' q (q + len) (fun j => Value.int (lo8 (cv A (o + (j - q))))) ∧
      Steps p.tables e below (s₁.setTop (entryFrame m #[.ref b, .int (Int32.ofNat o), .ref d, .int (Int32.ofNat q), .int (Int32.ofNat len)] 7)) (T'.setTop (mkF m 3 #[.val (.ref b), .val (.int (Int32.ofNat (o + len))), .val (.ref d), .val (.int (Int32.ofNat (q + len))), .val (.int (Int32.ofNat len)), .val (.int (Int32.ofNat len)), z'] [])) := by
    intro r
    induction r with
    | zero =>
      intro i hi z hz Tl Bk Xl pl fl cl
      have hil : i = len := by omega
      rw [hil] at Xl fl cl
      exact ⟨Tl, Bk, z, Xl, pl, fl, cl⟩
    | succ r ih =>
      intro i hi z hz Tl Bk Xl pl fl cl
      have all := X0.warmed.alike.symm.trans Xl.warmed.alike
      have hAl := hA0.keep all (pl.other hne hA0.1)
      have hBk := hB0.like all pl.1 fl.1 fl.2.1 fl.2.2.1
      have hlt : q + i < Bk.slots.size := by rw [fl.2.2.1]; omega
      have c3 : Steps p.tables e below (s₁.setTop (entryFrame m #[.ref b, .int (Int32.ofNat o), .ref d, .int (Int32.ofNat q), .int (Int32.ofNat len)] 7)) (Tl.setTop (mkF m 12 #[.val (.ref b), .val (.int (Int32.ofNat (o + i))), .val (.ref d), .val (.int (Int32.ofNat (q + i))), .val (.int (Int32.ofNat len)), .val (.int (Int32.ofNat i)), z] [.int (Int32.ofNat (o + i)), .ref b])) := cl.trans (by
        refine XS.iload Xl.here hexec rfl (hb hbytes d3) rfl ?_
        refine XS.iload Xl.here hexec rfl (hb hbytes d5) rfl ?_
        refine XS.icmpNo Xl.here hexec rfl (hb hbytes d7) rfl (ii_ge_f (lt32 (by omega) (by omega))) ?_
        refine XS.aloadN Xl.here hexec rfl (hb hbytes d10) rfl rfl ?_
        refine XS.iloadN Xl.here hexec rfl (hb hbytes d11) rfl ?_
        exact Steps.refl _)
      have c4 : Steps p.tables e below (s₁.setTop (entryFrame m #[.ref b, .int (Int32.ofNat o), .ref d, .int (Int32.ofNat q), .int (Int32.ofNat len)] 7)) (Tl.setTop (mkF m 13 #[.val (.ref b), .val (.int (Int32.ofNat (o + i))), .val (.ref d), .val (.int (Int32.ofNat (q + i))), .val (.int (Int32.ofNat len)), .val (.int (Int32.ofNat i)), z] [.int (cv A (o + i))])) := c3.trans (by
        refine Xl.aget hexec hAl rfl (hA.get (i := o + i) (by omega)) rfl rfl (hb hbytes d12) ?_
        exact Steps.refl _)
      have c5 : Steps p.tables e below (s₁.setTop (entryFrame m #[.ref b, .int (Int32.ofNat o), .ref d, .int (Int32.ofNat q), .int (Int32.ofNat len)] 7)) (Tl.setTop (mkF m 15 #[.val (.ref b), .val (.int (Int32.ofNat (o + i))), .val (.ref d), .val (.int (Int32.ofNat (q + i))), .val (.int (Int32.ofNat len)), .val (.int (Int32.ofNat i)), .val (.int (cv A (o + i)))] [])) := c4.trans (by
        refine XS.istoreS Xl.here hexec rfl (hb hbytes d13) rfl rfl hz ?_
        exact Steps.refl _)
      have c6 : Steps p.tables e below (s₁.setTop (entryFrame m #[.ref b, .int (Int32.ofNat o), .ref d, .int (Int32.ofNat q), .int (Int32.ofNat len)] 7)) (Tl.setTop (mkF m 31 #[.val (.ref b), .val (.int (Int32.ofNat (o + i))), .val (.ref d), .val (.int (Int32.ofNat (q + i))), .val (.int (Int32.ofNat len)), .val (.int (Int32.ofNat i)), .val (.int (cv A (o + i)))] [.int (lo8 (cv A (o + i))), .int (Int32.ofNat (q + i)), .ref d])) := c5.trans (by
        refine XS.iload Xl.here hexec rfl (hb hbytes d15) rfl ?_
        refine sipushV Xl.here hexec rfl 255 (hb hbytes d17) (by decide) ?_
        refine XS.icmpYes Xl.here hexec rfl (pc0 := 20) rfl (hb hbytes d20) rfl (ii_le_t (hp i (by omega))) (by decide) rfl ?_
        refine XS.aloadN Xl.here hexec rfl (hb hbytes d26) rfl rfl ?_
        refine XS.iloadN Xl.here hexec rfl (hb hbytes d27) rfl ?_
        refine XS.iload Xl.here hexec rfl (hb hbytes d28) rfl ?_
        refine i2b Xl.here hexec rfl (hb hbytes d30) rfl ?_
        exact Steps.refl _)
      obtain ⟨T7, X7, p7, st7⟩ := Xl.aput hexec hBk rfl hlt rfl (fits_lo8 (cv A (o + i))) (g := (mkF m 31 #[.val (.ref b), .val (.int (Int32.ofNat (o + i))), .val (.ref d), .val (.int (Int32.ofNat (q + i))), .val (.int (Int32.ofNat len)), .val (.int (Int32.ofNat i)), .val (.int (cv A (o + i)))] [.int (lo8 (cv A (o + i))), .int (Int32.ofNat (q + i)), .ref d])) rfl (rest := []) rfl (hb hbytes d31)
      have c8 : Steps p.tables e below (s₁.setTop (entryFrame m #[.ref b, .int (Int32.ofNat o), .ref d, .int (Int32.ofNat q), .int (Int32.ofNat len)] 7)) (T7.setTop (mkF m 32 #[.val (.ref b), .val (.int (Int32.ofNat (o + i))), .val (.ref d), .val (.int (Int32.ofNat (q + i))), .val (.int (Int32.ofNat len)), .val (.int (Int32.ofNat i)), .val (.int (cv A (o + i)))] [])) := c6.trans (st7 _ (Steps.refl _))
      have c9 : Steps p.tables e below (s₁.setTop (entryFrame m #[.ref b, .int (Int32.ofNat o), .ref d, .int (Int32.ofNat q), .int (Int32.ofNat len)] 7)) (T7.setTop (mkF m 3 #[.val (.ref b), .val (.int (Int32.ofNat (o + i) + 1)), .val (.ref d), .val (.int (Int32.ofNat (q + i) + 1)), .val (.int (Int32.ofNat len)), .val (.int (Int32.ofNat i + 1)), .val (.int (cv A (o + i)))] [])) := c8.trans (by
        refine iincV X7.here hexec rfl 1 (hb hbytes d32) (by decide) rfl rfl ?_
        refine iincV X7.here hexec rfl 1 (hb hbytes d35) (by decide) rfl rfl ?_
        refine iincV X7.here hexec rfl 1 (hb hbytes d38) (by decide) rfl rfl ?_
        refine XS.goto X7.here hexec rfl (pc0 := 41) rfl (hb hbytes d41) (by decide) rfl ?_
        exact Steps.refl _)
      have c10 : Steps p.tables e below (s₁.setTop (entryFrame m #[.ref b, .int (Int32.ofNat o), .ref d, .int (Int32.ofNat q), .int (Int32.ofNat len)] 7)) (T7.setTop (mkF m 3 #[.val (.ref b), .val (.int (Int32.ofNat (o + (i + 1)))), .val (.ref d), .val (.int (Int32.ofNat (q + (i + 1)))), .val (.int (Int32.ofNat len)), .val (.int (Int32.ofNat (i + 1))), .val (.int (cv A (o + i)))] [])) := by
        have := c9
        rw [succ32, succ32, succ32] at this
        exact this
      exact ih (i + 1) (by omega) _ (Or.inr ⟨_, rfl, rfl⟩) T7 _ (by rw [copyLocs_step, ← List.append_assoc]; exact X7) (pl.trans p7) (fl.step (by omega) hlt (by simp)) c10
  obtain ⟨T9, B9, z9, X9, p9, f9, g9⟩ := loop len 0 (by omega) .unset (Or.inl rfl) s₁ B (by simpa [copyLocs] using X0) ⟨hB0.1, fun _ _ => rfl, rfl⟩ (Laid.zero _ _ _) c2
  have c11 : Steps p.tables e below (s₁.setTop (entryFrame m #[.ref b, .int (Int32.ofNat o), .ref d, .int (Int32.ofNat q), .int (Int32.ofNat len)] 7)) (T9.setTop (mkF m 46 #[.val (.ref b), .val (.int (Int32.ofNat (o + len))), .val (.ref d), .val (.int (Int32.ofNat (q + len))), .val (.int (Int32.ofNat len)), .val (.int (Int32.ofNat len)), z9] [.int (Int32.ofNat len)])) := g9.trans (by
    refine XS.iload X9.here hexec rfl (hb hbytes d3) rfl ?_
    refine XS.iload X9.here hexec rfl (hb hbytes d5) rfl ?_
    refine XS.icmpYes X9.here hexec rfl (pc0 := 7) rfl (hb hbytes d7) rfl (ii_ge_t (nlt32 (by omega) (Nat.le_refl _))) (by decide) rfl ?_
    refine XS.iload X9.here hexec rfl (hb hbytes d44) rfl ?_
    exact Steps.refl _)
  exact ⟨T9, some (.int (Int32.ofNat len)), _, _, _, X9, by simp, rfl, rfl, (fun h => by cases h), ⟨rfl, B9, p9.from hh0, f9⟩, fun fs hl => c11.trans (X9.ireturnOut hexec hret rfl (Or.inl rfl) (hb hbytes d46) hl)⟩
end Cmp5
namespace Cmp3
def yN : MethodName := ⟨"java/lang/StringUTF16", "compress", "([CII)[B"⟩
abbrev yB : ByteArray := jdk_52_method_16_code
theorem d0 : decode yB 0 = .ok (.iload_n 2, 1) := by decide +kernel
theorem d1 : decode yB 1 = .ok (.newarray .byte, 2) := by decide +kernel
theorem d3 : decode yB 3 = .ok (.astore_n 3, 1) := by decide +kernel
theorem d4 : decode yB 4 = .ok (.aload_n 0, 1) := by decide +kernel
theorem d5 : decode yB 5 = .ok (.iload_n 1, 1) := by decide +kernel
theorem d6 : decode yB 6 = .ok (.aload_n 3, 1) := by decide +kernel
theorem d7 : decode yB 7 = .ok (.iconst 0, 1) := by decide +kernel
theorem d8 : decode yB 8 = .ok (.iload_n 2, 1) := by decide +kernel
theorem d9 : decode yB 9 = .ok (.invokestatic 115, 3) := by decide +kernel
theorem d12 : decode yB 12 = .ok (.istore 4, 2) := by decide +kernel
theorem d14 : decode yB 14 = .ok (.iload 4, 2) := by decide +kernel
theorem d16 : decode yB 16 = .ok (.iload_n 2, 1) := by decide +kernel
theorem d17 : decode yB 17 = .ok (.if_icmp (.eq) 40, 3) := by decide +kernel
theorem d57 : decode yB 57 = .ok (.aload_n 3, 1) := by decide +kernel
theorem d58 : decode yB 58 = .ok (.areturn, 1) := by decide +kernel
def site : List Cond := [.arrayClass .byte, Cmp5.tab] ++ staticW U16 115 Cmp5.yN
def tab : Cond := tabOf yN yB 6 (some (.array .byte)) site
def P (b : Addr) (A : Cell) (o len : Nat) (args : Array Value) (s : State) : Prop := args = #[.ref b, .int (Int32.ofNat o), .int (Int32.ofNat len)] ∧ Ch b A s ∧ o + len ≤ A.slots.size ∧ len ≤ 536870912 ∧ ∀ i, i < len → ¬ 255 < cv A (o + i)
def E (b : Addr) (A : Cell) (o len : Nat) (r : Option Value) (s u : State) : Prop := NewArr .byte "[B" len (fun j => .int (lo8 (cv A (o + j)))) r s u ∧ u.heap.size = s.heap.size + 1
/-- no char of the range above 255: a new byte[] of their low bytes -/
theorem law (l : Launch) (b : Addr) (A : Cell) (o len : Nat) : Law l yN 3 3 1 18 yB 6 (some (.array .byte)) site (P b A o len) (E b A o len) [] 1 len := by
  refine Law.of_walk (plainFor_of_name (by decide +kernel)) (by decide +kernel) (by decide +kernel) (by decide) (fun _ _ h => by rw [h.1]; rfl) (fun _ U U' hal hh h => ⟨h.1, h.2.1.mv hal hh, h.2.2⟩) (fun r U U' V V' h1 hal h2 h => ⟨NewArr.mv r U U' V V' h1 hal h2 h.1, by rw [h1, h2]; exact h.2⟩) ?_
  intro p e s m args below meth c s₁ X0 hexec hbytes hml hret hlk hnm hown hh0 W hP
  obtain ⟨rfl, hA, l1, l2, hp⟩ := hP
  have a31 := hA.1.2.2.2
  have c1 : Steps p.tables e below (s₁.setTop (entryFrame m #[.ref b, .int (Int32.ofNat o), .int (Int32.ofNat len)] 6)) (s₁.setTop (mkF m 0 #[.val (.ref b), .val (.int (Int32.ofNat o)), .val (.int (Int32.ofNat len)), .unset, .unset, .unset] [])) := entry rfl
  have c2 : Steps p.tables e below (s₁.setTop (entryFrame m #[.ref b, .int (Int32.ofNat o), .int (Int32.ofNat len)] 6)) (s₁.setTop (mkF m 1 #[.val (.ref b), .val (.int (Int32.ofNat o)), .val (.int (Int32.ofNat len)), .unset, .unset, .unset] [.int (Int32.ofNat len)])) := c1.trans (by
    refine XS.iloadN X0.here hexec rfl (hb hbytes d0) rfl ?_
    exact Steps.refl _)
  obtain ⟨T3, B3, X3, ba3, bs3, bv3, bh3, bf3, st3⟩ := X0.anew hexec (atype := .byte) (wk W (.arrayClass .byte)) rfl (by show len * 1 ≤ _; omega) (by omega) (g := (mkF m 1 #[.val (.ref b), .val (.int (Int32.ofNat o)), .val (.int (Int32.ofNat len)), .unset, .unset, .unset] [.int (Int32.ofNat len)])) rfl (hb hbytes d1) (rest := []) rfl (Nat.le_refl _) (by show 0 + len ≤ len; omega)
  rw [hh0] at ba3 st3
  have kp3 : XT.Kept s T3 := (XT.Kept.of_eq hh0).push bh3
  have hA3 := hA.keep X3.warmed.alike (kp3 _ _ hA.1.1)
  have hne : b ≠ s.heap.size := hA.1.ne
  have c4 : Steps p.tables e below (s₁.setTop (entryFrame m #[.ref b, .int (Int32.ofNat o), .int (Int32.ofNat len)] 6)) (T3.setTop (mkF m 3 #[.val (.ref b), .val (.int (Int32.ofNat o)), .val (.int (Int32.ofNat len)), .unset, .unset, .unset] [.ref s.heap.size])) := c2.trans (st3 _ (Steps.refl _))
  have c5 : Steps p.tables e below (s₁.setTop (entryFrame m #[.ref b, .int (Int32.ofNat o), .int (Int32.ofNat len)] 6)) (T3.setTop (mkF m 9 #[.val (.ref b), .val (.int (Int32.ofNat o)), .val (.int (Int32.ofNat len)), .val (.ref s.heap.size), .unset, .unset] [.int (Int32.ofNat len), .int 0, .ref s.heap.size, .int (Int32.ofNat o), .ref b])) := c4.trans (by
    refine XS.astoreN X3.here hexec rfl (hb hbytes d3) rfl rfl rfl ?_
    refine XS.aloadN X3.here hexec rfl (hb hbytes d4) rfl rfl ?_
    refine XS.iloadN X3.here hexec rfl (hb hbytes d5) rfl ?_
    refine XS.aloadN X3.here hexec rfl (hb hbytes d6) rfl rfl ?_
    refine iconstV X3.here hexec rfl 0 (hb hbytes d7) (by decide) ?_
    refine XS.iloadN X3.here hexec rfl (hb hbytes d8) rfl ?_
    exact Steps.refl _)
  obtain ⟨v6, T6, X6, E6, g6⟩ := X3.callS hexec (Cmp5.law l b A s.heap.size B3 o 0 len) hown (wks W (staticW U16 115 Cmp5.yN)) (wk W Cmp5.tab) (W := 0) (Nat.le_of_ble_eq_true rfl) (Nat.le_of_ble_eq_true rfl) (Nat.le_refl _) (by show 0 + len + 0 ≤ len; omega) (g := (mkF m 9 #[.val (.ref b), .val (.int (Int32.ofNat o)), .val (.int (Int32.ofNat len)), .val (.ref s.heap.size), .unset, .unset] [.int (Int32.ofNat len), .int (Int32.ofNat 0), .ref s.heap.size, .int (Int32.ofNat o), .ref b])) rfl (by rw [hml]; rfl) c5 (argsL := [.ref b, .int (Int32.ofNat o), .ref s.heap.size, .int (Int32.ofNat 0), .int (Int32.ofNat len)]) (rest := []) rfl rfl (by show 2 * 0 + 0 ≤ _; decide) (hb hbytes d9) (⟨rfl, hA3, ba3, hne, l1, by rw [bs3]; simp, hp⟩)
  obtain ⟨rfl, B6, p6, f6⟩ := E6
  have c7 : Steps p.tables e below (s₁.setTop (entryFrame m #[.ref b, .int (Int32.ofNat o), .int (Int32.ofNat len)] 6)) (T6.setTop (mkF m 12 #[.val (.ref b), .val (.int (Int32.ofNat o)), .val (.int (Int32.ofNat len)), .val (.ref s.heap.size), .unset, .unset] [.int (Int32.ofNat len)])) := g6
  have c8 : Steps p.tables e below (s₁.setTop (entryFrame m #[.ref b, .int (Int32.ofNat o), .int (Int32.ofNat len)] 6)) (T6.setTop (mkF m 58 #[.val (.ref b), .val (.int (Int32.ofNat o)), .val (.int (Int32.ofNat len)), .val (.ref s.heap.size), .val (.int (Int32.ofNat len)), .unset] [.ref s.heap.size])) := c7.trans (by
    refine XS.istore X6.here hexec rfl (hb hbytes d12) rfl rfl ?_
    refine XS.iload X6.here hexec rfl (hb hbytes d14) rfl ?_
    refine XS.iloadN X6.here hexec rfl (hb hbytes d16) rfl ?_
    refine XS.icmpYes X6.here hexec rfl (pc0 := 17) rfl (hb hbytes d17) rfl (ii_eq_t rfl) (by decide) rfl ?_
    refine XS.aloadN X6.here hexec rfl (hb hbytes d57) rfl rfl ?_
    exact Steps.refl _)
  have X8 := X6.wide (L' := []) (cells' := 1) (slots' := len) (fun x hx hlt => by
    simp only [List.nil_append, copyLocs, List.mem_map, List.mem_range] at hx
    obtain ⟨i, -, rfl⟩ := hx
    exact absurd hlt (Nat.lt_irrefl _)) (Nat.le_refl _) (by omega)
  exact ⟨T6, some (.ref s.heap.size), _, _, _, X8, rfl, rfl, rfl, (fun h => by cases h), ⟨⟨rfl, B6, ba3.like (X3.warmed.alike.symm.trans X6.warmed.alike) p6.1 f6.1 f6.2.1 f6.2.2.1, f6.2.1.trans bv3, by rw [X6.warmed.alike.findClass, f6.1]; exact bf3, by rw [f6.2.2.1, bs3]; simp, fun j hj => by rw [f6.2.2.2 j, if_pos (by omega)]; rfl, kp3.put p6 (Nat.le_refl _)⟩, by rw [p6.2.2, bh3, hh0]; simp⟩, fun fs hl => c8.trans (X8.areturnOut hexec rfl hret rfl (hb hbytes d58) hl)⟩
end Cmp3
namespace CodL
def yN : MethodName := ⟨"java/lang/StringUTF16", "coderFromArrayLen", "([BI)B"⟩
abbrev yB : ByteArray := jdk_52_method_15_code
theorem d0 : decode yB 0 = .ok (.iload_n 1, 1) := by decide +kernel
theorem d1 : decode yB 1 = .ok (.aload_n 0, 1) := by decide +kernel
theorem d2 : decode yB 2 = .ok (.arraylength, 1) := by decide +kernel
theorem d3 : decode yB 3 = .ok (.isub, 1) := by decide +kernel
theorem d4 : decode yB 4 = .ok (.bipush 31, 2) := by decide +kernel
theorem d6 : decode yB 6 = .ok (.iushr, 1) := by decide +kernel
theorem d7 : decode yB 7 = .ok (.i2b, 1) := by decide +kernel
theorem d8 : decode yB 8 = .ok (.ireturn, 1) := by decide +kernel
def site : List Cond := []
def tab : Cond := tabOf yN yB 2 (some .byte) site
def P (d : Addr) (B : Cell) (args : Array Value) (s : State) : Prop := args = #[.ref d, .int (Int32.ofNat B.slots.size)] ∧ Arr .byte d B s
def E (r : Option Value) (s u : State) : Prop := XT.PureE (some (.int 0)) r s u
/-- an array as long as the number of chars: LATIN1 -/
theorem law (l : Launch) (d : Addr) (B : Cell) : Law l yN 2 2 0 0 yB 2 (some .byte) site (P d B) E [] 0 0 := by
  refine Law.of_walk (plainFor_of_name (by decide +kernel)) (by decide +kernel) (by decide +kernel) (by decide) (fun _ _ h => by rw [h.1]; rfl) (fun _ U U' hal hh h => ⟨h.1, h.2.mv hal hh⟩) (fun r U U' V V' h1 hal h2 h => XT.PureE.mv r U U' V V' h1 hal h2 h) ?_
  intro p e s m args below meth c s₁ X0 hexec hbytes hml hret hlk hnm hown hh0 W hP
  obtain ⟨rfl, hB⟩ := hP
  have hB0 := hB.mv X0.warmed.alike hh0
  have c1 : Steps p.tables e below (s₁.setTop (entryFrame m #[.ref d, .int (Int32.ofNat B.slots.size)] 2)) (s₁.setTop (mkF m 0 #[.val (.ref d), .val (.int (Int32.ofNat B.slots.size))] [])) := entry rfl
  have c2 : Steps p.tables e below (s₁.setTop (entryFrame m #[.ref d, .int (Int32.ofNat B.slots.size)] 2)) (s₁.setTop (mkF m 2 #[.val (.ref d), .val (.int (Int32.ofNat B.slots.size))] [.ref d, .int (Int32.ofNat B.slots.size)])) := c1.trans (by
    refine XS.iloadN X0.here hexec rfl (hb hbytes d0) rfl ?_
    refine XS.aloadN X0.here hexec rfl (hb hbytes d1) rfl rfl ?_
    exact Steps.refl _)
  have c3 : Steps p.tables e below (s₁.setTop (entryFrame m #[.ref d, .int (Int32.ofNat B.slots.size)] 2)) (s₁.setTop (mkF m 8 #[.val (.ref d), .val (.int (Int32.ofNat B.slots.size))] [.int (lo8 (ushr (Int32.ofNat B.slots.size - Int32.ofNat B.slots.size) 31))])) := c2.trans (by
    refine X0.alen hexec hB0 rfl rfl (hb hbytes d2) ?_
    refine XS.isub X0.here hexec rfl (hb hbytes d3) rfl ?_
    refine bipushV X0.here hexec rfl 31 (hb hbytes d4) (by decide) ?_
    refine iushr X0.here hexec rfl (hb hbytes d6) rfl ?_
    refine i2b X0.here hexec rfl (hb hbytes d7) rfl ?_
    exact Steps.refl _)
  have e0 : lo8 (ushr (Int32.ofNat B.slots.size - Int32.ofNat B.slots.size) 31) = 0 := by rw [Int32.sub_self]; decide
  rw [e0] at c3
  exact ⟨s₁, some (.int 0), _, _, _, X0, rfl, rfl, rfl, (fun h => by cases h), ⟨rfl, hh0⟩, fun fs hl => c3.trans (X0.ireturnOut hexec hret rfl (Or.inr (Or.inr (Or.inl rfl))) (hb hbytes d8) hl)⟩
end CodL
/-- the String at a is Latin-1 over a new byte[] (the heap's one new cell): the low bytes of the len chars of A from o on; every cell but a is kept -/
def Got (a : Addr) (D : Cell) (fV fC : Field) (A : Cell) (o len : Nat) (r : Option Value) (s u : State) : Prop := r = none ∧ ∃ D' V : Cell, Blank "java/lang/String" a D' u ∧ Same D D' [fV.slot, fC.slot] ∧ D'.slots[fV.slot]? = some (.ref s.heap.size) ∧ D'.slots[fC.slot]? = some (.int 0) ∧ Arr .byte s.heap.size V u ∧ V.vm = .none ∧ u.vm.findClass "[B" = some V.cls ∧ V.slots.size = len ∧ (∀ j, j < len → V.slots[j]? = some (.int (lo8 (cv A (o + j))))) ∧ (∀ (y : Addr) (c : Cell), y ≠ a → s.heap[y]? = some c → u.heap[y]? = some c) ∧ u.heap.size = s.heap.size + 1
theorem Got.mv {a : Addr} {D A : Cell} {fV fC : Field} {o len : Nat} : ∀ r (U U' V V' : State), U'.heap = U.heap → V.vm.Alike V'.vm → V'.heap = V.heap → Got a D fV fC A o len r U V → Got a D fV fC A o len r U' V' :=
  fun r U U' V V' h1 hal h2 ⟨e0, D', X, a1, a2, a3, a4, a5, a6, a7, a8, a9, a10, a11⟩ => ⟨e0, D', X, a1.mv hal h2, a2, by rw [h1]; exact a3, a4, by rw [h1]; exact a5.mv hal h2, a6, by rw [hal.findClass]; exact a7, a8, a9, by rw [h1, h2]; exact a10, by rw [h1, h2]; exact a11⟩
namespace New4
def yN : MethodName := ⟨"java/lang/String", "<init>", "([CIILjava/lang/Void;)V"⟩
abbrev yB : ByteArray := jdk_42_method_149_code
theorem d0 : decode yB 0 = .ok (.aload_n 0, 1) := by decide +kernel
theorem d1 : decode yB 1 = .ok (.invokespecial 1, 3) := by decide +kernel
theorem d4 : decode yB 4 = .ok (.iload_n 3, 1) := by decide +kernel
theorem d5 : decode yB 5 = .ok (.ifCond (.ne) 22, 3) := by decide +kernel
theorem d27 : decode yB 27 = .ok (.getstatic 38, 3) := by decide +kernel
theorem d30 : decode yB 30 = .ok (.ifCond (.eq) 28, 3) := by decide +kernel
theorem d33 : decode yB 33 = .ok (.aload_n 1, 1) := by decide +kernel
theorem d34 : decode yB 34 = .ok (.iload_n 2, 1) := by decide +kernel
theorem d35 : decode yB 35 = .ok (.iload_n 3, 1) := by decide +kernel
theorem d36 : decode yB 36 = .ok (.invokestatic 177, 3) := by decide +kernel
theorem d39 : decode yB 39 = .ok (.astore 5, 2) := by decide +kernel
theorem d41 : decode yB 41 = .ok (.aload_n 0, 1) := by decide +kernel
theorem d42 : decode yB 42 = .ok (.aload 5, 2) := by decide +kernel
theorem d44 : decode yB 44 = .ok (.iload_n 3, 1) := by decide +kernel
theorem d45 : decode yB 45 = .ok (.invokestatic 47, 3) := by decide +kernel
theorem d48 : decode yB 48 = .ok (.putfield 15, 3) := by decide +kernel
theorem d51 : decode yB 51 = .ok (.aload_n 0, 1) := by decide +kernel
theorem d52 : decode yB 52 = .ok (.aload 5, 2) := by decide +kernel
theorem d54 : decode yB 54 = .ok (.putfield 9, 3) := by decide +kernel
theorem d57 : decode yB 57 = .ok (.return_, 1) := by decide +kernel
def site : List Cond := [.fieldLink "java/lang/String" 38 "java/lang/String" "COMPACT_STRINGS" "Z", Cmp3.tab, CodL.tab, .laysFinal "java/lang/String" "java/lang/String" "value" "[B", .fieldLink "java/lang/String" 9 "java/lang/String" "value" "[B", .laysFinal "java/lang/String" "java/lang/String" "coder" "B", .fieldLink "java/lang/String" 15 "java/lang/String" "coder" "B"] ++ objW "java/lang/String" 1 ++ staticW "java/lang/String" 177 Cmp3.yN ++ staticW "java/lang/String" 47 CodL.yN
def tab : Cond := tabOf yN yB 6 none site
def P (a : Addr) (D : Cell) (fV fC : Field) (b : Addr) (A : Cell) (z : Int32) (o len : Nat) (args : Array Value) (s : State) : Prop := args = #[.ref a, .ref b, .int (Int32.ofNat o), .int (Int32.ofNat len), .null] ∧ Blank "java/lang/String" a D s ∧ Found "java/lang/String" "value" "[B" fV s ∧ Found "java/lang/String" "coder" "B" fC s ∧ Ch b A s ∧ StaticIs s "java/lang/String" "COMPACT_STRINGS" "Z" (.int z) ∧ ¬ z = 0 ∧ 0 < len ∧ o + len ≤ A.slots.size ∧ len ≤ 536870912 ∧ ∀ i, i < len → ¬ 255 < cv A (o + i)
def E (a : Addr) (D : Cell) (fV fC : Field) (A : Cell) (o len : Nat) (r : Option Value) (s u : State) : Prop := Got a D fV fC A o len r s u
/-- len > 0, no char of the range above 255: a Latin-1 String of their low bytes -/
theorem law (l : Launch) (a : Addr) (D : Cell) (fV fC : Field) (b : Addr) (A : Cell) (z : Int32) (o len : Nat) : Law l yN 5 4 2 35 yB 6 none site (P a D fV fC b A z o len) (E a D fV fC A o len) [⟨a, fC.slot⟩, ⟨a, fV.slot⟩] 1 len := by
  refine Law.of_walk (plainFor_of_name (by decide +kernel)) (by decide +kernel) (by decide +kernel) (by decide) (fun _ _ h => by rw [h.1]; rfl) (fun _ U U' hal hh h => ⟨h.1, h.2.1.mv hal hh, h.2.2.1.al hal, h.2.2.2.1.al hal, h.2.2.2.2.1.mv hal hh, h.2.2.2.2.2.1.there hal hh, h.2.2.2.2.2.2⟩) (fun r U U' V V' h1 hal h2 h => Got.mv r U U' V V' h1 hal h2 h) ?_
  intro p e s m args below meth c s₁ X0 hexec hbytes hml hret hlk hnm hown hh0 W hP
  obtain ⟨rfl, hB, f1, f2, hA, s1, hz, l0, l1, l2, hp⟩ := hP
  have a31 := hA.1.2.2.2
  have c1 : Steps p.tables e below (s₁.setTop (entryFrame m #[.ref a, .ref b, .int (Int32.ofNat o), .int (Int32.ofNat len), .null] 6)) (s₁.setTop (mkF m 0 #[.val (.ref a), .val (.ref b), .val (.int (Int32.ofNat o)), .val (.int (Int32.ofNat len)), .val .null, .unset] [])) := entry rfl
  have c2 : Steps p.tables e below (s₁.setTop (entryFrame m #[.ref a, .ref b, .int (Int32.ofNat o), .int (Int32.ofNat len), .null] 6)) (s₁.setTop (mkF m 1 #[.val (.ref a), .val (.ref b), .val (.int (Int32.ofNat o)), .val (.int (Int32.ofNat len)), .val .null, .unset] [.ref a])) := c1.trans (by
    refine XS.aloadN X0.here hexec rfl (hb hbytes d0) rfl rfl ?_
    exact Steps.refl _)
  obtain ⟨T3, X3, q3, st3⟩ := X0.oinit hexec hown (wks W (objW "java/lang/String" 1)) (g := (mkF m 1 #[.val (.ref a), .val (.ref b), .val (.int (Int32.ofNat o)), .val (.int (Int32.ofNat len)), .val .null, .unset] [.ref a])) rfl (by rw [hml]; rfl) (rest := []) rfl (hb hbytes d1) (W := 0) (by show 2 * 0 + 0 ≤ _; decide) (Nat.le_of_ble_eq_true rfl) (Nat.le_of_ble_eq_true rfl)
  have hh3 := q3.trans hh0
  have c4 : Steps p.tables e below (s₁.setTop (entryFrame m #[.ref a, .ref b, .int (Int32.ofNat o), .int (Int32.ofNat len), .null] 6)) (T3.setTop (mkF m 27 #[.val (.ref a), .val (.ref b), .val (.int (Int32.ofNat o)), .val (.int (Int32.ofNat len)), .val .null, .unset] [])) := (c2.trans (st3 _ (Steps.refl _))).trans (by
    refine XS.iloadN X3.here hexec rfl (hb hbytes d4) rfl ?_
    refine XS.ifYes X3.here hexec rfl (pc0 := 5) rfl (hb hbytes d5) rfl (i0_ne_t (nz32 (by omega) l0)) (by decide) rfl ?_
    exact Steps.refl _)
  obtain ⟨T5, X5, q5, st5⟩ := X3.sget hexec hown (wk W (.fieldLink "java/lang/String" 38 "java/lang/String" "COMPACT_STRINGS" "Z")) s1 (fun _ _ h => by rw [hh3]; exact h) (g := (mkF m 27 #[.val (.ref a), .val (.ref b), .val (.int (Int32.ofNat o)), .val (.int (Int32.ofNat len)), .val .null, .unset] [])) rfl (hb hbytes d27)
  have hh5 := q5.trans hh3
  have c6 : Steps p.tables e below (s₁.setTop (entryFrame m #[.ref a, .ref b, .int (Int32.ofNat o), .int (Int32.ofNat len), .null] 6)) (T5.setTop (mkF m 30 #[.val (.ref a), .val (.ref b), .val (.int (Int32.ofNat o)), .val (.int (Int32.ofNat len)), .val .null, .unset] [.int z])) := c4.trans (st5 _ (Steps.refl _))
  have c7 : Steps p.tables e below (s₁.setTop (entryFrame m #[.ref a, .ref b, .int (Int32.ofNat o), .int (Int32.ofNat len), .null] 6)) (T5.setTop (mkF m 36 #[.val (.ref a), .val (.ref b), .val (.int (Int32.ofNat o)), .val (.int (Int32.ofNat len)), .val .null, .unset] [.int (Int32.ofNat len), .int (Int32.ofNat o), .ref b])) := c6.trans (by
    refine XS.ifNo X5.here hexec rfl (hb hbytes d30) rfl (i0_eq_f hz) ?_
    refine XS.aloadN X5.here hexec rfl (hb hbytes d33) rfl rfl ?_
    refine XS.iloadN X5.here hexec rfl (hb hbytes d34) rfl ?_
    refine XS.iloadN X5.here hexec rfl (hb hbytes d35) rfl ?_
    exact Steps.refl _)
  obtain ⟨v8, T8, X8, E8, g8⟩ := X5.callS hexec (Cmp3.law l b A o len) hown (wks W (staticW "java/lang/String" 177 Cmp3.yN)) (wk W Cmp3.tab) (W := 0) (Nat.le_of_ble_eq_true rfl) (Nat.le_of_ble_eq_true rfl) (Nat.le_refl _) (by show 0 + len ≤ len; omega) (g := (mkF m 36 #[.val (.ref a), .val (.ref b), .val (.int (Int32.ofNat o)), .val (.int (Int32.ofNat len)), .val .null, .unset] [.int (Int32.ofNat len), .int (Int32.ofNat o), .ref b])) rfl (by rw [hml]; rfl) c7 (argsL := [.ref b, .int (Int32.ofNat o), .int (Int32.ofNat len)]) (rest := []) rfl rfl (by show 2 * 0 + 0 ≤ _; decide) (hb hbytes d36) (⟨rfl, hA.mv X5.warmed.alike hh5, l1, l2, hp⟩)
  obtain ⟨e8, z8⟩ := E8
  obtain ⟨rfl, N, n1, n2, n3, n4, n5, n6⟩ := NewArr.mv _ T5 s _ _ hh5.symm (Vm.Alike.refl _) rfl e8
  rw [hh5] at z8
  have hB1 := hB.keep X8.warmed.alike (n6 _ _ hB.1)
  have hne : s.heap.size ≠ a := (Nat.ne_of_lt (Array.getElem?_eq_some_iff.mp hB.1).1).symm
  have c9 : Steps p.tables e below (s₁.setTop (entryFrame m #[.ref a, .ref b, .int (Int32.ofNat o), .int (Int32.ofNat len), .null] 6)) (T8.setTop (mkF m 39 #[.val (.ref a), .val (.ref b), .val (.int (Int32.ofNat o)), .val (.int (Int32.ofNat len)), .val .null, .unset] [.ref s.heap.size])) := g8
  have c10 : Steps p.tables e below (s₁.setTop (entryFrame m #[.ref a, .ref b, .int (Int32.ofNat o), .int (Int32.ofNat len), .null] 6)) (T8.setTop (mkF m 45 #[.val (.ref a), .val (.ref b), .val (.int (Int32.ofNat o)), .val (.int (Int32.ofNat len)), .val .null, .val (.ref s.heap.size)] [.int (Int32.ofNat N.slots.size), .ref s.heap.size, .ref a])) := by
    have hc : Steps p.tables e below (s₁.setTop (entryFrame m #[.ref a, .ref b, .int (Int32.ofNat o), .int (Int32.ofNat len), .null] 6)) (T8.setTop (mkF m 45 #[.val (.ref a), .val (.ref b), .val (.int (Int32.ofNat o)), .val (.int (Int32.ofNat len)), .val .null, .val (.ref s.heap.size)] [.int (Int32.ofNat len), .ref s.heap.size, .ref a])) := c9.trans (by
      refine XS.astore X8.here hexec rfl (hb hbytes d39) rfl rfl rfl ?_
      refine XS.aloadN X8.here hexec rfl (hb hbytes d41) rfl rfl ?_
      refine XS.aload X8.here hexec rfl (hb hbytes d42) rfl rfl ?_
      refine XS.iloadN X8.here hexec rfl (hb hbytes d44) rfl ?_
      exact Steps.refl _)
    rw [n4]; exact hc
  obtain ⟨v11, T11, X11, E11, g11⟩ := X8.callS hexec (CodL.law l s.heap.size N) hown (wks W (staticW "java/lang/String" 47 CodL.yN)) (wk W CodL.tab) (W := 1) (Nat.le_of_ble_eq_true rfl) (Nat.le_of_ble_eq_true rfl) (Nat.le_refl _) (by show 0 + len + 0 ≤ len; omega) (g := (mkF m 45 #[.val (.ref a), .val (.ref b), .val (.int (Int32.ofNat o)), .val (.int (Int32.ofNat len)), .val .null, .val (.ref s.heap.size)] [.int (Int32.ofNat N.slots.size), .ref s.heap.size, .ref a])) rfl (by rw [hml]; rfl) c10 (argsL := [.ref s.heap.size, .int (Int32.ofNat N.slots.size)]) (rest := [.ref a]) rfl rfl (by show 2 * 0 + (1 + 0) ≤ _; decide) (hb hbytes d45) (⟨rfl, n1⟩)
  obtain ⟨rfl, q11⟩ := E11
  have hB11 := hB1.mv (X8.warmed.alike.symm.trans X11.warmed.alike) q11
  have c12 : Steps p.tables e below (s₁.setTop (entryFrame m #[.ref a, .ref b, .int (Int32.ofNat o), .int (Int32.ofNat len), .null] 6)) (T11.setTop (mkF m 48 #[.val (.ref a), .val (.ref b), .val (.int (Int32.ofNat o)), .val (.int (Int32.ofNat len)), .val .null, .val (.ref s.heap.size)] [.int 0, .ref a])) := g11
  obtain ⟨T13, X13, p13, bl13, sl13, st13⟩ := X11.finit hexec hown (wk W (.fieldLink "java/lang/String" 15 "java/lang/String" "coder" "B")) (Or.inr ⟨_, (wk W (.laysFinal "java/lang/String" "java/lang/String" "coder" "B"))⟩) (Or.inl ⟨rfl, hnm⟩) f2 (Or.inl rfl) hB11 (t := .byte) (by decide +kernel) rfl (g := (mkF m 48 #[.val (.ref a), .val (.ref b), .val (.int (Int32.ofNat o)), .val (.int (Int32.ofNat len)), .val .null, .val (.ref s.heap.size)] [.int 0, .ref a])) rfl (rest := []) rfl (hb hbytes d48)
  have c14 : Steps p.tables e below (s₁.setTop (entryFrame m #[.ref a, .ref b, .int (Int32.ofNat o), .int (Int32.ofNat len), .null] 6)) (T13.setTop (mkF m 54 #[.val (.ref a), .val (.ref b), .val (.int (Int32.ofNat o)), .val (.int (Int32.ofNat len)), .val .null, .val (.ref s.heap.size)] [.ref s.heap.size, .ref a])) := (c12.trans (st13 _ (Steps.refl _))).trans (by
    refine XS.aloadN X13.here hexec rfl (hb hbytes d51) rfl rfl ?_
    refine XS.aload X13.here hexec rfl (hb hbytes d52) rfl rfl ?_
    exact Steps.refl _)
  obtain ⟨T15, X15, p15, bl15, sl15, st15⟩ := X13.finit hexec hown (wk W (.fieldLink "java/lang/String" 9 "java/lang/String" "value" "[B")) (Or.inr ⟨_, (wk W (.laysFinal "java/lang/String" "java/lang/String" "value" "[B"))⟩) (Or.inl ⟨rfl, hnm⟩) f1 (Or.inl rfl) bl13 (t := (.array .byte)) (by decide +kernel) rfl (g := (mkF m 54 #[.val (.ref a), .val (.ref b), .val (.int (Int32.ofNat o)), .val (.int (Int32.ofNat len)), .val .null, .val (.ref s.heap.size)] [.ref s.heap.size, .ref a])) rfl (rest := []) rfl (hb hbytes d54)
  have c16 : Steps p.tables e below (s₁.setTop (entryFrame m #[.ref a, .ref b, .int (Int32.ofNat o), .int (Int32.ofNat len), .null] 6)) (T15.setTop (mkF m 57 #[.val (.ref a), .val (.ref b), .val (.int (Int32.ofNat o)), .val (.int (Int32.ofNat len)), .val .null, .val (.ref s.heap.size)] [])) := c14.trans (st15 _ (Steps.refl _))
  have ap := apart (Or.inr ⟨_, (wk W (.laysFinal "java/lang/String" "java/lang/String" "value" "[B"))⟩) (Or.inr ⟨_, (wk W (.laysFinal "java/lang/String" "java/lang/String" "coder" "B"))⟩) f1 f2 (t₁ := .array .byte) (t₂ := .byte) (by decide +kernel) (by decide +kernel) (by decide)
  have al := X8.warmed.alike.symm.trans X15.warmed.alike
  have n7 : T11.heap[s.heap.size]? = some N := by rw [q11]; exact n1.1
  exact ⟨T15, none, _, _, _, X15, by simp, rfl, by omega, (fun _ => rfl), ⟨rfl, _, N, bl15, ((Same.refl D _).set _ (by simp)).set _ (by simp), sl15, (Cell.slots_setSlot_ne _ ap).trans sl13, n1.keep al (p15.other hne (p13.other hne n7)), n2, by rw [al.findClass]; exact n3, n4, n5, fun y c h1 h2 => p15.other h1 (p13.other h1 (by rw [q11]; exact n6 y c h2)), by rw [p15.2.2, p13.2.2, q11]; exact z8⟩, fun fs hl => c16.trans (X15.returnOut hexec hret (hb hbytes d57) hl)⟩
end New4
namespace New1
def yN : MethodName := ⟨"java/lang/String", "<init>", "([C)V"⟩
abbrev yB : ByteArray := jdk_42_method_3_code
theorem d0 : decode yB 0 = .ok (.aload_n 0, 1) := by decide +kernel
theorem d1 : decode yB 1 = .ok (.aload_n 1, 1) := by decide +kernel
theorem d2 : decode yB 2 = .ok (.iconst 0, 1) := by decide +kernel
theorem d3 : decode yB 3 = .ok (.aload_n 1, 1) := by decide +kernel
theorem d4 : decode yB 4 = .ok (.arraylength, 1) := by decide +kernel
theorem d5 : decode yB 5 = .ok (.aconst_null, 1) := by decide +kernel
theorem d6 : decode yB 6 = .ok (.invokespecial 27, 3) := by decide +kernel
theorem d9 : decode yB 9 = .ok (.return_, 1) := by decide +kernel
def site : List Cond := [New4.tab] ++ initW "java/lang/String" 27 New4.yN
def tab : Cond := tabOf yN yB 2 none site
def P (a : Addr) (D : Cell) (fV fC : Field) (b : Addr) (A : Cell) (z : Int32) (args : Array Value) (s : State) : Prop := args = #[.ref a, .ref b] ∧ Blank "java/lang/String" a D s ∧ Found "java/lang/String" "value" "[B" fV s ∧ Found "java/lang/String" "coder" "B" fC s ∧ Ch b A s ∧ StaticIs s "java/lang/String" "COMPACT_STRINGS" "Z" (.int z) ∧ ¬ z = 0 ∧ 0 < A.slots.size ∧ A.slots.size ≤ 536870912 ∧ ∀ i, i < A.slots.size → ¬ 255 < cv A i
def E (a : Addr) (D : Cell) (fV fC : Field) (A : Cell) (r : Option Value) (s u : State) : Prop := Got a D fV fC A 0 A.slots.size r s u
/-- new String(chars), not empty, no char above 255: a Latin-1 String of their low bytes -/
theorem law (l : Launch) (a : Addr) (D : Cell) (fV fC : Field) (b : Addr) (A : Cell) (z : Int32) : Law l yN 2 1 3 52 yB 2 none site (P a D fV fC b A z) (E a D fV fC A) [⟨a, fC.slot⟩, ⟨a, fV.slot⟩] 1 A.slots.size := by
  refine Law.of_walk (plainFor_of_name (by decide +kernel)) (by decide +kernel) (by decide +kernel) (by decide) (fun _ _ h => by rw [h.1]; rfl) (fun _ U U' hal hh h => ⟨h.1, h.2.1.mv hal hh, h.2.2.1.al hal, h.2.2.2.1.al hal, h.2.2.2.2.1.mv hal hh, h.2.2.2.2.2.1.there hal hh, h.2.2.2.2.2.2⟩) (fun r U U' V V' h1 hal h2 h => Got.mv r U U' V V' h1 hal h2 h) ?_
  intro p e s m args below meth c s₁ X0 hexec hbytes hml hret hlk hnm hown hh0 W hP
  obtain ⟨rfl, hB, f1, f2, hA, s1, hz, l0, l2, hp⟩ := hP
  have c1 : Steps p.tables e below (s₁.setTop (entryFrame m #[.ref a, .ref b] 2)) (s₁.setTop (mkF m 0 #[.val (.ref a), .val (.ref b)] [])) := entry rfl
  have c2 : Steps p.tables e below (s₁.setTop (entryFrame m #[.ref a, .ref b] 2)) (s₁.setTop (mkF m 6 #[.val (.ref a), .val (.ref b)] [.null, .int (Int32.ofNat A.slots.size), .int 0, .ref b, .ref a])) := c1.trans (by
    refine XS.aloadN X0.here hexec rfl (hb hbytes d0) rfl rfl ?_
    refine XS.aloadN X0.here hexec rfl (hb hbytes d1) rfl rfl ?_
    refine iconstV X0.here hexec rfl 0 (hb hbytes d2) (by decide) ?_
    refine XS.aloadN X0.here hexec rfl (hb hbytes d3) rfl rfl ?_
    refine X0.alen hexec (hA.1.mv X0.warmed.alike hh0) rfl rfl (hb hbytes d4) ?_
    refine XS.aconstNull X0.here hexec rfl (hb hbytes d5) ?_
    exact Steps.refl _)
  obtain ⟨v3, T3, X3, E3, g3⟩ := X0.callN hexec (New4.law l a D fV fC b A z 0 A.slots.size) rfl hown (wks W (initW "java/lang/String" 27 New4.yN)) (W New4.tab (by simp only [site, List.mem_cons, List.mem_append, true_or, or_true])) (W := 0) (Nat.le_of_ble_eq_true rfl) (Nat.le_of_ble_eq_true rfl) (Nat.le_refl _) (by show 0 + A.slots.size ≤ A.slots.size; omega) (g := (mkF m 6 #[.val (.ref a), .val (.ref b)] [.null, .int (Int32.ofNat A.slots.size), .int (Int32.ofNat 0), .ref b, .ref a])) rfl (by rw [hml]; rfl) c2 (argsL := [.ref b, .int (Int32.ofNat 0), .int (Int32.ofNat A.slots.size), .null]) (rest := []) rfl rfl (by show 2 * 0 + 0 ≤ _; decide) (hb hbytes d6) (⟨rfl, hB.mv X0.warmed.alike hh0, f1.al X0.warmed.alike, f2.al X0.warmed.alike, hA.mv X0.warmed.alike hh0, s1.there X0.warmed.alike hh0, hz, l0, by omega, l2, fun i hi => by rw [Nat.zero_add]; exact hp i hi⟩)
  have e0 := Got.mv _ s₁ s _ _ hh0.symm (Vm.Alike.refl _) rfl E3
  obtain rfl := e0.1
  have c4 : Steps p.tables e below (s₁.setTop (entryFrame m #[.ref a, .ref b] 2)) (T3.setTop (mkF m 9 #[.val (.ref a), .val (.ref b)] [])) := g3
  exact ⟨T3, none, _, _, _, X3, by simp, rfl, by omega, (fun _ => rfl), e0, fun fs hl => c4.trans (X3.returnOut hexec hret (hb hbytes d9) hl)⟩
theorem pays {l : Launch} {R : Room} {p : Program} {e : Env} {below : List Frame} {s : State} {sargs : Array Value} {len W : Nat} (a : Addr) (D : Cell) (fV fC : Field) (b : Addr) (A : Cell) (z : Int32) (htab : tab.before sargs s = true) (hfr : 4 ≤ R.frames) (hlo : W + 65 ≤ R.locals) :
    Back l R p e below s sargs yN len W (fun A₁ a₁ => A₁.cells + 1 ≤ R.cells ∧ A₁.slots + A.slots.size ≤ R.slots ∧ P a D fV fC b A z a₁ A₁.U) (fun A₁ _ v₁ B₁ => E a D fV fC A v₁ A₁.U B₁.U ∧ B₁.locs = A₁.locs ++ [⟨a, fC.slot⟩, ⟨a, fV.slot⟩] ∧ B₁.cells = A₁.cells + 1 ∧ B₁.slots = A₁.slots + A.slots.size) :=
  (law l a D fV fC b A z).pays htab hfr (by omega)
end New1
end StrChars
namespace StrChars.Road
open Jvm Sem ClassFile Op Lib Jvm.Stand Jvm.Free Jvm.Free.XT
open Jvm.Lib.Cold (StaticIs)
abbrev ST : String := "java/lang/String"
/-- every table word that New1's law asks, flat -/
abbrev words : List Jvm.Cond := [.code New1.yN New1.yB 2 none, .initialized ST, .methodLink ST 27 New4.yN, .instanceMethod New4.yN,
  .code New4.yN New4.yB 6 none, .fieldLink ST 38 ST "COMPACT_STRINGS" "Z", .laysFinal ST ST "value" "[B", .fieldLink ST 9 ST "value" "[B", .laysFinal ST ST "coder" "B", .fieldLink ST 15 ST "coder" "B",
  .methodLink ST 1 Lib.objectInit, .instanceMethod Lib.objectInit, .code Lib.objectInit ⟨#[0xb1]⟩ 1 none, .methodLink ST 177 Cmp3.yN, .static Cmp3.yN, .methodLink ST 47 CodL.yN, .static CodL.yN,
  .code Cmp3.yN Cmp3.yB 6 (some (.array .byte)), .initialized U16, .arrayClass .byte, .methodLink U16 115 Cmp5.yN, .static Cmp5.yN, .code Cmp5.yN Cmp5.yB 7 (some .int), .code CodL.yN CodL.yB 2 (some .byte)]
theorem tab_of {a : Array Value} {s : State} (h : ∀ w ∈ words, w.before a s = true) : New1.tab.before a s = true := by
  have h5 : Cmp5.tab.before a s = true := unparts (wk h (.code Cmp5.yN Cmp5.yB 7 (some .int))) (wks h (.initialized Cmp5.yN.cls :: Cmp5.site))
  have hc : CodL.tab.before a s = true := unparts (wk h (.code CodL.yN CodL.yB 2 (some .byte))) (wks h (.initialized CodL.yN.cls :: CodL.site))
  have q5 : ∀ w ∈ Cmp5.tab :: words, w.before a s = true := fun w hw => (List.mem_cons.mp hw).elim (fun e => e ▸ h5) (h w)
  have h3 : Cmp3.tab.before a s = true := unparts (wk q5 (.code Cmp3.yN Cmp3.yB 6 (some (.array .byte)))) (wks q5 (.initialized Cmp3.yN.cls :: Cmp3.site))
  have q3 : ∀ w ∈ Cmp3.tab :: CodL.tab :: words, w.before a s = true := fun w hw => (List.mem_cons.mp hw).elim (fun e => e ▸ h3) fun hw => (List.mem_cons.mp hw).elim (fun e => e ▸ hc) (h w)
  have h4 : New4.tab.before a s = true := unparts (wk q3 (.code New4.yN New4.yB 6 none)) (wks q3 (.initialized New4.yN.cls :: New4.site))
  have q4 : ∀ w ∈ New4.tab :: words, w.before a s = true := fun w hw => (List.mem_cons.mp hw).elim (fun e => e ▸ h4) (h w)
  exact unparts (wk q4 (.code New1.yN New1.yB 2 none)) (wks q4 (.initialized New1.yN.cls :: New1.site))
/-- the words ride from the start Z to the walk's own state -/
theorem moved {Z s : State} {a0 args : Array Value} (hZ : Z.Warmed39 s.vm) (hw : ∀ d ∈ words, d.before a0 Z = true) : ∀ d ∈ words, d.before args s = true := fun d hd => by
  have q := hw d hd
  have t : ∀ d ∈ words, d = .arrayClass .byte ∨ (d.onTables && d.keepsFace) = true := by decide +kernel
  rcases t d hd with rfl | t
  · exact RoadKit.mvA hZ q
  · exact RoadKit.mv hZ q t
/-- WHAT COMES BACK, over the tables of the start Z: h the heap at the call, h' behind it -/
def Q (Z : State) (x : Addr) (A : Cell) (h : Heap) (v : Option Value) (h' : Heap) (L : List Loc) : Prop := v = none ∧ (∀ y ∈ L, y.base = x) ∧ RoadKit.Keep h h' [x] ∧ h'.size = h.size + 1 ∧ RoadKit.Exa Z h' x ST ∧ RoadKit.Fld Z h' x ST "value" "[B" (.ref h.size) ∧ RoadKit.Fld Z h' x ST "coder" "B" (.int 0) ∧
  (∃ V : Cell, RoadKit.Arr Z h' h.size V .byte ∧ V.vm = .none ∧ Z.vm.findClass "[B" = some V.cls ∧ V.slots.size = A.slots.size ∧ ∀ j, j < A.slots.size → V.slots[j]? = some (.int (lo8 (cv A j)))) ∧
  ∀ (O n d : String) (w : Value), RoadKit.Fld Z h x O n d w → RoadKit.slotOf Z O n d ≠ RoadKit.slotOf Z ST "value" "[B" → RoadKit.slotOf Z O n d ≠ RoadKit.slotOf Z ST "coder" "B" → RoadKit.Fld Z h' x O n d w
/-- **new String(chars) AT A CALL, IN THE ROAD'S FORM**: for specialBack behind newO: x the fresh String, b the char[] with the cell A -/
theorem back {p : Program} {l : Launch} {e : Env} {R : Room} {s : State} {args : Array Value} {below : List Frame} {len W : Nat} {Z : State} {a0 : Array Value} {h : Heap} (hZ : Z.Warmed39 s.vm) (hw : ∀ d ∈ words, d.before a0 Z = true) {kI : Nat} (wi : (Jvm.Cond.instantiable ST kI).before a0 Z = true)
    {x b : Addr} {A : Cell} {z : Int32} {v0 c0 : Value} (E : RoadKit.Exa Z h x ST) (V : RoadKit.Fld Z h x ST "value" "[B" v0) (C : RoadKit.Fld Z h x ST "coder" "B" c0) (K : RoadKit.Arr Z h b A .char) (hty : Typed .char A) (S : RoadKit.Sta Z h ST "COMPACT_STRINGS" "Z" (.int z)) (hz : ¬ z = 0)
    (l0 : 0 < A.slots.size) (l2 : A.slots.size ≤ 536870912) (hp : ∀ i, i < A.slots.size → ¬ 255 < cv A i) (hfr : 4 ≤ R.frames) (hlo : W + 65 ≤ R.locals) :
    Back l R p e below s args New1.yN len W (fun P a => a = #[.ref x, .ref b] ∧ P.U.heap = h ∧ P.cells + 1 ≤ R.cells ∧ P.slots + A.slots.size ≤ R.slots)
      (fun P _ v B => ∃ L, Q Z x A h v B.U.heap L ∧ B.locs = P.locs ++ L ∧ B.cells = P.cells + 1 ∧ B.slots = P.slots + A.slots.size) := by
  intro m meth c P g ig mk a X hg hsize hdg hW hn hp'
  obtain ⟨rfl, rfl, r1, r2⟩ := hp'
  have al : Z.vm.Alike P.U.vm := hZ.alike.trans X.warmed.alike
  obtain ⟨D, cfV, kV, iV, fV, hD, gV, stV, knV, obV, asV, slV⟩ := id V
  obtain ⟨D', cfC, kC, iC, fC, hD', gC, stC, -, -, asC, slC⟩ := id C
  cases hD.symm.trans hD'
  obtain ⟨D2, kD, e1, e2, e3, e4, e5⟩ := id E
  cases hD.symm.trans e1
  obtain ⟨c2, k2, i1, i2, i3, -⟩ := Cond.instantiable_spec wi
  cases e2.symm.trans i1
  cases e3.symm.trans i2
  obtain ⟨kU, u1, u2⟩ := al.2.2 _ _ e3
  have hB : Blank ST x D P.U := ⟨hD, ⟨knV, fun q hq => by rw [hq] at obV; cases obV⟩, by rw [al.findClass]; exact e2, kU, u1, by rw [u2]; exact i3, by rw [u2]; exact e5 i3⟩
  have F1 : Found ST "value" "[B" fV P.U := ⟨SBG.found_only al ⟨cfV, kV, iV, gV⟩, stV⟩
  have F2 : Found ST "coder" "B" fC P.U := ⟨SBG.found_only al ⟨cfC, kC, iC, gC⟩, stC⟩
  have hA : Ch b A P.U := ⟨⟨K.1, State.isArrayOf_alike al K.2.1, K.2.2, by omega⟩, hty⟩
  have hS : StaticIs P.U ST "COMPACT_STRINGS" "Z" (.int z) := by
    obtain ⟨cfS, iS, kS, fS, st, cS, t1, t2, t3, t4, t5, t6, t7⟩ := S
    exact StaticIs.there (s := { Z with heap := P.U.heap }) ⟨cfS, iS, kS, fS, st, cS, t1, t2, t3, t4, t5, (fun q => by rw [q] at t6; cases t6), t7⟩ al rfl
  obtain ⟨v, B, X', ⟨⟨hv, E', V', q1, q2, q3, q4, q5, q6, q7, q8, q9, q10, q11⟩, hl, hc, hs⟩, st⟩ := New1.pays x D fV fC b A z (tab_of (moved hZ hw)) hfr hlo m meth c P g ig mk _ X hg hsize hdg hW hn ⟨r1, r2, rfl, hB, F1, F2, hA, hS, hz, l0, l2, hp⟩
  have al' : Z.vm.Alike B.U.vm := hZ.alike.trans X'.warmed.alike
  have hsz : E'.slots.size = D.slots.size := by
    obtain ⟨-, -, -, kB, w1, w2, w3⟩ := q1
    obtain ⟨kB', y1, y2⟩ := al'.2.2 _ _ e3
    rw [q2.2.1] at w1
    cases w1.symm.trans y1
    rw [w3, e5 i3, y2]
  refine ⟨v, B, X', ⟨_, ⟨hv, ?_, ⟨by omega, fun y cy hy hn' => q10 y cy (by simpa using hn') hy, fun y cy hy => ?_⟩, q11, ⟨E', _, q1.1, by rw [q2.2.1]; exact e2, by rw [q2.2.1]; exact e3, by rw [q2.1]; exact obV, fun _ => by rw [hsz]; exact e5 i3⟩,
    ⟨E', cfV, kV, iV, fV, q1.1, gV, stV, by rw [q2.1]; exact knV, by rw [q2.1]; exact obV, by rw [q2.2.1]; exact asV, q3⟩, ⟨E', cfC, kC, iC, fC, q1.1, gC, stC, by rw [q2.1]; exact knV, by rw [q2.1]; exact obV, by rw [q2.2.1]; exact asC, q4⟩,
    ⟨V', ⟨q5.1, State.isArrayOf_alike al'.symm q5.2.1, q5.2.2.1⟩, q6, by rw [← al'.findClass]; exact q7, q8, fun j hj => by have := q9 j hj; rwa [Nat.zero_add] at this⟩, fun O n d w F n1 n2 => ?_⟩, hl, hc, hs⟩, st⟩
  · intro y hy
    simp only [List.mem_cons, List.not_mem_nil, or_false] at hy
    rcases hy with rfl | rfl <;> rfl
  · by_cases q : y = x
    · subst q
      cases hD.symm.trans hy
      exact ⟨E', q1.1, q2.2.1, q2.1, hsz⟩
    · exact ⟨cy, q10 y cy q hy, rfl, rfl, rfl⟩
  · obtain ⟨D3, cf, k, i, f, g1, g2, g3, g4, g5, g6, g7⟩ := F
    cases hD.symm.trans g1
    simp only [RoadKit.slotOf, g2, gV, gC, Option.map_some, Option.getD_some] at n1 n2
    exact ⟨E', cf, k, i, f, q1.1, g2, g3, by rw [q2.1]; exact g4, by rw [q2.1]; exact g5, by rw [q2.2.1]; exact g6, by rw [q2.2.2 f.slot (by simp [n1, n2])]; exact g7⟩
end StrChars.Road
namespace StrChars.Road
open Jvm Sem ClassFile Op Lib Jvm.Stand Jvm.Free Jvm.Free.XT
/-- WHAT COMES BACK, the byte[] as a list of values -/
def QA (Z : State) (x : Addr) (zn : Int32) (cs : List Int32) (h : Heap) (v : Option Value) (h' : Heap) (L : List Loc) : Prop := v = none ∧ (∀ y ∈ L, y.base = x) ∧ RoadKit.Keep h h' [x] ∧ h'.size = h.size + 1 ∧ RoadKit.Exa Z h' x ST ∧ RoadKit.Fld Z h' x ST "value" "[B" (.ref h.size) ∧ RoadKit.Fld Z h' x ST "coder" "B" (.int 0) ∧
  (∃ kb, Z.vm.findClass "[B" = some kb ∧ RoadKit.Arv Z h' h.size kb .byte zn (cs.map fun c => .int (lo8 c)) (.int 0)) ∧
  ∀ (O n d : String) (w : Value), RoadKit.Fld Z h x O n d w → RoadKit.slotOf Z O n d ≠ RoadKit.slotOf Z ST "value" "[B" → RoadKit.slotOf Z O n d ≠ RoadKit.slotOf Z ST "coder" "B" → RoadKit.Fld Z h' x O n d w
/-- **new String(chars) AT A CALL, THE ARRAYS AS LISTS**: the char[] at b holds cs, not empty, no char above 255 -/
theorem backArv {p : Program} {l : Launch} {e : Env} {R : Room} {s : State} {args : Array Value} {below : List Frame} {len W : Nat} {Z : State} {a0 : Array Value} {h : Heap} (hZ : Z.Warmed39 s.vm) (hw : ∀ d ∈ words, d.before a0 Z = true) {kI : Nat} (wi : (Jvm.Cond.instantiable ST kI).before a0 Z = true)
    {x b : Addr} {k : ClassId} {zn z : Int32} {cs : List Int32} {dv v0 c0 : Value} (E : RoadKit.Exa Z h x ST) (V : RoadKit.Fld Z h x ST "value" "[B" v0) (C : RoadKit.Fld Z h x ST "coder" "B" c0) (K : RoadKit.Arv Z h b k .char zn (cs.map Value.int) dv) (S : RoadKit.Sta Z h ST "COMPACT_STRINGS" "Z" (.int z)) (hz : ¬ z = 0)
    (hlen : zn.toNatClampNeg = cs.length) (h0 : 0 < cs.length) (hbig : cs.length ≤ 536870912) (hall : ∀ c ∈ cs, ¬ 255 < c) (hfr : 4 ≤ R.frames) (hlo : W + 65 ≤ R.locals) :
    Back l R p e below s args New1.yN len W (fun P a => a = #[.ref x, .ref b] ∧ P.U.heap = h ∧ P.cells + 1 ≤ R.cells ∧ P.slots + cs.length ≤ R.slots)
      (fun P _ v B => ∃ L, QA Z x zn cs h v B.U.heap L ∧ B.locs = P.locs ++ L ∧ B.cells = P.cells + 1 ∧ B.slots = P.slots + cs.length) := by
  obtain ⟨A, K1, K2, K3, K4, K5, K6⟩ := K
  have e : A.slots.size = cs.length := K3.trans hlen
  have hat : ∀ (i : Nat) (hi : i < cs.length), A.slots[i]? = some (.int cs[i]) := fun i hi => by rw [K5 i (by omega)]; simp [List.getD_eq_getElem?_getD, hi]
  have hcv : ∀ (i : Nat) (hi : i < cs.length), cv A i = cs[i] := fun i hi => by unfold cv; rw [hat i hi]
  have hty : Typed .char A := fun i v hv => by
    have hi : i < A.slots.size := (Array.getElem?_eq_some_iff.mp hv).1
    have q := K5 i hi
    rw [hv] at q
    rw [Option.some.inj q]
    exact K6 i hi
  refine Back.mono (back hZ hw wi E V C K1 hty S hz (by omega) (by omega) (fun i hi => by rw [hcv i (by omega)]; exact hall _ (List.getElem_mem _)) hfr hlo) (fun P a hp => ⟨hp.1, hp.2.1, hp.2.2.1, by rw [e]; exact hp.2.2.2⟩) (fun P a v B hp hq => ?_)
  obtain ⟨L, ⟨q1, q2, q3, q4, q5, q6, q7, ⟨V', v1, v2, v3, v4, v5⟩, q9⟩, hl, hc, hs⟩ := hq
  refine ⟨L, ⟨q1, q2, q3, q4, q5, q6, q7, ⟨V'.cls, v3, V', v1, rfl, by rw [v4, e, hlen], K4, fun i hi => ?_, fun i hi => ?_⟩, q9⟩, hl, hc, by rw [hs, e]⟩
  · have hi' : i < cs.length := by omega
    rw [v5 i (by omega), hcv i hi']; simp [List.getD_eq_getElem?_getD, hi']
  · have hi' : i < cs.length := by omega
    simp only [List.getD_eq_getElem?_getD, List.getElem?_map, List.getElem?_eq_getElem hi', Option.map_some, Option.getD_some]
    exact fits_lo8 _
end StrChars.Road
namespace StrChars
open Jvm Sem ClassFile Op Lib Jvm.Stand Jvm.Free.XT Jvm.Free.ALB Jvm.Free.JM Jvm.Free
open Jvm.Lib.Cold (StaticIs)
def hi8 (x : Int32) : Int32 := lo8 (x >>> ((8 : Int32) &&& 31))
/-- what StringUTF16.getChar makes of two bytes -/
def pairCh (u v : Int32) : Int32 := (((u &&& 255) <<< ((0 : Int32) &&& 31)) ||| ((v &&& 255) <<< ((8 : Int32) &&& 31))).toUInt32.toUInt16.toUInt32.toInt32
theorem shr0 (c : Int32) : c >>> ((0 : Int32) &&& 31) = c := by
  have e : ((0 : Int32) &&& 31) = 0 := by decide
  rw [e]
  apply Int32.toBitVec_inj.mp
  rw [Int32.toBitVec_shiftRight]
  have e1 : ((0 : Int32).toBitVec.smod 32) = 0#32 := by decide
  rw [e1, BitVec.sshiftRight_eq']
  exact BitVec.sshiftRight_zero
theorem lo8_and (x : Int32) : (lo8 x &&& 255).toBitVec.toNat = x.toBitVec.toNat % 256 := by
  have h : (lo8 x).toBitVec = (x.toBitVec.signExtend 8).signExtend 32 := by rw [lo8, Int8.toBitVec_toInt32, Int32.toBitVec_toInt8]
  rw [Int32.toBitVec_and, BitVec.toNat_and, h]
  have e : ((x.toBitVec.signExtend 8).signExtend 32).toNat % 256 = x.toBitVec.toNat % 256 := by
    rw [BitVec.toNat_signExtend]
    have hlt := x.toBitVec.isLt
    simp only [BitVec.toNat_setWidth, BitVec.toNat_signExtend]
    split <;> split <;> omega
  rw [← e]
  exact Nat.and_two_pow_sub_one_eq_mod _ 8
theorem pair_says {c : Int32} (h0 : ¬ c < 0) (h1 : ¬ 65535 < c) : pairCh (lo8 c) (hi8 c) = c := by
  rw [Int32.lt_iff_toInt_lt] at h0 h1
  have e0 : (0 : Int32).toInt = 0 := rfl
  have e1 : (65535 : Int32).toInt = 65535 := rfl
  have hc : c.toInt = c.toBitVec.toNat := by
    have := c.toBitVec.isLt
    have e : c.toInt = c.toBitVec.toInt := rfl
    rw [e] at h0 h1
    rw [e]
    rw [BitVec.toInt_eq_toNat_cond] at h0 h1 ⊢
    split at h0 <;> split <;> omega
  have hn : c.toBitVec.toNat < 65536 := by omega
  have a1 := lo8_and c
  have a2 : (hi8 c &&& 255).toBitVec.toNat = c.toBitVec.toNat / 256 := by
    rw [hi8, lo8_and]
    have e : ((8 : Int32) &&& 31) = 8 := by decide
    rw [e, Int32.toBitVec_shiftRight]
    have e2 : ((8 : Int32).toBitVec.smod 32) = 8#32 := by decide
    rw [e2, BitVec.sshiftRight_eq', BitVec.toNat_sshiftRight_of_msb_false (by rw [BitVec.msb_eq_false_iff_two_mul_lt]; omega)]
    show c.toBitVec.toNat >>> 8 % 256 = _
    rw [Nat.shiftRight_eq_div_pow]
    omega
  unfold pairCh
  apply Int32.toBitVec_inj.mp
  apply BitVec.eq_of_toNat_eq
  have f0 : ((0 : Int32) &&& 31) = 0 := by decide
  have f8 : ((8 : Int32) &&& 31) = 8 := by decide
  rw [f0, f8]
  have g : (((lo8 c &&& 255) <<< (0 : Int32)) ||| ((hi8 c &&& 255) <<< (8 : Int32))).toBitVec.toNat = c.toBitVec.toNat := by
    rw [Int32.toBitVec_or, Int32.toBitVec_shiftLeft, Int32.toBitVec_shiftLeft]
    have s0 : ((0 : Int32).toBitVec.smod 32) = 0#32 := by decide
    have s8 : ((8 : Int32).toBitVec.smod 32) = 8#32 := by decide
    rw [s0, s8, BitVec.toNat_or]
    simp only [BitVec.shiftLeft_eq', BitVec.toNat_shiftLeft, a1, a2]
    show (c.toBitVec.toNat % 256) <<< 0 % 2 ^ 32 ||| (c.toBitVec.toNat / 256) <<< 8 % 2 ^ 32 = _
    rw [Nat.shiftLeft_zero, Nat.mod_eq_of_lt (show c.toBitVec.toNat % 256 < 2 ^ 32 by omega), Nat.mod_eq_of_lt (show (c.toBitVec.toNat / 256) <<< 8 < 2 ^ 32 by rw [Nat.shiftLeft_eq]; omega), Nat.or_comm, ← Nat.shiftLeft_add_eq_or_of_lt (by omega), Nat.shiftLeft_eq]
    omega
  show BitVec.toNat (((((lo8 c &&& 255) <<< (0 : Int32)) ||| ((hi8 c &&& 255) <<< (8 : Int32))).toBitVec.setWidth 16).setWidth 32) = _
  rw [BitVec.toNat_setWidth, BitVec.toNat_setWidth, g]
  omega
end StrChars
namespace StrChars
open Jvm Sem ClassFile Op Lib Jvm.Stand Jvm.Free.XT Jvm.Free.ALB Jvm.Free.JM Jvm.Free
open Jvm.Lib.Cold (StaticIs)
theorem shr1 {n : Nat} (h : 2 * n < 2 ^ 31) : Int32.ofNat (2 * n) >>> ((1 : Int32) &&& 31) = Int32.ofNat n := by
  have e : ((1 : Int32) &&& 31) = 1 := by decide
  rw [e]
  apply Int32.toBitVec_inj.mp
  rw [Int32.toBitVec_shiftRight]
  have e1 : ((1 : Int32).toBitVec.smod 32) = 1#32 := by decide
  have hm : (BitVec.ofNat 32 (2 * n)).toNat = 2 * n := by rw [BitVec.toNat_ofNat, Nat.mod_eq_of_lt (by omega)]
  rw [e1, BitVec.sshiftRight_eq']
  apply BitVec.eq_of_toNat_eq
  show ((BitVec.ofNat 32 (2 * n)).sshiftRight 1).toNat = (BitVec.ofNat 32 n).toNat
  rw [BitVec.toNat_sshiftRight_of_msb_false (by rw [BitVec.msb_eq_false_iff_two_mul_lt, hm]; omega), hm, BitVec.toNat_ofNat, Nat.shiftRight_eq_div_pow]
  omega
/-- the array's cell V codes the n chars f 0 .. f (n - 1) by the coder cd, as the JDK does: coder 1 just where some char is above 255 -/
def Cod (cd : Int32) (n : Nat) (f : Nat → Int32) (V : Cell) : Prop := (cd = 0 ∧ V.slots.size = n ∧ ∀ j, j < n → V.slots[j]? = some (.int (lo8 (f j))) ∧ ¬ 255 < f j) ∨ (cd = 1 ∧ V.slots.size = 2 * n ∧ (∀ j, j < n → V.slots[2 * j]? = some (.int (lo8 (f j))) ∧ V.slots[2 * j + 1]? = some (.int (hi8 (f j)))) ∧ ∃ j, j < n ∧ 255 < f j)
theorem Cod.cd {cd : Int32} {n : Nat} {f : Nat → Int32} {V : Cell} (h : Cod cd n f V) : cd = 0 ∨ cd = 1 := h.imp (fun q => q.1) fun q => q.1
theorem Cod.len {cd : Int32} {n : Nat} {f : Nat → Int32} {V : Cell} (h : Cod cd n f V) (hs : V.slots.size < 2 ^ 31) : Int32.ofNat V.slots.size >>> (cd &&& 31) = Int32.ofNat n := by
  rcases h with ⟨rfl, h, -⟩ | ⟨rfl, h, -⟩
  · rw [shr0, h]
  · rw [h, shr1 (by omega)]
/-- **x is a String of the n chars f 0 .. f (n - 1)**, Latin-1 or UTF-16; its array at t has the cell V -/
def Txt (x t : Addr) (V : Cell) (cd : Int32) (n : Nat) (f : Nat → Int32) (U : State) : Prop := Exact "java/lang/String" x U ∧ Has x "java/lang/String" "value" "[B" (.ref t) U ∧ Has x "java/lang/String" "coder" "B" (.int cd) U ∧ XT.Arr .byte t V U ∧ Cod cd n f V ∧ ∀ j, j < n → ¬ f j < 0 ∧ ¬ 65535 < f j
theorem Txt.mv {x t : Addr} {V : Cell} {cd : Int32} {n : Nat} {f : Nat → Int32} {U U' : State} (h : Txt x t V cd n f U) (hal : U.vm.Alike U'.vm) (hh : U'.heap = U.heap) : Txt x t V cd n f U' := ⟨h.1.mv hal hh, h.2.1.mv hal hh, h.2.2.1.mv hal hh, h.2.2.2.1.mv hal hh, h.2.2.2.2⟩
namespace Cdr
def yN : MethodName := ⟨"java/lang/String", "coder", "()B"⟩
abbrev yB : ByteArray := jdk_42_method_152_code
theorem d0 : decode yB 0 = .ok (.getstatic 38, 3) := by decide +kernel
theorem d3 : decode yB 3 = .ok (.ifCond (.eq) 10, 3) := by decide +kernel
theorem d6 : decode yB 6 = .ok (.aload_n 0, 1) := by decide +kernel
theorem d7 : decode yB 7 = .ok (.getfield 15, 3) := by decide +kernel
theorem d10 : decode yB 10 = .ok (.goto 4, 3) := by decide +kernel
theorem d14 : decode yB 14 = .ok (.ireturn, 1) := by decide +kernel
def site : List Cond := [.fieldLink "java/lang/String" 38 "java/lang/String" "COMPACT_STRINGS" "Z", .fieldLink "java/lang/String" 15 "java/lang/String" "coder" "B"]
def tab : Cond := tabOf yN yB 1 (some .byte) site
def P (x : Addr) (cd z : Int32) (args : Array Value) (s : State) : Prop := args = #[.ref x] ∧ Has x "java/lang/String" "coder" "B" (.int cd) s ∧ (cd = 0 ∨ cd = 1) ∧ StaticIs s "java/lang/String" "COMPACT_STRINGS" "Z" (.int z) ∧ ¬ z = 0
def E (cd : Int32) (r : Option Value) (s u : State) : Prop := XT.PureE (some (.int cd)) r s u
theorem law (l : Launch) (x : Addr) (cd z : Int32) : Law l yN 1 0 0 0 yB 1 (some .byte) site (P x cd z) (E cd) [] 0 0 := by
  refine Law.of_walk (plainFor_of_name (by decide +kernel)) (by decide +kernel) (by decide +kernel) (by decide) (fun _ _ h => by rw [h.1]; rfl) (fun _ U U' hal hh h => ⟨h.1, h.2.1.mv hal hh, h.2.2.1, h.2.2.2.1.there hal hh, h.2.2.2.2⟩) (fun r U U' V V' h1 hal h2 h => XT.PureE.mv r U U' V V' h1 hal h2 h) ?_
  intro p e s m args below meth c s₁ X0 hexec hbytes hml hret hlk hnm hown hh0 W hP
  obtain ⟨rfl, hx, hc, s1, hz⟩ := hP
  have c1 : Steps p.tables e below (s₁.setTop (entryFrame m #[.ref x] 1)) (s₁.setTop (mkF m 0 #[.val (.ref x)] [])) := entry rfl
  obtain ⟨T2, X2, q2, st2⟩ := X0.sget hexec hown (wk W (.fieldLink "java/lang/String" 38 "java/lang/String" "COMPACT_STRINGS" "Z")) s1 (fun _ _ h => by rw [hh0]; exact h) (g := (mkF m 0 #[.val (.ref x)] [])) rfl (hb hbytes d0)
  have hh2 := q2.trans hh0
  have c3 : Steps p.tables e below (s₁.setTop (entryFrame m #[.ref x] 1)) (T2.setTop (mkF m 7 #[.val (.ref x)] [.ref x])) := (c1.trans (st2 _ (Steps.refl _))).trans (by
    refine XS.ifNo X2.here hexec rfl (hb hbytes d3) rfl (i0_eq_f hz) ?_
    refine XS.aloadN X2.here hexec rfl (hb hbytes d6) rfl rfl ?_
    exact Steps.refl _)
  obtain ⟨T4, X4, q4, st4⟩ := X2.hget hexec hown (wk W (.fieldLink "java/lang/String" 15 "java/lang/String" "coder" "B")) (hx.mv X2.warmed.alike hh2) (g := (mkF m 7 #[.val (.ref x)] [.ref x])) rfl (rest := []) rfl (hb hbytes d7)
  have c5 : Steps p.tables e below (s₁.setTop (entryFrame m #[.ref x] 1)) (T4.setTop (mkF m 14 #[.val (.ref x)] [.int cd])) := (c3.trans (st4 _ (Steps.refl _))).trans (by
    refine XS.goto X4.here hexec rfl (pc0 := 10) rfl (hb hbytes d10) (by decide) rfl ?_
    exact Steps.refl _)
  exact ⟨T4, some (.int cd), _, _, _, X4, rfl, rfl, rfl, (fun h => by cases h), ⟨rfl, q4.trans hh2⟩, fun fs hl => c5.trans (X4.ireturnOut hexec hret (by rcases hc with rfl | rfl <;> rfl) (Or.inr (Or.inr (Or.inl rfl))) (hb hbytes d14) hl)⟩
end Cdr
namespace Len
def yN : MethodName := ⟨"java/lang/String", "length", "()I"⟩
abbrev yB : ByteArray := jdk_42_method_54_code
theorem d0 : decode yB 0 = .ok (.aload_n 0, 1) := by decide +kernel
theorem d1 : decode yB 1 = .ok (.getfield 9, 3) := by decide +kernel
theorem d4 : decode yB 4 = .ok (.arraylength, 1) := by decide +kernel
theorem d5 : decode yB 5 = .ok (.aload_n 0, 1) := by decide +kernel
theorem d6 : decode yB 6 = .ok (.invokevirtual 335, 3) := by decide +kernel
theorem d9 : decode yB 9 = .ok (.ishr, 1) := by decide +kernel
theorem d10 : decode yB 10 = .ok (.ireturn, 1) := by decide +kernel
def site : List Cond := [.fieldLink "java/lang/String" 9 "java/lang/String" "value" "[B", Cdr.tab] ++ virtW "java/lang/String" 335 "java/lang/String" Cdr.yN Cdr.yN
def tab : Cond := tabOf yN yB 1 (some .int) site
def P (x t : Addr) (V : Cell) (cd : Int32) (n : Nat) (f : Nat → Int32) (z : Int32) (args : Array Value) (s : State) : Prop := args = #[.ref x] ∧ Txt x t V cd n f s ∧ StaticIs s "java/lang/String" "COMPACT_STRINGS" "Z" (.int z) ∧ ¬ z = 0
def E (n : Nat) (r : Option Value) (s u : State) : Prop := XT.PureE (some (.int (Int32.ofNat n))) r s u
/-- length() of a String of n chars, in either coding -/
theorem law (l : Launch) (x t : Addr) (V : Cell) (cd : Int32) (n : Nat) (f : Nat → Int32) (z : Int32) : Law l yN 1 0 1 13 yB 1 (some .int) site (P x t V cd n f z) (E n) [] 0 0 := by
  refine Law.of_walk (plainFor_of_name (by decide +kernel)) (by decide +kernel) (by decide +kernel) (by decide) (fun _ _ h => by rw [h.1]; rfl) (fun _ U U' hal hh h => ⟨h.1, h.2.1.mv hal hh, h.2.2.1.there hal hh, h.2.2.2⟩) (fun r U U' V V' h1 hal h2 h => XT.PureE.mv r U U' V V' h1 hal h2 h) ?_
  intro p e s m args below meth c s₁ X0 hexec hbytes hml hret hlk hnm hown hh0 W hP
  obtain ⟨rfl, hx, s1, hz⟩ := hP
  have v31 := hx.2.2.2.1.2.2.2
  have c1 : Steps p.tables e below (s₁.setTop (entryFrame m #[.ref x] 1)) (s₁.setTop (mkF m 1 #[.val (.ref x)] [.ref x])) := Steps.trans (entry rfl) (by
    show Steps p.tables e below (s₁.setTop (mkF m 0 #[.val (.ref x)] [])) _
    refine XS.aloadN X0.here hexec rfl (hb hbytes d0) rfl rfl ?_
    exact Steps.refl _)
  obtain ⟨T2, X2, q2, st2⟩ := X0.hget hexec hown (wk W (.fieldLink "java/lang/String" 9 "java/lang/String" "value" "[B")) (hx.mv X0.warmed.alike hh0).2.1 (g := (mkF m 1 #[.val (.ref x)] [.ref x])) rfl (rest := []) rfl (hb hbytes d1)
  have hh2 := q2.trans hh0
  have hx2 := hx.mv X2.warmed.alike hh2
  have c3 : Steps p.tables e below (s₁.setTop (entryFrame m #[.ref x] 1)) (T2.setTop (mkF m 6 #[.val (.ref x)] [.ref x, .int (Int32.ofNat V.slots.size)])) := (c1.trans (st2 _ (Steps.refl _))).trans (by
    refine X2.alen hexec hx2.2.2.2.1 rfl rfl (hb hbytes d4) ?_
    refine XS.aloadN X2.here hexec rfl (hb hbytes d5) rfl rfl ?_
    exact Steps.refl _)
  obtain ⟨v4, T4, X4, E4, g4⟩ := X2.callV hexec (Cdr.law l x cd z) hown (wks W (virtW "java/lang/String" 335 "java/lang/String" Cdr.yN Cdr.yN)) rfl (by decide) (wk W Cdr.tab) (W := 1) (Nat.le_of_ble_eq_true rfl) (Nat.le_of_ble_eq_true rfl) (Nat.le_refl _) (Nat.le_refl _) (hx2.1.fc X2.warmed.alike) hx2.1.is (g := (mkF m 6 #[.val (.ref x)] [.ref x, .int (Int32.ofNat V.slots.size)])) rfl (by rw [hml]; rfl) c3 (argsL := []) (rest := [.int (Int32.ofNat V.slots.size)]) rfl rfl (by show 2 * 0 + (1 + 0) ≤ _; decide) (hb hbytes d6) (⟨rfl, hx2.2.2.1, hx.2.2.2.2.1.cd, s1.there X2.warmed.alike hh2, hz⟩)
  obtain ⟨rfl, q4⟩ := E4
  have c5 : Steps p.tables e below (s₁.setTop (entryFrame m #[.ref x] 1)) (T4.setTop (mkF m 10 #[.val (.ref x)] [.int (Int32.ofNat V.slots.size >>> (cd &&& 31))])) := Steps.trans g4 (by
    refine ishr X4.here hexec rfl (hb hbytes d9) rfl ?_
    exact Steps.refl _)
  rw [hx.2.2.2.2.1.len v31] at c5
  exact ⟨T4, some (.int (Int32.ofNat n)), _, _, _, X4, rfl, rfl, rfl, (fun h => by cases h), ⟨rfl, q4.trans hh2⟩, fun fs hl => c5.trans (X4.ireturnOut hexec hret rfl (Or.inl rfl) (hb hbytes d10) hl)⟩
theorem pays {l : Launch} {R : Room} {p : Program} {e : Env} {below : List Frame} {s : State} {sargs : Array Value} {len W : Nat} (x t : Addr) (V : Cell) (cd : Int32) (n : Nat) (f : Nat → Int32) (z : Int32) (htab : tab.before sargs s = true) (hfr : 2 ≤ R.frames) (hlo : W + 25 ≤ R.locals) :
    Back l R p e below s sargs yN len W (fun A₁ a₁ => A₁.cells + 0 ≤ R.cells ∧ A₁.slots + 0 ≤ R.slots ∧ P x t V cd n f z a₁ A₁.U) (fun A₁ _ v₁ B₁ => E n v₁ A₁.U B₁.U ∧ B₁.locs = A₁.locs ++ [] ∧ B₁.cells = A₁.cells + 0 ∧ B₁.slots = A₁.slots + 0) :=
  (law l x t V cd n f z).pays htab hfr (by omega)
end Len
end StrChars
namespace StrChars.Road
open Jvm Sem ClassFile Op Lib Jvm.Stand Jvm.Free Jvm.Free.XT
open Jvm.Lib.Cold (StaticIs)
theorem consq {a : Array Value} {s : State} {c : Jvm.Cond} {L : List Jvm.Cond} (h0 : c.before a s = true) (h : ∀ w ∈ L, w.before a s = true) : ∀ w ∈ c :: L, w.before a s = true := fun w hw => (List.mem_cons.mp hw).elim (fun e => e ▸ h0) (h w)
/-- the words of String.length(), either coding -/
abbrev wordsLen : List Jvm.Cond := [.code Len.yN Len.yB 1 (some .int), .initialized ST, .fieldLink ST 9 ST "value" "[B", .fieldLink ST 38 ST "COMPACT_STRINGS" "Z", .fieldLink ST 15 ST "coder" "B", .code Cdr.yN Cdr.yB 1 (some .byte), .methodLink ST 335 Cdr.yN, .declares Cdr.yN, .selects ST Cdr.yN Cdr.yN, .instanceMethod Cdr.yN]
theorem tabLen_of {a : Array Value} {s : State} (h : ∀ w ∈ wordsLen, w.before a s = true) : Len.tab.before a s = true := by
  have hc : Cdr.tab.before a s = true := unparts (wk h (.code Cdr.yN Cdr.yB 1 (some .byte))) (wks h (.initialized Cdr.yN.cls :: Cdr.site))
  have q := consq hc h
  exact unparts (wk q (.code Len.yN Len.yB 1 (some .int))) (wks q (.initialized Len.yN.cls :: Len.site))
theorem movedLen {Z s : State} {a0 args : Array Value} (hZ : Z.Warmed39 s.vm) (hw : ∀ d ∈ wordsLen, d.before a0 Z = true) : ∀ d ∈ wordsLen, d.before args s = true := fun d hd => by
  have q := hw d hd
  have t : ∀ d ∈ wordsLen, d = .arrayClass .byte ∨ (d.onTables && d.keepsFace) = true := by decide +kernel
  rcases t d hd with rfl | t
  · exact RoadKit.mvA hZ q
  · exact RoadKit.mv hZ q t
/-- the bytes of the chars cs, low before high -/
def wideBytes : List Int32 → List Value
  | [] => []
  | c :: cs => .int (lo8 c) :: .int (hi8 c) :: wideBytes cs
theorem wide_lo (d : Value) : ∀ (cs : List Int32) (j : Nat), j < cs.length → (wideBytes cs).getD (2 * j) d = .int (lo8 (cs.getD j 0))
  | [], j, h => absurd h (Nat.not_lt_zero j)
  | c :: cs, 0, _ => rfl
  | c :: cs, j + 1, h => by
    have q := wide_lo d cs j (by simpa using h)
    rw [show 2 * (j + 1) = 2 * j + 1 + 1 from by omega]
    simpa [wideBytes] using q
theorem wide_hi (d : Value) : ∀ (cs : List Int32) (j : Nat), j < cs.length → (wideBytes cs).getD (2 * j + 1) d = .int (hi8 (cs.getD j 0))
  | [], j, h => absurd h (Nat.not_lt_zero j)
  | c :: cs, 0, _ => rfl
  | c :: cs, j + 1, h => by
    have q := wide_hi d cs j (by simpa using h)
    rw [show 2 * (j + 1) + 1 = 2 * j + 1 + 1 + 1 from by omega]
    simpa [wideBytes] using q
theorem low_at (d : Value) (cs : List Int32) (j : Nat) (h : j < cs.length) : (cs.map fun c => Value.int (lo8 c)).getD j d = .int (lo8 (cs.getD j 0)) := by
  simp [List.getD_eq_getElem?_getD, h]
/-- an array of N2 bytes vs codes the chars cs by the coder cd -/
def CodA (cs : List Int32) (cd N2 : Int32) (vs : List Value) : Prop := (cd = 0 ∧ N2 = Int32.ofNat cs.length ∧ vs = (cs.map fun c => Value.int (lo8 c)) ∧ ∀ c ∈ cs, ¬ 255 < c) ∨ (cd = 1 ∧ N2 = Int32.ofNat (2 * cs.length) ∧ vs = wideBytes cs ∧ ∃ c ∈ cs, 255 < c)
theorem CodA.cod {cs : List Int32} {cd N2 : Int32} {vs : List Value} {V : Cell} (h : CodA cs cd N2 vs) (hn : 2 * cs.length < 2 ^ 31) (hs : V.slots.size = N2.toNatClampNeg) (hv : RoadKit.Has V vs (.int 0)) : Cod cd cs.length (fun j => cs.getD j 0) V := by
  rcases h with ⟨rfl, rfl, rfl, h⟩ | ⟨rfl, rfl, rfl, c, hc, hw⟩
  · rw [n32 (by omega)] at hs
    exact Or.inl ⟨rfl, hs, fun j hj => ⟨by rw [hv j (by omega), low_at _ _ _ hj], by
      have e : cs.getD j 0 = cs[j] := by simp [List.getD_eq_getElem?_getD, hj]
      show ¬ 255 < cs.getD j 0
      rw [e]; exact h _ (List.getElem_mem _)⟩⟩
  · rw [n32 (by omega)] at hs
    obtain ⟨j, hj, rfl⟩ := List.getElem_of_mem hc
    exact Or.inr ⟨rfl, hs, fun j hj => ⟨by rw [hv _ (by omega), wide_lo _ _ _ hj], by rw [hv _ (by omega), wide_hi _ _ _ hj]⟩, j, hj, by
      have e : cs.getD j 0 = cs[j] := by simp [List.getD_eq_getElem?_getD, hj]
      show 255 < cs.getD j 0
      rw [e]; exact hw⟩
/-- an object of exactly java/lang/String, its two fields found: as the laws ask it -/
theorem strObj {Z U : State} {a0 : Array Value} {kI : Nat} (wi : (Jvm.Cond.instantiable ST kI).before a0 Z = true) (al : Z.vm.Alike U.vm) {x : Addr} {v0 c0 : Value} (E : RoadKit.Exa Z U.heap x ST) (V : RoadKit.Fld Z U.heap x ST "value" "[B" v0) (C : RoadKit.Fld Z U.heap x ST "coder" "B" c0) :
    ∃ (D : Cell) (fV fC : Field), Blank ST x D U ∧ Found ST "value" "[B" fV U ∧ Found ST "coder" "B" fC U ∧ D.slots[fV.slot]? = some v0 ∧ D.slots[fC.slot]? = some c0 ∧ RoadKit.slotOf Z ST "value" "[B" = fV.slot ∧ RoadKit.slotOf Z ST "coder" "B" = fC.slot := by
  obtain ⟨D, cfV, kV, iV, fV, hD, gV, stV, knV, obV, asV, slV⟩ := V
  obtain ⟨D', cfC, kC, iC, fC, hD', gC, stC, -, -, asC, slC⟩ := C
  cases hD.symm.trans hD'
  obtain ⟨D2, kD, e1, e2, e3, e4, e5⟩ := E
  cases hD.symm.trans e1
  obtain ⟨c2, k2, i1, i2, i3, -⟩ := Cond.instantiable_spec wi
  cases e2.symm.trans i1
  cases e3.symm.trans i2
  obtain ⟨kU, u1, u2⟩ := al.2.2 _ _ e3
  exact ⟨D, fV, fC, ⟨hD, ⟨knV, fun q hq => by rw [hq] at obV; cases obV⟩, by rw [al.findClass]; exact e2, kU, u1, by rw [u2]; exact i3, by rw [u2]; exact e5 i3⟩, ⟨SBG.found_only al ⟨cfV, kV, iV, gV⟩, stV⟩, ⟨SBG.found_only al ⟨cfC, kC, iC, gC⟩, stC⟩, slV, slC, by simp [RoadKit.slotOf, gV], by simp [RoadKit.slotOf, gC]⟩
theorem sta_is {Z U : State} (al : Z.vm.Alike U.vm) {C n d : String} {v : Value} (S : RoadKit.Sta Z U.heap C n d v) : StaticIs U C n d v := by
  obtain ⟨cfS, iS, kS, fS, st, cS, t1, t2, t3, t4, t5, t6, t7⟩ := S
  exact StaticIs.there (s := { Z with heap := U.heap }) ⟨cfS, iS, kS, fS, st, cS, t1, t2, t3, t4, t5, (fun q => by rw [q] at t6; cases t6), t7⟩ al rfl
/-- **length() OF SUCH A STRING** -/
theorem lenW {p : Program} {l : Launch} {e : Env} {R : Room} {s : State} {args : Array Value} {below : List Frame} {len W : Nat} {Z : State} {a0 : Array Value} {h : Heap} (hZ : Z.Warmed39 s.vm) (hw : ∀ d ∈ wordsLen, d.before a0 Z = true) {kI : Nat} (wi : (Jvm.Cond.instantiable ST kI).before a0 Z = true)
    {x t : Addr} {kb : ClassId} {cs : List Int32} {cd N2 z : Int32} {vs : List Value} (E : RoadKit.Exa Z h x ST) (V : RoadKit.Fld Z h x ST "value" "[B" (.ref t)) (C : RoadKit.Fld Z h x ST "coder" "B" (.int cd)) (K : RoadKit.Arv Z h t kb .byte N2 vs (.int 0)) (hc : CodA cs cd N2 vs) (hb : ∀ c ∈ cs, ¬ c < 0 ∧ ¬ (65535 : Int32) < c)
    (S : RoadKit.Sta Z h ST "COMPACT_STRINGS" "Z" (.int z)) (hz : ¬ z = 0) (l2 : cs.length ≤ 4000) (hfr : 2 ≤ R.frames) (hlo : W + 25 ≤ R.locals) :
    Back l R p e below s args (⟨"java/lang/String", "length", "()I"⟩ : MethodName) len W (fun P a => a = #[.ref x] ∧ P.U.heap = h ∧ P.cells + 0 ≤ R.cells ∧ P.slots + 0 ≤ R.slots)
      (fun P _ v B => ∃ L, (v = some (.int (Int32.ofNat cs.length)) ∧ L = [] ∧ B.U.heap = h) ∧ B.locs = P.locs ++ L ∧ B.cells = P.cells + 0 ∧ B.slots = P.slots + 0) := by
  obtain ⟨A, K1, K2, K3, K4, K5, K6⟩ := K
  have hcod := hc.cod (by omega) K3 K5
  intro m meth c P g ig mk a X hg hsize hdg hW hn hp'
  obtain ⟨rfl, rfl, r1, r2⟩ := hp'
  have al : Z.vm.Alike P.U.vm := hZ.alike.trans X.warmed.alike
  obtain ⟨D, fV, fC, hB, F1, F2, g1, g2, -, -⟩ := strObj wi al E V C
  have hx : Txt x t A cd cs.length (fun j => cs.getD j 0) P.U := ⟨⟨_, hB.2.2.1, D, hB.1, rfl, by cases q : D.vm <;> first | rfl | exact absurd q (hB.2.1.2 _)⟩, Has.of hB F1 g1, Has.of hB F2 g2, ⟨K1.1, State.isArrayOf_alike al K1.2.1, K1.2.2, by rcases hcod with ⟨-, q, -⟩ | ⟨-, q, -⟩ <;> omega⟩, hcod, fun j hj => by
    have e : cs.getD j 0 = cs[j] := by simp [List.getD_eq_getElem?_getD, hj]
    show ¬ cs.getD j 0 < 0 ∧ ¬ 65535 < cs.getD j 0
    rw [e]; exact hb _ (List.getElem_mem _)⟩
  obtain ⟨v, B, X', ⟨⟨hv, hh⟩, hl, hk, hs⟩, st⟩ := Len.pays x t A cd cs.length (fun j => cs.getD j 0) z (tabLen_of (movedLen hZ hw)) hfr hlo m meth c P g ig mk _ X hg hsize hdg hW hn ⟨r1, r2, rfl, hx, sta_is al S, hz⟩
  exact ⟨v, B, X', ⟨[], ⟨hv, rfl, hh⟩, hl, hk, hs⟩, st⟩
end StrChars.Road
namespace StrChars
open Jvm Sem ClassFile Op Lib Jvm.Stand Jvm.Free.XT Jvm.Free.ALB Jvm.Free.JM Jvm.Free
open Jvm.Lib.Cold (StaticIs)
namespace Emp
def yN : MethodName := ⟨"java/lang/String", "isEmpty", "()Z"⟩
abbrev yB : ByteArray := jdk_42_method_55_code
theorem d0 : decode yB 0 = .ok (.aload_n 0, 1) := by decide +kernel
theorem d1 : decode yB 1 = .ok (.getfield 9, 3) := by decide +kernel
theorem d4 : decode yB 4 = .ok (.arraylength, 1) := by decide +kernel
theorem d5 : decode yB 5 = .ok (.ifCond (.ne) 7, 3) := by decide +kernel
theorem d8 : decode yB 8 = .ok (.iconst 1, 1) := by decide +kernel
theorem d9 : decode yB 9 = .ok (.goto 4, 3) := by decide +kernel
theorem d12 : decode yB 12 = .ok (.iconst 0, 1) := by decide +kernel
theorem d13 : decode yB 13 = .ok (.ireturn, 1) := by decide +kernel
def site : List Cond := [.fieldLink "java/lang/String" 9 "java/lang/String" "value" "[B"]
def tab : Cond := tabOf yN yB 1 (some .boolean) site
def P (x t : Addr) (V : Cell) (cd : Int32) (n : Nat) (f : Nat → Int32) (args : Array Value) (s : State) : Prop := args = #[.ref x] ∧ Txt x t V cd n f s
def E (n : Nat) (r : Option Value) (s u : State) : Prop := XT.PureE (some (.int (if n = 0 then 1 else 0))) r s u
/-- isEmpty() of a String of n chars -/
theorem law (l : Launch) (x t : Addr) (V : Cell) (cd : Int32) (n : Nat) (f : Nat → Int32) : Law l yN 1 0 0 0 yB 1 (some .boolean) site (P x t V cd n f) (E n) [] 0 0 := by
  refine Law.of_walk (plainFor_of_name (by decide +kernel)) (by decide +kernel) (by decide +kernel) (by decide) (fun _ _ h => by rw [h.1]; rfl) (fun _ U U' hal hh h => ⟨h.1, h.2.mv hal hh⟩) (fun r U U' V V' h1 hal h2 h => XT.PureE.mv r U U' V V' h1 hal h2 h) ?_
  intro p e s m args below meth c s₁ X0 hexec hbytes hml hret hlk hnm hown hh0 W hP
  obtain ⟨rfl, hx⟩ := hP
  have v31 := hx.2.2.2.1.2.2.2
  have c1 : Steps p.tables e below (s₁.setTop (entryFrame m #[.ref x] 1)) (s₁.setTop (mkF m 1 #[.val (.ref x)] [.ref x])) := Steps.trans (entry rfl) (by
    show Steps p.tables e below (s₁.setTop (mkF m 0 #[.val (.ref x)] [])) _
    refine XS.aloadN X0.here hexec rfl (hb hbytes d0) rfl rfl ?_
    exact Steps.refl _)
  obtain ⟨T2, X2, q2, st2⟩ := X0.hget hexec hown (wk W (.fieldLink "java/lang/String" 9 "java/lang/String" "value" "[B")) (hx.mv X0.warmed.alike hh0).2.1 (g := (mkF m 1 #[.val (.ref x)] [.ref x])) rfl (rest := []) rfl (hb hbytes d1)
  have hh2 := q2.trans hh0
  have hx2 := hx.mv X2.warmed.alike hh2
  have c3 : Steps p.tables e below (s₁.setTop (entryFrame m #[.ref x] 1)) (T2.setTop (mkF m 5 #[.val (.ref x)] [.int (Int32.ofNat V.slots.size)])) := (c1.trans (st2 _ (Steps.refl _))).trans (by
    refine X2.alen hexec hx2.2.2.2.1 rfl rfl (hb hbytes d4) ?_
    exact Steps.refl _)
  have hz : V.slots.size = 0 ↔ n = 0 := by
    rcases hx.2.2.2.2.1 with ⟨-, q, -⟩ | ⟨-, q, -⟩ <;> omega
  by_cases h0 : n = 0
  · have c4 : Steps p.tables e below (s₁.setTop (entryFrame m #[.ref x] 1)) (T2.setTop (mkF m 13 #[.val (.ref x)] [.int 1])) := c3.trans (by
      refine XS.ifNo X2.here hexec rfl (hb hbytes d5) rfl (i0_ne_f (by rw [hz.mpr h0]; rfl)) ?_
      refine iconstV X2.here hexec rfl 1 (hb hbytes d8) (by decide) ?_
      refine XS.goto X2.here hexec rfl (pc0 := 9) rfl (hb hbytes d9) (by decide) rfl ?_
      exact Steps.refl _)
    exact ⟨T2, some (.int 1), _, _, _, X2, rfl, rfl, rfl, (fun h => by cases h), ⟨by rw [if_pos h0], hh2⟩, fun fs hl => c4.trans (X2.ireturnOut hexec hret rfl (Or.inr (Or.inl rfl)) (hb hbytes d13) hl)⟩
  · have c4 : Steps p.tables e below (s₁.setTop (entryFrame m #[.ref x] 1)) (T2.setTop (mkF m 13 #[.val (.ref x)] [.int 0])) := c3.trans (by
      refine XS.ifYes X2.here hexec rfl (pc0 := 5) rfl (hb hbytes d5) rfl (i0_ne_t (nz32 v31 (by omega))) (by decide) rfl ?_
      refine iconstV X2.here hexec rfl 0 (hb hbytes d12) (by decide) ?_
      exact Steps.refl _)
    exact ⟨T2, some (.int 0), _, _, _, X2, rfl, rfl, rfl, (fun h => by cases h), ⟨by rw [if_neg h0], hh2⟩, fun fs hl => c4.trans (X2.ireturnOut hexec hret rfl (Or.inr (Or.inl rfl)) (hb hbytes d13) hl)⟩
theorem pays {l : Launch} {R : Room} {p : Program} {e : Env} {below : List Frame} {s : State} {sargs : Array Value} {len W : Nat} (x t : Addr) (V : Cell) (cd : Int32) (n : Nat) (f : Nat → Int32) (htab : tab.before sargs s = true) (hfr : 1 ≤ R.frames) (hlo : W + 12 ≤ R.locals) :
    Back l R p e below s sargs yN len W (fun A₁ a₁ => A₁.cells + 0 ≤ R.cells ∧ A₁.slots + 0 ≤ R.slots ∧ P x t V cd n f a₁ A₁.U) (fun A₁ _ v₁ B₁ => E n v₁ A₁.U B₁.U ∧ B₁.locs = A₁.locs ++ [] ∧ B₁.cells = A₁.cells + 0 ∧ B₁.slots = A₁.slots + 0) :=
  (law l x t V cd n f).pays htab hfr (by omega)
end Emp
end StrChars
namespace StrChars.Road
open Jvm Sem ClassFile Op Lib Jvm.Stand Jvm.Free Jvm.Free.XT
open Jvm.Lib.Cold (StaticIs)
/-- the words of String.isEmpty() -/
abbrev wordsEmp : List Jvm.Cond := [.code Emp.yN Emp.yB 1 (some .boolean), .initialized ST, .fieldLink ST 9 ST "value" "[B"]
theorem tabEmp_of {a : Array Value} {s : State} (h : ∀ w ∈ wordsEmp, w.before a s = true) : Emp.tab.before a s = true := unparts (wk h (.code Emp.yN Emp.yB 1 (some .boolean))) (wks h (.initialized Emp.yN.cls :: Emp.site))
theorem movedEmp {Z s : State} {a0 args : Array Value} (hZ : Z.Warmed39 s.vm) (hw : ∀ d ∈ wordsEmp, d.before a0 Z = true) : ∀ d ∈ wordsEmp, d.before args s = true := fun d hd => by
  have t : ∀ d ∈ wordsEmp, (d.onTables && d.keepsFace) = true := by decide +kernel
  exact RoadKit.mv hZ (hw d hd) (t d hd)
/-- the road's facts of a String, as the laws ask it -/
theorem txt_of {Z U : State} {a0 : Array Value} {kI : Nat} (wi : (Jvm.Cond.instantiable ST kI).before a0 Z = true) (al : Z.vm.Alike U.vm) {x t : Addr} {kb : ClassId} {cs : List Int32} {cd N2 : Int32} {vs : List Value} (E : RoadKit.Exa Z U.heap x ST) (V : RoadKit.Fld Z U.heap x ST "value" "[B" (.ref t)) (C : RoadKit.Fld Z U.heap x ST "coder" "B" (.int cd)) (K : RoadKit.Arv Z U.heap t kb .byte N2 vs (.int 0)) (hc : CodA cs cd N2 vs) (hb : ∀ c ∈ cs, ¬ c < 0 ∧ ¬ (65535 : Int32) < c) (l2 : cs.length ≤ 4000) :
    ∃ A, Txt x t A cd cs.length (fun j => cs.getD j 0) U := by
  obtain ⟨A, K1, K2, K3, K4, K5, K6⟩ := K
  have hcod := hc.cod (by omega) K3 K5
  obtain ⟨D, fV, fC, hB, F1, F2, g1, g2, -, -⟩ := strObj wi al E V C
  exact ⟨A, ⟨_, hB.2.2.1, D, hB.1, rfl, by cases q : D.vm <;> first | rfl | exact absurd q (hB.2.1.2 _)⟩, Has.of hB F1 g1, Has.of hB F2 g2, ⟨K1.1, State.isArrayOf_alike al K1.2.1, K1.2.2, by rcases hcod with ⟨-, q, -⟩ | ⟨-, q, -⟩ <;> omega⟩, hcod, fun j hj => by
    have e : cs.getD j 0 = cs[j] := by simp [List.getD_eq_getElem?_getD, hj]
    show ¬ cs.getD j 0 < 0 ∧ ¬ 65535 < cs.getD j 0
    rw [e]; exact hb _ (List.getElem_mem _)⟩
/-- **isEmpty() OF SUCH A STRING** -/
theorem empW {p : Program} {l : Launch} {e : Env} {R : Room} {s : State} {args : Array Value} {below : List Frame} {len W : Nat} {Z : State} {a0 : Array Value} {h : Heap} (hZ : Z.Warmed39 s.vm) (hw : ∀ d ∈ wordsEmp, d.before a0 Z = true) {kI : Nat} (wi : (Jvm.Cond.instantiable ST kI).before a0 Z = true)
    {x t : Addr} {kb : ClassId} {cs : List Int32} {cd N2 : Int32} {vs : List Value} (E : RoadKit.Exa Z h x ST) (V : RoadKit.Fld Z h x ST "value" "[B" (.ref t)) (C : RoadKit.Fld Z h x ST "coder" "B" (.int cd)) (K : RoadKit.Arv Z h t kb .byte N2 vs (.int 0)) (hc : CodA cs cd N2 vs) (hb : ∀ c ∈ cs, ¬ c < 0 ∧ ¬ (65535 : Int32) < c) (l2 : cs.length ≤ 4000) (hfr : 1 ≤ R.frames) (hlo : W + 12 ≤ R.locals) :
    Back l R p e below s args (⟨"java/lang/String", "isEmpty", "()Z"⟩ : MethodName) len W (fun P a => a = #[.ref x] ∧ P.U.heap = h ∧ P.cells + 0 ≤ R.cells ∧ P.slots + 0 ≤ R.slots)
      (fun P _ v B => ∃ L, (v = some (.int (if cs.length = 0 then 1 else 0)) ∧ L = [] ∧ B.U.heap = h) ∧ B.locs = P.locs ++ L ∧ B.cells = P.cells + 0 ∧ B.slots = P.slots + 0) := by
  intro m meth c P g ig mk a X hg hsize hdg hW hn hp'
  obtain ⟨rfl, rfl, r1, r2⟩ := hp'
  have al : Z.vm.Alike P.U.vm := hZ.alike.trans X.warmed.alike
  obtain ⟨A, hx⟩ := txt_of wi al E V C K hc hb l2
  obtain ⟨v, B, X', ⟨⟨hv, hh⟩, hl, hk, hs⟩, st⟩ := Emp.pays x t A cd cs.length (fun j => cs.getD j 0) (tabEmp_of (movedEmp hZ hw)) hfr hlo m meth c P g ig mk _ X hg hsize hdg hW hn ⟨r1, r2, rfl, hx⟩
  exact ⟨v, B, X', ⟨[], ⟨hv, rfl, hh⟩, hl, hk, hs⟩, st⟩
end StrChars.Road
end Jvm.Pilot.@@N@@
namespace Jvm.Pilot.@@N@@
open Jvm Jvm.ClassFile Sem Op Lib Jvm.Free Jvm.Stand Jvm.LawKit Jvm.RoadKit Bundle Jvm.Pilot.@@N@@.Jvm.D
section OwnStr
variable {p : Program} {l : Launch} {e : Env} {R : Room} {args : Array Value} {below : List Frame} {Z : State} {a0 : Array Value} {h h' : Heap} {ws : List Addr} {a t : Addr} {cs ds : List Int32}
/-- the object at a is a String of the chars cs; its bytes lie at t -/
def Str (Z : State) (h : Heap) (a t : Addr) (cs : List Int32) : Prop := (∀ c ∈ cs, ¬ c < 0 ∧ ¬ (65535 : Int32) < c) ∧ cs.length ≤ 4000 ∧ Exa Z h a "java/lang/String" ∧ Fld Z h a "java/lang/String" "value" "[B" (.ref t) ∧
  ∃ (cd N2 : Int32) (vs : List Value) (kb : ClassId), Fld Z h a "java/lang/String" "coder" "B" (.int cd) ∧ Arv Z h t kb .byte N2 vs (.int 0) ∧ StrChars.Road.CodA cs cd N2 vs
theorem Str.exa (F : Str Z h a t cs) : Exa Z h a "java/lang/String" := F.2.2.1
theorem Str.lt (F : Str Z h a t cs) : a < h.size := F.2.2.1.lt
theorem Str.ltt (F : Str Z h a t cs) : t < h.size := by obtain ⟨_, _, _, _, _, _, _, _, _, A, _⟩ := F; exact A.lt
theorem Str.keep (F : Str Z h a t cs) (K : Keep h h' ws) (q : a ∉ ws) (r : t ∉ ws) : Str Z h' a t cs := by
  obtain ⟨h1, h2, h3, h4, cd, N2, vs, kb, h5, h6, h7⟩ := F
  exact ⟨h1, h2, h3.keep K, h4.keep K q, cd, N2, vs, kb, h5.keep K q, h6.keep K r, h7⟩
theorem Str.ext (F : Str Z h a t cs) (E : Ext h h') : Str Z h' a t cs := by
  obtain ⟨h1, h2, h3, h4, cd, N2, vs, kb, h5, h6, h7⟩ := F
  exact ⟨h1, h2, h3.ext E, h4.ext E, cd, N2, vs, kb, h5.ext E, h6.ext E, h7⟩
theorem up255 (h : ∀ c ∈ cs, ¬ c < 0 ∧ ¬ (255 : Int32) < c) : ∀ c ∈ cs, ¬ c < 0 ∧ ¬ (65535 : Int32) < c := fun c hc => ⟨(h c hc).1, fun q => (h c hc).2 (by rw [Int32.lt_iff_toInt_lt] at q ⊢; have e1 : (65535 : Int32).toInt = 65535 := rfl; have e2 : (255 : Int32).toInt = 255 := rfl; omega)⟩
/-- what backArv leaves is such a String -/
theorem str_of {kb : ClassId} (hp : ∀ c ∈ cs, ¬ c < 0 ∧ ¬ (255 : Int32) < c) (l2 : cs.length ≤ 4000) (E : Exa Z h a "java/lang/String") (F : Fld Z h a "java/lang/String" "value" "[B" (.ref t)) (C : Fld Z h a "java/lang/String" "coder" "B" (.int 0)) {zn : Int32} (hz : zn = Int32.ofNat cs.length) {vs : List Value} (hv : vs = cs.map fun c => Value.int (StrChars.lo8 c)) (A : Arv Z h t kb .byte zn vs (.int 0)) : Str Z h a t cs :=
  ⟨up255 hp, l2, E, F, 0, zn, vs, kb, C, A, Or.inl ⟨rfl, hz, hv, fun c hc => (hp c hc).2⟩⟩
theorem lat_and (x : Int32) : ¬ (x &&& (255 : Int32)) < 0 ∧ ¬ (255 : Int32) < (x &&& (255 : Int32)) := by
  have q := c_and x 255 (by decide)
  have e : (255 : Int32).toInt = 255 := rfl
  have z : (0 : Int32).toInt = 0 := rfl
  rw [Int32.lt_iff_toInt_lt, Int32.lt_iff_toInt_lt]; omega
theorem nar_id {c : Int32} (h0 : ¬ c < 0) (h1 : ¬ (65535 : Int32) < c) : nar .char c = c := by
  have q := c_i2c c
  have e1 : (65535 : Int32).toInt = 65535 := rfl
  have e2 : (0 : Int32).toInt = 0 := rfl
  rw [Int32.lt_iff_toInt_lt] at h0 h1
  apply Int32.toInt_inj.mp
  show c.toUInt32.toUInt16.toUInt32.toInt32.toInt = c.toInt
  omega
theorem lat_nar {c : Int32} (q : ¬ c < 0 ∧ ¬ (255 : Int32) < c) : ¬ nar .char c < 0 ∧ ¬ (255 : Int32) < nar .char c := by
  rw [nar_id q.1 (fun r => q.2 (by rw [Int32.lt_iff_toInt_lt] at r ⊢; have e1 : (65535 : Int32).toInt = 65535 := rfl; have e2 : (255 : Int32).toInt = 255 := rfl; omega))]; exact q
theorem mem2 {P : Int32 → Prop} {x : Int32} {L : List Int32} (q : P x) (r : ∀ c ∈ L, P c) : ∀ c ∈ x :: L, P c := fun c hc => (List.mem_cons.mp hc).elim (fun u => u ▸ q) (r c)
theorem mem0 {P : Int32 → Prop} : ∀ c ∈ ([] : List Int32), P c := fun _ q => nomatch q
/-- new String(char[]), 1 to 4,000 chars, each 0 to 255 -/
theorem payNew {W n : Nat} (hws : ∀ d ∈ StrChars.Road.words, d.before a0 Z = true) (wi : (Jvm.Cond.instantiable "java/lang/String" 4).before a0 Z = true) {x b : Addr} {kC : ClassId} {dv v0 c0 : Value} {z N : Int32} (E : Exa Z h x "java/lang/String") (V : Fld Z h x "java/lang/String" "value" "[B" v0) (C : Fld Z h x "java/lang/String" "coder" "B" c0) (K : Arv Z h b kC .char N (cs.map Value.int) dv)
    (S : Sta Z h "java/lang/String" "COMPACT_STRINGS" "Z" (.int z)) (hz : ¬ z = 0) (hn : cs.length = n) (hN : N = Int32.ofNat n) (l0 : 0 < n) (l2 : n ≤ 4000) (hp : ∀ c ∈ cs, ¬ c < 0 ∧ ¬ (255 : Int32) < c) (hfr : 4 ≤ R.frames) (hlo : W + 65 ≤ R.locals) :
    PayN l R p e below args Z (⟨"java/lang/String", "<init>", "([C)V"⟩ : MethodName) W #[.ref x, .ref b] h 1 n [x] (fun v h' => v = none ∧ ∃ t, @Eq Nat t h.size ∧ h'.size > t ∧ Str Z h' x t cs) := fun s hZ => by
  subst hn hN
  refine Back.mono (StrChars.Road.backArv hZ hws wi E V C K S hz (Int32.toNatClampNeg_ofNat_of_lt (by omega)) l0 (by omega) (fun c hc => (hp c hc).2) hfr hlo) (fun P a hp => hp) (fun P a v B hp' hq => ?_)
  obtain ⟨L, ⟨q1, q2, q3, q4, q5, q6, q7, ⟨kb, v1, v2⟩, q9⟩, hl, hc, hs⟩ := hq
  exact ⟨L, ⟨⟨q1, h.size, rfl, (by show h.size < _; omega), str_of hp l2 q5 q6 q7 rfl rfl v2⟩, fun y hy => Or.inl (by rw [q2 y hy]; exact List.mem_singleton.mpr rfl), q3⟩, hl, hc, hs⟩
theorem payLen {W : Nat} (hws : ∀ d ∈ StrChars.Road.wordsLen, d.before a0 Z = true) (wi : (Jvm.Cond.instantiable "java/lang/String" 4).before a0 Z = true) {x : Addr} {z : Int32} (F : Str Z h x t cs) (S : Sta Z h "java/lang/String" "COMPACT_STRINGS" "Z" (.int z)) (hz : ¬ z = 0) (hfr : 2 ≤ R.frames) (hlo : W + 25 ≤ R.locals) :
    PayN l R p e below args Z (⟨"java/lang/String", "length", "()I"⟩ : MethodName) W #[.ref x] h 0 0 [] (fun v h' => v = some (.int (Int32.ofNat cs.length)) ∧ h = h') := fun s hZ => by
  obtain ⟨h1, h2, h3, h4, cd, N2, vs, kb, h5, h6, h7⟩ := F
  refine Back.mono (StrChars.Road.lenW hZ hws wi h3 h4 h5 h6 h7 h1 S hz h2 hfr hlo) (fun P a hp => hp) (fun P a v B hp' hq => ?_)
  obtain ⟨L, ⟨q1, rfl, q3⟩, hl, hc, hs⟩ := hq
  exact ⟨[], ⟨⟨q1, q3.symm⟩, (fun y hy => nomatch hy), by rw [q3]; exact Keep.refl _ _⟩, hl, hc, hs⟩
theorem payEmp {W : Nat} (hws : ∀ d ∈ StrChars.Road.wordsEmp, d.before a0 Z = true) (wi : (Jvm.Cond.instantiable "java/lang/String" 4).before a0 Z = true) {x : Addr} (F : Str Z h x t cs) (hfr : 1 ≤ R.frames) (hlo : W + 12 ≤ R.locals) :
    PayN l R p e below args Z (⟨"java/lang/String", "isEmpty", "()Z"⟩ : MethodName) W #[.ref x] h 0 0 [] (fun v h' => v = some (.int (if cs.length = 0 then 1 else 0)) ∧ h = h') := fun s hZ => by
  obtain ⟨h1, h2, h3, h4, cd, N2, vs, kb, h5, h6, h7⟩ := F
  refine Back.mono (StrChars.Road.empW hZ hws wi h3 h4 h5 h6 h7 h1 h2 hfr hlo) (fun P a hp => hp) (fun P a v B hp' hq => ?_)
  obtain ⟨L, ⟨q1, rfl, q3⟩, hl, hc, hs⟩ := hq
  exact ⟨[], ⟨⟨q1, q3.symm⟩, (fun y hy => nomatch hy), by rw [q3]; exact Keep.refl _ _⟩, hl, hc, hs⟩
end OwnStr
end Jvm.Pilot.@@N@@
namespace Jvm.Pilot.@@N@@
open Jvm Jvm.ClassFile Sem Op Lib Jvm.Free Jvm.Stand Jvm.LawKit Jvm.RoadKit Bundle Jvm.Pilot.@@N@@.Jvm.D
section OwnLit
variable {p : Program} {l : Launch} {e : Env} {R : Room} {s : State} {m : MethodId} {args : Array Value} {below : List Frame} {meth : Method} {c : Code} {T T' : State} {cells slots cells' slots' : Nat} {Z : State} {a0 : Array Value} {h h' : Heap} {own : String} {ws ws' : List Addr} {V V' : Vm → Prop} {g : JFrame}
/-- the entry is resolved to the String at a -/
def Lv (Z : State) (own : String) (index : Nat) (a : Addr) (vm : Vm) : Prop := Lit (Z.setVm vm) own index a
theorem Lv.stab {index : Nat} {a : Addr} {U : State} {vm1 : Vm} (hW : U.Warmed39 vm1) (L : Lv Z own index a U.vm) : Lv Z own index a vm1 :=
  Lit.stays (s := Z) (vm0 := U.vm) (vm1 := vm1) L hW
theorem ib_stab {Ts : List String} {U : State} {vm1 : Vm} (hW : U.WarmedH vm1) (I : IB Z U.vm Ts) : IB Z vm1 Ts := by
  obtain ⟨more, e, q⟩ := I
  exact ⟨more, by rw [hW.interned_eq]; exact e, q⟩
/-- the first load of a text -/
theorem Hs.ldcV (H : Hs p l e R s m args below meth c Z own [] V T h cells slots) {Ts : List String} {P : Vm → Prop} (hI : ∀ vm, V vm → IB Z vm Ts ∧ P vm) (hP : ∀ (U : State) (vm1 : Vm), U.Warmed39 vm1 → P U.vm → P vm1) {text : String} {index : Nat} (w : (Jvm.Cond.stringLink own index text).before a0 Z = true) (wS : ∀ a ∈ Bundle.stringAtoms, a.before a0 Z = true)
    (hnot : text ∉ Ts) (hh : Jvm.Lit.constHeld Z own index) (hcw : Jvm.Lit.compactW.before a0 Z = true) {cs : List Int32} (hlat : ∀ c ∈ text.toList, c.toNat < 256) (hcs : text.toList.map (fun c => Value.int (Jvm.Lit.byteI c.toNat.toUInt16)) = cs.map fun c => Value.int (StrChars.lo8 c)) (hp : ∀ c ∈ cs, ¬ c < 0 ∧ ¬ (255 : Int32) < c) (l2 : cs.length ≤ 4000)
    (hg : g.method = m) (hd : decode c.code g.pc = .ok (.ldc index, 2)) {n : Nat} (hn : 4 * text.toList.length ≤ n) (hbig : n ≤ 536870912) (hc : cells + 2 ≤ R.cells) (hl : slots + (n + 4) ≤ R.slots) :
    ∃ (a t : Addr) (T' : State) (h' : Heap), Hs p l e R s m args below meth c Z own [] (fun vm => IB Z vm (text :: Ts) ∧ Lv Z own index a vm ∧ P vm) T' h' (cells + 2) (slots + (n + 4)) ∧ Keep h h' [] ∧ Str Z h' a t cs ∧
      ∀ t, Steps p.tables e below (T'.setTop { g with pc := g.pc + 2, stack := .ref a :: g.stack }) t → Steps p.tables e below (T.setTop g) t := by
  obtain ⟨vm0, k0, locs, hx, X, hS, hk, hZ, ho, eT, F0, hV, O, hw⟩ := H
  obtain ⟨I, hPv⟩ := hI _ hV
  have N : Fr s.heap.size locs := fun y hy => (F0 y hy).elim (fun q => nomatch q) id
  have hz : ¬ (Int32.ofNat cs.length) < 0 := by
    rw [Int32.lt_iff_toInt_lt, len_toInt (n := cs.length) (by omega)]; show ¬ ((cs.length : Int) < 0); omega
  obtain ⟨a, T', h', k1, b, k, r1, r2, r3, r4, r5, r6, r7, r8, r9, r10, r11, r12, r13, r14, r15, st⟩ := ldcSVL (s := s.setVm vm0) (vm0 := vm0) (Ts := Ts) X hx hZ ho w wS eT ((State.WarmedH.refl (s.setVm vm0)).since 0) (Nat.zero_le _) N O.2 I hnot hh hcw (z := Int32.ofNat cs.length) ⟨hlat, hcs⟩ hz (by rw [List.length_map]; exact Int32.toNatClampNeg_ofNat_of_lt (by omega)) hg hd hn hbig hc hl
  have r4' : (s.setVm vm0).Since T'.vm h'.size := ⟨r4.1, fun j q u v => ⟨(r4.2 j q u v).1, Nat.lt_of_lt_of_le (r4.2 j q u v).2 r5⟩⟩
  exact ⟨a, b, T', h', ⟨T'.vm, h'.size, locs, hx, r1, hS.trans r4' (Nat.le_trans hk r3.1), Nat.le_refl _, r6, r7, r2, F0, ⟨r14, r15, hP _ _ r4.1 hPv⟩, O, hw⟩, ext_keep r3, str_of hp l2 r8 r10 r9 rfl rfl r11, st⟩
/-- a second load of an entry -/
theorem Hs.ldcA (H : Hs p l e R s m args below meth c Z own ws V T h cells slots) {text : String} {index : Nat} {a : Addr} (hL : ∀ vm, V vm → Lv Z own index a vm) (w : (Jvm.Cond.stringLink own index text).before a0 Z = true) (hg : g.method = m) (hd : decode c.code g.pc = .ok (.ldc index, 2)) :
    ∀ t, Steps p.tables e below (T.setTop { g with pc := g.pc + 2, stack := .ref a :: g.stack }) t → Steps p.tables e below (T.setTop g) t := by
  obtain ⟨vm0, k0, locs, hx, X, hS, hk, hZ, ho, eT, F0, hV, O, hw⟩ := H
  exact ldcAgain X hx hZ ho w (hL _ hV) hg hd
/-- the text "" of String's own entry 7: not loaded yet, or loaded; Ts: the other texts that the walk has loaded; P: what else is known of the tables -/
def ELg (Z : State) (Ts : List String) (P : Vm → Prop) (h : Heap) (vm : Vm) : Prop := P vm ∧ (IB Z vm Ts ∨ (IB Z vm ("" :: Ts) ∧ ∃ a t, Lv Z "java/lang/String" 7 a vm ∧ Str Z h a t []))
abbrev EL (Z : State) (h : Heap) (vm : Vm) : Prop := ELg Z [] (fun _ => True) h vm
theorem ELg.stab {Ts : List String} {P : Vm → Prop} {U : State} {vm1 : Vm} (hP : ∀ (U : State) (vm1 : Vm), U.Warmed39 vm1 → P U.vm → P vm1) (hW : U.WarmedH vm1) (L : ELg Z Ts P h U.vm) : ELg Z Ts P h vm1 :=
  ⟨hP _ _ hW.wide L.1, L.2.imp (ib_stab hW) fun ⟨i, a, t, q, r⟩ => ⟨ib_stab hW i, a, t, q.stab hW.wide, r⟩⟩
theorem ELg.keep {Ts : List String} {P : Vm → Prop} {vm : Vm} (L : ELg Z Ts P h vm) (K : Keep h h' ws) (q : ∀ w ∈ ws, h.size ≤ w) : ELg Z Ts P h' vm :=
  ⟨L.1, L.2.imp id fun ⟨i, a, t, x, r⟩ => ⟨i, a, t, x, r.keep K (fun z => absurd r.lt (Nat.not_lt.mpr (q _ z))) (fun z => absurd r.ltt (Nat.not_lt.mpr (q _ z)))⟩⟩
theorem EL.st : Stab (EL Z h) := fun _ _ hW L => L.stab (fun _ _ _ _ => trivial) hW
theorem Lv.st {index : Nat} {a : Addr} : Stab (Lv Z own index a) := fun _ _ hW L => L.stab hW.wide
theorem Str.fv {a t : Addr} {cs : List Int32} (F : Str Z h a t cs) : Fld Z h a "java/lang/String" "value" "[B" (.ref t) := F.2.2.2.1
theorem Str.fc {a t : Addr} {cs : List Int32} (F : Str Z h a t cs) (q : ∀ c ∈ cs, ¬ (255 : Int32) < c) : Fld Z h a "java/lang/String" "coder" "B" (.int 0) := by
  obtain ⟨h1, h2, h3, h4, cd, N2, vs, kb, h5, h6, h7⟩ := F
  rcases h7 with ⟨rfl, -⟩ | ⟨-, -, -, c, hc, hb⟩
  · exact h5
  · exact absurd hb (q c hc)
/-- another String over the same bytes -/
theorem Str.re {a t x : Addr} {cs : List Int32} (F : Str Z h a t cs) (q : ∀ c ∈ cs, ¬ (255 : Int32) < c) (E : Exa Z h x "java/lang/String") (G : Fld Z h x "java/lang/String" "value" "[B" (.ref t)) (C : Fld Z h x "java/lang/String" "coder" "B" (.int 0)) : Str Z h x t cs := by
  obtain ⟨h1, h2, h3, h4, cd, N2, vs, kb, h5, h6, h7⟩ := F
  rcases h7 with ⟨rfl, r⟩ | ⟨-, -, -, c, hc, hb⟩
  · exact ⟨h1, h2, E, G, 0, N2, vs, kb, C, h6, Or.inl ⟨rfl, r⟩⟩
  · exact absurd hb (q c hc)
theorem Str.ne_new {a t x : Addr} {cs : List Int32} {n : Nat} (F : Str Z h a t cs) (E : Exa Z h x "java/lang/String") (G : Fld Z h x "java/lang/String" "value" "[B" .null) (wi : (Jvm.Cond.instantiable "java/lang/String" n).before a0 Z = true) : @Ne Nat x a ∧ @Ne Nat x t := by
  obtain ⟨h1, h2, h3, h4, cd, N2, vs, kb, h5, ⟨cl, A, -⟩, h7⟩ := F
  exact ⟨Fld.ne G h4 (fun q => nomatch q), ne_arr E wi A⟩
theorem Hs.ldcE (H : Hs p l e R s m args below meth c Z "java/lang/String" [] V T h cells slots) {Ts : List String} {P : Vm → Prop} (hV : ∀ vm, V vm → ELg Z Ts P h vm) (hTs : "" ∉ Ts) (hP : ∀ (U : State) (vm1 : Vm), U.Warmed39 vm1 → P U.vm → P vm1) (w : (Jvm.Cond.stringLink "java/lang/String" 7 "").before a0 Z = true) (wS : ∀ a ∈ Bundle.stringAtoms, a.before a0 Z = true)
    (hh : Jvm.Lit.constHeld Z "java/lang/String" 7) (hcw : Jvm.Lit.compactW.before a0 Z = true) (hg : g.method = m) (hd : decode c.code g.pc = .ok (.ldc 7, 2)) (hc : cells + 2 ≤ R.cells) (hl : slots + 4 ≤ R.slots) :
    ∃ (a t : Addr) (T' : State) (h' : Heap), Hs p l e R s m args below meth c Z "java/lang/String" [] (fun vm => P vm ∧ IB Z vm ("" :: Ts) ∧ Lv Z "java/lang/String" 7 a vm) T' h' (cells + 2) (slots + 4) ∧ Keep h h' [] ∧ Str Z h' a t [] ∧
      ∀ t, Steps p.tables e below (T'.setTop { g with pc := g.pc + 2, stack := .ref a :: g.stack }) t → Steps p.tables e below (T.setTop g) t := by
  obtain ⟨vm0, k0, locs, hx, X, hS, hk, hZ, ho, eT, F0, hv, O, hw⟩ := H
  obtain ⟨hp0, I | ⟨I, a, t, L, F⟩⟩ := hV _ hv
  · have H2 : Hs p l e R s m args below meth c Z "java/lang/String" [] (fun vm => IB Z vm Ts ∧ P vm) T h cells slots := ⟨vm0, k0, locs, hx, X, hS, hk, hZ, ho, eT, F0, ⟨I, hp0⟩, O, hw⟩
    obtain ⟨a, t, T', h', H3, K3, F3, st⟩ := H2.ldcV (P := P) (fun _ q => q) hP w wS hTs hh hcw (cs := []) (by decide) rfl mem0 (by decide) hg hd (n := 0) (by decide) (by decide) hc hl
    exact ⟨a, t, T', h', H3.reV fun _ q => ⟨q.2.2, q.1, q.2.1⟩, K3, F3, st⟩
  · have H2 : Hs p l e R s m args below meth c Z "java/lang/String" [] (fun vm => P vm ∧ IB Z vm ("" :: Ts) ∧ Lv Z "java/lang/String" 7 a vm) T h cells slots := ⟨vm0, k0, locs, hx, X, hS, hk, hZ, ho, eT, F0, ⟨hp0, I, L⟩, O, hw⟩
    exact ⟨a, t, T, h, H2.more (by omega) (by omega), Keep.refl _ _, F, H2.ldcA (fun _ q => q.2.2) w hg hd⟩
/-- the first load of a text, where "" may have been loaded or not -/
theorem Hs.ldcG (H : Hs p l e R s m args below meth c Z own [] V T h cells slots) {Ts : List String} {P : Vm → Prop} (hV : ∀ vm, V vm → ELg Z Ts P h vm) (hP : ∀ (U : State) (vm1 : Vm), U.Warmed39 vm1 → P U.vm → P vm1) {text : String} {index : Nat} (w : (Jvm.Cond.stringLink own index text).before a0 Z = true) (wS : ∀ a ∈ Bundle.stringAtoms, a.before a0 Z = true)
    (hn1 : text ∉ Ts) (hn2 : text ∉ "" :: Ts) (hh : Jvm.Lit.constHeld Z own index) (hcw : Jvm.Lit.compactW.before a0 Z = true) {cs : List Int32} (hlat : ∀ c ∈ text.toList, c.toNat < 256) (hcs : text.toList.map (fun c => Value.int (Jvm.Lit.byteI c.toNat.toUInt16)) = cs.map fun c => Value.int (StrChars.lo8 c)) (hp : ∀ c ∈ cs, ¬ c < 0 ∧ ¬ (255 : Int32) < c) (l2 : cs.length ≤ 4000)
    (hg : g.method = m) (hd : decode c.code g.pc = .ok (.ldc index, 2)) {n : Nat} (hn : 4 * text.toList.length ≤ n) (hbig : n ≤ 536870912) (hc : cells + 2 ≤ R.cells) (hl : slots + (n + 4) ≤ R.slots) :
    ∃ (a t : Addr) (T' : State) (h' : Heap), Hs p l e R s m args below meth c Z own [] (fun vm => P vm ∧ Lv Z own index a vm) T' h' (cells + 2) (slots + (n + 4)) ∧ Keep h h' [] ∧ Str Z h' a t cs ∧
      ∀ t, Steps p.tables e below (T'.setTop { g with pc := g.pc + 2, stack := .ref a :: g.stack }) t → Steps p.tables e below (T.setTop g) t := by
  obtain ⟨vm0, k0, locs, hx, X, hS, hk, hZ, ho, eT, F0, hv, O, hw⟩ := H
  obtain ⟨hp0, I | ⟨I, -⟩⟩ := hV _ hv
  · have H2 : Hs p l e R s m args below meth c Z own [] (fun vm => IB Z vm Ts ∧ P vm) T h cells slots := ⟨vm0, k0, locs, hx, X, hS, hk, hZ, ho, eT, F0, ⟨I, hp0⟩, O, hw⟩
    obtain ⟨a, t, T', h', H3, K3, F3, st⟩ := H2.ldcV (P := P) (fun _ q => q) hP w wS hn1 hh hcw hlat hcs hp l2 hg hd hn hbig hc hl
    exact ⟨a, t, T', h', H3.reV fun _ q => ⟨q.2.2, q.2.1⟩, K3, F3, st⟩
  · have H2 : Hs p l e R s m args below meth c Z own [] (fun vm => IB Z vm ("" :: Ts) ∧ P vm) T h cells slots := ⟨vm0, k0, locs, hx, X, hS, hk, hZ, ho, eT, F0, ⟨I, hp0⟩, O, hw⟩
    obtain ⟨a, t, T', h', H3, K3, F3, st⟩ := H2.ldcV (P := P) (fun _ q => q) hP w wS hn2 hh hcw hlat hcs hp l2 hg hd hn hbig hc hl
    exact ⟨a, t, T', h', H3.reV fun _ q => ⟨q.2.2, q.2.1⟩, K3, F3, st⟩
end OwnLit
end Jvm.Pilot.@@N@@
namespace Jvm.Pilot.@@N@@
open Jvm Jvm.ClassFile Sem Op Lib Jvm.Free Jvm.Stand Jvm.LawKit Jvm.RoadKit Bundle Jvm.Pilot.@@N@@.Jvm.D
section OwnStart
variable {args : Array Value} {s : State} {t u : Term} {a : Addr}
theorem ev_int {n : Int32} (q : (Jvm.Cond.eq t (.int n)).value args s none s [] = some true) : t.eval args s none [] s = some (.int n) := by
  obtain ⟨x, y, h1, h2, k1, k2⟩ := cmp_v (Or.inl q)
  cases h2.symm.trans (Term.int_eval n)
  obtain ⟨z, rfl⟩ := k2
  have := gotT (Cond.eq_ints h1 (Term.int_eval n)) q
  rw [h1, this]
theorem ev_ref {y : Addr} (q : (Jvm.Cond.eq t u).value args s none s [] = some true) (hu : u.eval args s none [] s = some (.ref y)) : t.eval args s none [] s = some (.ref y) := by
  obtain ⟨x, y', h1, h2, k1, k2⟩ := cmp_v (Or.inl q)
  cases hu.symm.trans h2
  have hx : x.isRef = true := k2.2
  have := gotT (eq_R h1 hu hx rfl) q
  rw [h1, this]
theorem fld_start {C n d : String} {v : Value} (ev : t.eval args s none [] s = some (.ref a)) (q : (Term.field t C n d).eval args s none [] s = some v) : Fld s s.heap a C n d v := Fld.start ((fld_at ev).symm.trans q)
theorem hasL_of {cl : Cell} {dv : Value} : ∀ (vs : List Value) (i : Nat), (∀ j, j < vs.length → cl.slots[i + j]? = some (vs.getD j dv)) → HasL cl i vs
  | [], _, _ => trivial
  | v :: r, i, H => ⟨by have := H 0 (by simp); simpa using this, hasL_of r (i + 1) fun j hj => by
      have := H (j + 1) (by simpa using hj)
      rw [show i + 1 + j = i + (j + 1) by omega]; simpa using this⟩
theorem arr_start {ty : FieldType} {n : Int32} {vs : List Value} {dv : Value} (hfit : Fit s) (ev : t.eval args s none [] s = some (.ref a)) (q1 : (Jvm.Cond.arrayOf t ty).value args s none s [] = some true) (q2 : (Jvm.Cond.eq (.length t) (.int n)).value args s none s [] = some true) (hn : ¬ n < 0) (hl : n.toNatClampNeg = vs.length)
    (q3 : ∀ j, j < vs.length → (Term.elem t (.int (Int32.ofNat j))).eval args s none [] s = some (vs.getD j dv)) : ∃ k, Arv s s.heap a k ty n vs dv := by
  obtain ⟨cl, A⟩ := Arr.start ev q1
  have hat : s.arrayAt? a = some cl := A.fin (Vm.Alike.refl _)
  have hlen := ev_int q2
  have h31 := Jvm.Free.SBG.length_lt ev hat hlen
  have e := len_f ev hat h31
  have e2 : cl.slots.size.toInt32 = n := by
    have q := Option.some.inj (e.symm.trans hlen)
    injection q
  have hsz : vs.length < 2 ^ 31 := by
    rw [← hl]; have := Int32.toInt_lt n; simp only [Int32.toNatClampNeg]; omega
  refine ⟨cl.cls, Arv.start hfit A h31 e2 hn hl (hasL_of (dv := dv) vs 0 fun j hj => ?_)⟩
  have q := (elem_in (q3 j hj) ev (Term.int_eval _) A.1).2
  rw [Int32.toNatClampNeg_ofNat_of_lt (Nat.lt_trans hj hsz)] at q
  rw [Nat.zero_add]; exact q
theorem str_start {cs : List Int32} (hfit : Fit s) (ev : t.eval args s none [] s = some (.ref a)) (q1 : (Jvm.Cond.exactly t "java/lang/String").value args s none s [] = some true) (q2 : (Jvm.Cond.eq (.field t "java/lang/String" "coder" "B") (.int 0)).value args s none s [] = some true) (q3 : (Jvm.Cond.arrayOf (.field t "java/lang/String" "value" "[B") .byte).value args s none s [] = some true)
    (q4 : (Jvm.Cond.eq (.length (.field t "java/lang/String" "value" "[B")) (.int (Int32.ofNat cs.length))).value args s none s [] = some true) (hp : ∀ c ∈ cs, ¬ c < 0 ∧ ¬ (255 : Int32) < c) (l2 : cs.length ≤ 4000)
    (q5 : ∀ j, j < cs.length → (Term.elem (.field t "java/lang/String" "value" "[B") (.int (Int32.ofNat j))).eval args s none [] s = some ((cs.map fun c => Value.int (StrChars.lo8 c)).getD j (.int 0))) : ∃ b, Str s s.heap a b cs := by
  obtain ⟨b, eb⟩ := arr_v q3
  have hz : ¬ (Int32.ofNat cs.length) < 0 := by
    rw [Int32.lt_iff_toInt_lt, len_toInt (n := cs.length) (by omega)]; show ¬ ((cs.length : Int) < 0); omega
  obtain ⟨k, A⟩ := arr_start (dv := .int 0) hfit eb q3 q4 hz (by rw [List.length_map]; exact Int32.toNatClampNeg_ofNat_of_lt (by omega)) (fun j hj => q5 j (by simpa using hj))
  exact ⟨b, str_of hp l2 (Exa.start ev q1) (fld_start ev eb) (fld_start ev (ev_int q2)) rfl rfl A⟩
end OwnStart
end Jvm.Pilot.@@N@@
namespace Jvm.Pilot.@@N@@
open Jvm Jvm.ClassFile Sem Op Lib Jvm.Free Jvm.Stand Jvm.LawKit Jvm.RoadKit Bundle Jvm.Pilot.@@N@@.Jvm.D
theorem hws_new {Z : State} {a0 : Array Value} (hw : ∀ d ∈ tables_1, d.before a0 Z = true) : ∀ d ∈ StrChars.Road.words, d.before a0 Z = true := fun d hd => hw d ((by decide +kernel : ∀ d ∈ StrChars.Road.words, d ∈ tables_1) d hd)
theorem hws_len {Z : State} {a0 : Array Value} (hw : ∀ d ∈ tables_1, d.before a0 Z = true) : ∀ d ∈ StrChars.Road.wordsLen, d.before a0 Z = true := fun d hd => hw d ((by decide +kernel : ∀ d ∈ StrChars.Road.wordsLen, d ∈ tables_1) d hd)
theorem hws_emp {Z : State} {a0 : Array Value} (hw : ∀ d ∈ tables_1, d.before a0 Z = true) : ∀ d ∈ StrChars.Road.wordsEmp, d.before a0 Z = true := fun d hd => hw d ((by decide +kernel : ∀ d ∈ StrChars.Road.wordsEmp, d ∈ tables_1) d hd)
theorem hws_sa {Z : State} {a0 : Array Value} (hw : ∀ d ∈ tables_1, d.before a0 Z = true) : ∀ d ∈ Bundle.stringAtoms, d.before a0 Z = true := fun d hd => hw d ((by decide +kernel : ∀ d ∈ Bundle.stringAtoms, d ∈ tables_1) d hd)
theorem u_all {P : Nat → Prop} {M : Nat} (h : ∀ k : Fin (M + 1), P k.val) {n : Nat} (hn : n ≤ M) : P n := h ⟨n, by omega⟩
theorem u_shl {n : Nat} (hn : n ≤ 511) : (Int32.ofNat n) <<< ((1 : Int32) &&& 31) = Int32.ofNat (2 * n) := u_all (P := fun n => (Int32.ofNat n) <<< ((1 : Int32) &&& 31) = Int32.ofNat (2 * n)) (M := 511) (by decide +kernel) hn
theorem u_cod {n : Nat} (hn : n ≤ 511) (h0 : 0 < n) : XT.ushr (Int32.ofNat n - Int32.ofNat (2 * n)) (31 : Int32) = 1 := u_all (P := fun n => 0 < n → XT.ushr (Int32.ofNat n - Int32.ofNat (2 * n)) (31 : Int32) = 1) (M := 511) (by decide +kernel) hn h0
theorem u_big {n : Nat} (hn : n ≤ 511) : Int32.ofNat n < (1073741823 : Int32) := u_all (P := fun n => Int32.ofNat n < (1073741823 : Int32)) (M := 511) (by decide +kernel) hn
theorem u_nn {n : Nat} (hn : n ≤ 8000) : ¬ Int32.ofNat n < 0 := by
  rw [Int32.lt_iff_toInt_lt, len_toInt (n := n) (by omega)]; show ¬ ((n : Int) < 0); omega
theorem u_cl {n : Nat} (hn : n ≤ 8000) : (Int32.ofNat n).toNatClampNeg = n := Int32.toNatClampNeg_ofNat_of_lt (by omega)
theorem u_lt {i n : Nat} (h : i < n) (hn : n ≤ 8000) : Int32.ofNat i < Int32.ofNat n := by
  rw [Int32.lt_iff_toInt_lt, len_toInt (n := i) (by omega), len_toInt (n := n) (by omega)]; omega
theorem u_nlt {n : Nat} : ¬ Int32.ofNat n < Int32.ofNat n := by rw [Int32.lt_iff_toInt_lt]; omega
theorem u_ne {i n : Nat} (h : i ≠ n) (hi : i ≤ 8000) (hn : n ≤ 8000) : ¬ Int32.ofNat i = Int32.ofNat n := fun r => h (by
  have e := congrArg Int32.toInt r
  rw [len_toInt (n := i) (by omega), len_toInt (n := n) (by omega)] at e; omega)
theorem u_ne0 {n : Nat} (h : 0 < n) (hn : n ≤ 8000) : ¬ Int32.ofNat n = 0 := u_ne (n := 0) (by omega) hn (by omega)
theorem u_succ (i : Nat) : Int32.ofNat i + (1 : Int32) = Int32.ofNat (i + 1) := (Int32.ofNat_add i 1).symm
theorem u_lo (x : Int32) : nar .byte (nar .byte x) = StrChars.lo8 x := by
  show x.toInt8.toInt32.toInt8.toInt32 = x.toInt8.toInt32
  simp
theorem u_put (vs : List Value) (c : Int32) : (vs ++ [Value.int (nar .byte (nar .byte (c >>> ((0 : Int32) &&& 31))))]) ++ [Value.int (nar .byte (nar .byte (c >>> ((8 : Int32) &&& 31))))] = vs ++ [Value.int (StrChars.lo8 c), Value.int (StrChars.hi8 c)] := by
  rw [u_lo, u_lo, StrChars.shr0, List.append_assoc]; rfl
theorem u_wide (cs : List Int32) : (StrChars.Road.wideBytes cs).length = 2 * cs.length := by
  induction cs with
  | nil => rfl
  | cons c cs ih => show (StrChars.Road.wideBytes cs).length + 1 + 1 = 2 * (cs.length + 1); omega
theorem u_wapp (cs ds : List Int32) : StrChars.Road.wideBytes (cs ++ ds) = StrChars.Road.wideBytes cs ++ StrChars.Road.wideBytes ds := by
  induction cs with
  | nil => rfl
  | cons c cs ih => show _ :: _ :: StrChars.Road.wideBytes (cs ++ ds) = _ :: _ :: (StrChars.Road.wideBytes cs ++ StrChars.Road.wideBytes ds); rw [ih]
theorem u_take {cs : List Int32} {i : Nat} (hi : i < cs.length) : StrChars.Road.wideBytes (cs.take i) ++ [Value.int (StrChars.lo8 (cs.getD i 0)), Value.int (StrChars.hi8 (cs.getD i 0))] = StrChars.Road.wideBytes (cs.take (i + 1)) := by
  have e : cs.getD i 0 = cs[i] := by simp [List.getD_eq_getElem?_getD, hi]
  rw [List.take_succ_eq_append_getElem hi, u_wapp, e]; rfl
theorem u_mem {cs : List Int32} {i : Nat} (hi : i < cs.length) {P : Int32 → Prop} (h : ∀ c ∈ cs, P c) : P (cs.getD i 0) := by
  have e : cs.getD i 0 = cs[i] := by simp [List.getD_eq_getElem?_getD, hi]
  rw [e]; exact h _ (List.getElem_mem _)
theorem u_map {cs : List Int32} {i : Nat} (hi : i < cs.length) (d : Value) : (cs.map Value.int).getD i d = .int (cs.getD i 0) := by
  simp [List.getD_eq_getElem?_getD, hi]
theorem u_none {cs : List Int32} (h : ∀ j, j < cs.length → ¬ (255 : Int32) < cs.getD j 0) : ¬ ∃ c ∈ cs, (255 : Int32) < c := by
  rintro ⟨c, hc, hbig⟩
  obtain ⟨j, hj, rfl⟩ := List.getElem_of_mem hc
  have e : cs.getD j 0 = cs[j] := by simp [List.getD_eq_getElem?_getD, hj]
  have := h j hj
  rw [e] at this; exact this hbig
theorem u_pair {c : Int32} (h : ¬ c < 0 ∧ ¬ (65535 : Int32) < c) : nar .char (nar .char (((StrChars.lo8 c &&& (255 : Int32)) <<< ((0 : Int32) &&& 31)) ||| ((StrChars.hi8 c &&& (255 : Int32)) <<< ((8 : Int32) &&& 31)))) = c := by
  show nar .char (StrChars.pairCh (StrChars.lo8 c) (StrChars.hi8 c)) = c
  rw [StrChars.pair_says h.1 h.2]; exact nar_id h.1 h.2
theorem u_ref {v : Value} (h : v.isRef = true) : v = .null ∨ ∃ a, v = .ref a := by
  cases v <;> simp_all [Value.isRef]
theorem u_char (x : Int32) : ¬ nar .char x < 0 ∧ ¬ (65535 : Int32) < nar .char x := by
  have q := c_i2c x
  have e1 : (65535 : Int32).toInt = 65535 := rfl
  have e2 : (0 : Int32).toInt = 0 := rfl
  have e : (nar .char x).toInt = x.toUInt32.toUInt16.toUInt32.toInt32.toInt := rfl
  rw [Int32.lt_iff_toInt_lt, Int32.lt_iff_toInt_lt, e]; omega
def own_hi (c : Int32) : Int32 := if c < 55296 then 0 else if (56319 : Int32) < c then 0 else 1
def own_lo (c : Int32) : Int32 := if c < 56320 then 0 else if (57343 : Int32) < c then 0 else 1
def own_hi' (c : Int32) : Int32 := if c < 55296 then 0 else if c < 56320 then 1 else 0
def own_lo' (c : Int32) : Int32 := if c < 56320 then 0 else if c < 57344 then 1 else 0
theorem own_hi_eq (c : Int32) : own_hi' c = own_hi c := by
  unfold own_hi' own_hi
  have e1 : (56319 : Int32).toInt = 56319 := rfl
  have e2 : (56320 : Int32).toInt = 56320 := rfl
  simp only [Int32.lt_iff_toInt_lt, e1, e2]
  split
  · rfl
  · by_cases q : c.toInt < 56320
    · rw [if_pos q, if_neg (by omega)]
    · rw [if_neg q, if_pos (by omega)]
theorem own_lo_eq (c : Int32) : own_lo' c = own_lo c := by
  unfold own_lo' own_lo
  have e1 : (57343 : Int32).toInt = 57343 := rfl
  have e2 : (57344 : Int32).toInt = 57344 := rfl
  simp only [Int32.lt_iff_toInt_lt, e1, e2]
  split
  · rfl
  · by_cases q : c.toInt < 57344
    · rw [if_pos q, if_neg (by omega)]
    · rw [if_neg q, if_pos (by omega)]
def own_pairs : List Int32 → Nat
  | a :: b :: r => if ¬ own_hi a = 0 ∧ ¬ own_lo b = 0 then own_pairs r + 1 else own_pairs (b :: r)
  | _ => 0
termination_by L => L.length
theorem own_p2 (a b : Int32) (r : List Int32) : own_pairs (a :: b :: r) = if ¬ own_hi a = 0 ∧ ¬ own_lo b = 0 then own_pairs r + 1 else own_pairs (b :: r) := by rw [own_pairs]
theorem own_p1 (a : Int32) : own_pairs [a] = 0 := by rw [own_pairs]; intro _ _ _ q; cases q
theorem own_p0 : own_pairs [] = 0 := by rw [own_pairs]; intro _ _ _ q; cases q
theorem own_pairs_short {cs : List Int32} (h : cs.length ≤ 1) : own_pairs cs = 0 := by
  match cs, h with
  | [], _ => exact own_p0
  | [a], _ => exact own_p1 a
theorem own_pairs_le : ∀ (cs : List Int32), 2 * own_pairs cs ≤ cs.length := by
  intro cs
  induction h : cs.length using Nat.strongRecOn generalizing cs with
  | ind n ih =>
    match cs, h with
    | [], _ => rw [own_p0]; omega
    | [a], _ => rw [own_p1]; omega
    | a :: b :: r, h =>
      rw [own_p2]
      simp only [List.length_cons] at h
      split
      · have := ih r.length (by omega) r rfl; omega
      · have := ih (r.length + 1) (by omega) (b :: r) (by simp); omega
theorem own_pairs_step {cs : List Int32} {i : Nat} (h : i + 1 < cs.length) : own_pairs (cs.drop i) = if ¬ own_hi (cs.getD i 0) = 0 ∧ ¬ own_lo (cs.getD (i + 1) 0) = 0 then own_pairs (cs.drop (i + 2)) + 1 else own_pairs (cs.drop (i + 1)) := by
  have e1 : cs.getD i 0 = cs[i] := by simp [List.getD_eq_getElem?_getD, show i < cs.length by omega]
  have e2 : cs.getD (i + 1) 0 = cs[i + 1] := by simp [List.getD_eq_getElem?_getD, h]
  rw [List.drop_eq_getElem_cons (show i < cs.length by omega), List.drop_eq_getElem_cons h, own_p2, e1, e2]
theorem own_lat_hi {c : Int32} (h : ¬ (255 : Int32) < c) : own_hi c = 0 := by
  unfold own_hi
  rw [if_pos]
  have e1 : (255 : Int32).toInt = 255 := rfl
  have e2 : (55296 : Int32).toInt = 55296 := rfl
  rw [Int32.lt_iff_toInt_lt] at h ⊢; omega
theorem own_pairs_lat : ∀ {cs : List Int32}, (∀ c ∈ cs, ¬ (255 : Int32) < c) → own_pairs cs = 0
  | [], _ => own_p0
  | [a], _ => own_p1 a
  | a :: b :: r, h => by
    rw [own_p2, if_neg (fun q => q.1 (own_lat_hi (h a List.mem_cons_self)))]
    exact own_pairs_lat (fun c q => h c (List.mem_cons_of_mem _ q))
theorem own_pred {n : Nat} (h : 0 < n) : Int32.ofNat n - (1 : Int32) = Int32.ofNat (n - 1) := by
  obtain ⟨k, rfl⟩ : ∃ k, n = k + 1 := ⟨n - 1, by omega⟩
  rw [← u_succ, Nat.add_sub_cancel, Int32.add_sub_cancel]
theorem own_dec {n : Nat} (h : 0 < n) : Int32.ofNat n + (-1 : Int32) = Int32.ofNat (n - 1) := by
  rw [← own_pred h, Int32.sub_eq_add_neg]
theorem own_nlt2 {i n : Nat} (h : ¬ i < n) (hi : i ≤ 8000) (hn : n ≤ 8000) : ¬ Int32.ofNat i < Int32.ofNat n := by
  rw [Int32.lt_iff_toInt_lt, len_toInt (n := i) (by omega), len_toInt (n := n) (by omega)]; omega
def own_tag (cs : List Int32) : Int32 := if cs.length = 0 then 0 else if (256 : Int32) < Int32.ofNat (cs.length - own_pairs cs) then 0 else 1
theorem own_tag1 {t : Int32} : own_tag [t] = 1 := by
  rw [own_tag, own_p1, if_neg (by simp), if_neg (by show ¬ (256 : Int32) < Int32.ofNat 1; decide)]
theorem own_n (x : Int32) : x &&& (511 : Int32) = 0 ∨ x &&& (511 : Int32) = 1 ∨ ∃ n, 2 ≤ n ∧ n ≤ 511 ∧ x &&& (511 : Int32) = Int32.ofNat n := by
  have q := c_and x 511 (by decide)
  have e3 : (511 : Int32).toInt = 511 := rfl
  generalize x &&& (511 : Int32) = y at q
  have hy : y = Int32.ofNat y.toInt.toNat := Int32.toInt_inj.mp (by rw [len_toInt (n := y.toInt.toNat) (by omega)]; omega)
  by_cases h0 : y.toInt = 0
  · exact Or.inl (Int32.toInt_inj.mp h0)
  · by_cases h1 : y.toInt = 1
    · exact Or.inr (Or.inl (Int32.toInt_inj.mp h1))
    · exact Or.inr (Or.inr ⟨y.toInt.toNat, by omega, by omega, hy⟩)
theorem own_m1 {n : Nat} (h2 : 2 ≤ n) (h5 : n ≤ 511) : Int32.ofNat n - (1 : Int32) ≠ 0 := by
  rw [own_pred (by omega)]; exact u_ne0 (by omega) (by omega)
theorem own_rem {n : Nat} (h2 : 2 ≤ n) (h5 : n ≤ 511) (x : Int32) : ∃ k, k + 1 < n ∧ (x &&& (2147483647 : Int32)) % (Int32.ofNat n - (1 : Int32)) = Int32.ofNat k := by
  have q := c_and x 2147483647 (by decide)
  rw [own_pred (by omega)]
  have eN := len_toInt (n := n - 1) (by omega)
  have r := (c_irem (x &&& 2147483647) (Int32.ofNat (n - 1)) ((n - 1 : Nat) : Int) eN).1 (by omega)
  generalize hz : (x &&& (2147483647 : Int32)) % Int32.ofNat (n - 1) = z at r
  have r1 : 0 ≤ (x &&& (2147483647 : Int32)).toInt % ((n - 1 : Nat) : Int) := Int.emod_nonneg _ (by omega)
  have r2 : (x &&& (2147483647 : Int32)).toInt % ((n - 1 : Nat) : Int) < ((n - 1 : Nat) : Int) := Int.emod_lt_of_pos _ (by omega)
  exact ⟨z.toInt.toNat, by omega, Int32.toInt_inj.mp (by rw [len_toInt (n := z.toInt.toNat) (by omega)]; omega)⟩
def own_cs (n k : Nat) (a b : Int32) : List Int32 := List.replicate k 0 ++ a :: b :: List.replicate (n - k - 2) 0
theorem own_cs_len {n k : Nat} {a b : Int32} (hk : k + 1 < n) : (own_cs n k a b).length = n := by
  simp [own_cs]; omega
theorem own_cs_eq {n k : Nat} {a b : Int32} (hk : k + 1 < n) : own_cs n k a b = ((List.replicate n (0 : Int32)).set k a).set (k + 1) b := by
  obtain ⟨m, rfl⟩ : ∃ m, n = k + (m + 1 + 1) := ⟨n - k - 2, by omega⟩
  rw [own_cs, show k + (m + 1 + 1) - k - 2 = m by omega, ← List.replicate_append_replicate, List.replicate_succ, List.replicate_succ]
  rw [List.set_append_right _ _ (by simp), List.length_replicate, Nat.sub_self, List.set_cons_zero, List.set_append_right _ _ (by simp), List.length_replicate, show k + 1 - k = 0 + 1 by omega, List.set_cons_succ, List.set_cons_zero]
theorem own_cs_c16 {n k : Nat} {a b : Int32} (ha : ¬ a < 0 ∧ ¬ (65535 : Int32) < a) (hb : ¬ b < 0 ∧ ¬ (65535 : Int32) < b) : ∀ c ∈ own_cs n k a b, ¬ c < 0 ∧ ¬ (65535 : Int32) < c := by
  intro c hc
  simp only [own_cs, List.mem_append, List.mem_cons, List.mem_replicate] at hc
  rcases hc with ⟨-, rfl⟩ | rfl | rfl | ⟨-, rfl⟩
  · decide
  · exact ha
  · exact hb
  · decide
theorem own_pz : ∀ (m : Nat), own_pairs (List.replicate m 0) = 0 := fun m => own_pairs_lat (fun c q => by rw [(List.mem_replicate.mp q).2]; decide)
theorem own_pc (n : Nat) (a b : Int32) : ∀ (k : Nat), own_pairs (own_cs n k a b) = if ¬ own_hi a = 0 ∧ ¬ own_lo b = 0 then 1 else 0 := by
  have tail : ∀ m, own_pairs (a :: b :: List.replicate m 0) = if ¬ own_hi a = 0 ∧ ¬ own_lo b = 0 then 1 else 0 := fun m => by
    rw [own_p2, own_pz]
    split
    · rfl
    · cases m with
      | zero => exact own_p1 b
      | succ m => rw [List.replicate_succ, own_p2, if_neg (fun q => q.2 (by decide)), ← List.replicate_succ]; exact own_pz _
  have pre : ∀ (k : Nat) (L : List Int32), L ≠ [] → own_pairs (List.replicate k 0 ++ L) = own_pairs L := fun k => by
    induction k with
    | zero => intro L _; rfl
    | succ k ih =>
      intro L hL
      rw [List.replicate_succ, List.cons_append]
      cases hR : List.replicate k (0 : Int32) ++ L with
      | nil => exact absurd (List.append_eq_nil_iff.mp hR).2 hL
      | cons x r => rw [own_p2, if_neg (fun q => q.1 (by decide)), ← hR]; exact ih L hL
  intro k
  rw [own_cs, pre k _ (by simp)]; exact tail _
theorem own_res0 {n k : Nat} {a b : Int32} (hk : k + 1 < n) (h5 : n ≤ 511) (h : own_hi a = 0 ∨ own_lo b = 0) : ((256 : Int32) < Int32.ofNat n → own_tag (own_cs n k a b) = 0) ∧ (¬ (256 : Int32) < Int32.ofNat n → own_tag (own_cs n k a b) = 1) := by
  have e : own_pairs (own_cs n k a b) = 0 := by rw [own_pc, if_neg (fun q => h.elim q.1 q.2)]
  rw [own_tag, own_cs_len hk, if_neg (by omega), e, Nat.sub_zero]
  exact ⟨fun q => if_pos q, fun q => if_neg q⟩
theorem own_res1 {n k : Nat} {a b : Int32} (hk : k + 1 < n) (h5 : n ≤ 511) (h : ¬ own_hi a = 0) (h' : ¬ own_lo b = 0) : ((256 : Int32) < Int32.ofNat n - (1 : Int32) → own_tag (own_cs n k a b) = 0) ∧ (¬ (256 : Int32) < Int32.ofNat n - (1 : Int32) → own_tag (own_cs n k a b) = 1) := by
  have e : own_pairs (own_cs n k a b) = 1 := by rw [own_pc, if_pos ⟨h, h'⟩]
  rw [own_tag, own_cs_len hk, if_neg (by omega), e, own_pred (by omega)]
  exact ⟨fun q => if_pos q, fun q => if_neg q⟩
def Base (Z : State) (a0 : Array Value) (zc : Int32) : Prop := (∀ d ∈ tables_1, d.before a0 Z = true) ∧ (Sta Z Z.heap "java/lang/String" "COMPACT_STRINGS" "Z" (.int zc)) ∧ (¬ zc = 0) ∧ (Sta Z Z.heap "java/lang/StringUTF16" "$assertionsDisabled" "Z" (.int 1)) ∧ (Sta Z Z.heap "java/lang/StringUTF16" "HI_BYTE_SHIFT" "I" (.int 0)) ∧ (Sta Z Z.heap "java/lang/StringUTF16" "LO_BYTE_SHIFT" "I" (.int 8)) ∧ (Jvm.Lit.constHeld Z "java/lang/String" 7) ∧ (Jvm.Lit.compactW.before a0 Z = true)
theorem ef_c_draw (m : MethodId) (x0 : Int32) (x1 : Int32) : entryFrame m #[(.int x0), (.int x1)] 2 = mkF m 0 #[.val (.int x0), .val (.int x1)] [] := by first | (simp [entryFrame, mkF, argsToLocals, Value.category]; done) | rfl
theorem pn_com_example_meticulous_attestor_meticulousattestor_model_WalletInstanceIsHardwareKeyTagPinLaw : plainName "com/example/meticulous_attestor/meticulousattestor/model/WalletInstanceIsHardwareKeyTagPinLaw" = true := by first | (simp [plainName, overriddenIn]; done) | decide +kernel
theorem d_m2_0 : decode method_2_code 0 = .ok (.iload_n 0, 1) := by decide +kernel
theorem d_m2_1 : decode method_2_code 1 = .ok (.iconst 1, 1) := by decide +kernel
theorem d_m2_2 : decode method_2_code 2 = .ok (.iand, 1) := by decide +kernel
theorem d_m2_3 : decode method_2_code 3 = .ok (.ifCond .eq 14, 3) := by decide +kernel
theorem d_m2_17 : decode method_2_code 17 = .ok (.iload_n 0, 1) := by decide +kernel
theorem d_m2_18 : decode method_2_code 18 = .ok (.iconst 1, 1) := by decide +kernel
theorem d_m2_19 : decode method_2_code 19 = .ok (.iushr, 1) := by decide +kernel
theorem d_m2_20 : decode method_2_code 20 = .ok (.ldc 7, 2) := by decide +kernel
theorem d_m2_22 : decode method_2_code 22 = .ok (.iand, 1) := by decide +kernel
theorem d_m2_23 : decode method_2_code 23 = .ok (.i2c, 1) := by decide +kernel
theorem d_m2_24 : decode method_2_code 24 = .ok (.ireturn, 1) := by decide +kernel
theorem d_m2_6 : decode method_2_code 6 = .ok (.iload_n 1, 1) := by decide +kernel
theorem d_m2_7 : decode method_2_code 7 = .ok (.iload_n 0, 1) := by decide +kernel
theorem d_m2_8 : decode method_2_code 8 = .ok (.iconst 1, 1) := by decide +kernel
theorem d_m2_9 : decode method_2_code 9 = .ok (.iushr, 1) := by decide +kernel
theorem d_m2_10 : decode method_2_code 10 = .ok (.sipush 1023, 3) := by decide +kernel
theorem d_m2_13 : decode method_2_code 13 = .ok (.iand, 1) := by decide +kernel
theorem d_m2_14 : decode method_2_code 14 = .ok (.ior, 1) := by decide +kernel
theorem d_m2_15 : decode method_2_code 15 = .ok (.i2c, 1) := by decide +kernel
theorem d_m2_16 : decode method_2_code 16 = .ok (.ireturn, 1) := by decide +kernel
theorem ef_c_ishi (m : MethodId) (x0 : Int32) : entryFrame m #[(.int x0)] 1 = mkF m 0 #[.val (.int x0)] [] := by first | (simp [entryFrame, mkF, argsToLocals, Value.category]; done) | rfl
theorem d_m3_0 : decode method_3_code 0 = .ok (.iload_n 0, 1) := by decide +kernel
theorem d_m3_1 : decode method_3_code 1 = .ok (.ldc 8, 2) := by decide +kernel
theorem d_m3_3 : decode method_3_code 3 = .ok (.if_icmp .lt 13, 3) := by decide +kernel
theorem d_m3_16 : decode method_3_code 16 = .ok (.iconst 0, 1) := by decide +kernel
theorem d_m3_17 : decode method_3_code 17 = .ok (.ireturn, 1) := by decide +kernel
theorem d_m3_6 : decode method_3_code 6 = .ok (.iload_n 0, 1) := by decide +kernel
theorem d_m3_7 : decode method_3_code 7 = .ok (.ldc 9, 2) := by decide +kernel
theorem d_m3_9 : decode method_3_code 9 = .ok (.if_icmp .gt 7, 3) := by decide +kernel
theorem d_m3_12 : decode method_3_code 12 = .ok (.iconst 1, 1) := by decide +kernel
theorem d_m3_13 : decode method_3_code 13 = .ok (.goto 4, 3) := by decide +kernel
theorem ef_c_islo (m : MethodId) (x0 : Int32) : entryFrame m #[(.int x0)] 1 = mkF m 0 #[.val (.int x0)] [] := by first | (simp [entryFrame, mkF, argsToLocals, Value.category]; done) | rfl
theorem d_m4_0 : decode method_4_code 0 = .ok (.iload_n 0, 1) := by decide +kernel
theorem d_m4_1 : decode method_4_code 1 = .ok (.ldc 10, 2) := by decide +kernel
theorem d_m4_3 : decode method_4_code 3 = .ok (.if_icmp .lt 13, 3) := by decide +kernel
theorem d_m4_16 : decode method_4_code 16 = .ok (.iconst 0, 1) := by decide +kernel
theorem d_m4_17 : decode method_4_code 17 = .ok (.ireturn, 1) := by decide +kernel
theorem d_m4_6 : decode method_4_code 6 = .ok (.iload_n 0, 1) := by decide +kernel
theorem d_m4_7 : decode method_4_code 7 = .ok (.ldc 11, 2) := by decide +kernel
theorem d_m4_9 : decode method_4_code 9 = .ok (.if_icmp .gt 7, 3) := by decide +kernel
theorem d_m4_12 : decode method_4_code 12 = .ok (.iconst 1, 1) := by decide +kernel
theorem d_m4_13 : decode method_4_code 13 = .ok (.goto 4, 3) := by decide +kernel
theorem ef_c_chi (m : MethodId) (x0 : Int32) : entryFrame m #[(.int x0)] 1 = mkF m 0 #[.val (.int x0)] [] := by first | (simp [entryFrame, mkF, argsToLocals, Value.category]; done) | rfl
theorem pn_java_lang_Character : plainName "java/lang/Character" = true := by first | (simp [plainName, overriddenIn]; done) | decide +kernel
theorem d_jdk_89_m14_0 : decode jdk_89_method_14_code 0 = .ok (.iload_n 0, 1) := by decide +kernel
theorem d_jdk_89_m14_1 : decode jdk_89_method_14_code 1 = .ok (.ldc 75, 2) := by decide +kernel
theorem d_jdk_89_m14_3 : decode jdk_89_method_14_code 3 = .ok (.if_icmp .lt 13, 3) := by decide +kernel
theorem d_jdk_89_m14_16 : decode jdk_89_method_14_code 16 = .ok (.iconst 0, 1) := by decide +kernel
theorem d_jdk_89_m14_17 : decode jdk_89_method_14_code 17 = .ok (.ireturn, 1) := by decide +kernel
theorem d_jdk_89_m14_6 : decode jdk_89_method_14_code 6 = .ok (.iload_n 0, 1) := by decide +kernel
theorem d_jdk_89_m14_7 : decode jdk_89_method_14_code 7 = .ok (.ldc 76, 2) := by decide +kernel
theorem d_jdk_89_m14_9 : decode jdk_89_method_14_code 9 = .ok (.if_icmp .ge 7, 3) := by decide +kernel
theorem d_jdk_89_m14_12 : decode jdk_89_method_14_code 12 = .ok (.iconst 1, 1) := by decide +kernel
theorem d_jdk_89_m14_13 : decode jdk_89_method_14_code 13 = .ok (.goto 4, 3) := by decide +kernel
theorem ef_c_clo (m : MethodId) (x0 : Int32) : entryFrame m #[(.int x0)] 1 = mkF m 0 #[.val (.int x0)] [] := by first | (simp [entryFrame, mkF, argsToLocals, Value.category]; done) | rfl
theorem d_jdk_89_m15_0 : decode jdk_89_method_15_code 0 = .ok (.iload_n 0, 1) := by decide +kernel
theorem d_jdk_89_m15_1 : decode jdk_89_method_15_code 1 = .ok (.ldc 76, 2) := by decide +kernel
theorem d_jdk_89_m15_3 : decode jdk_89_method_15_code 3 = .ok (.if_icmp .lt 13, 3) := by decide +kernel
theorem d_jdk_89_m15_16 : decode jdk_89_method_15_code 16 = .ok (.iconst 0, 1) := by decide +kernel
theorem d_jdk_89_m15_17 : decode jdk_89_method_15_code 17 = .ok (.ireturn, 1) := by decide +kernel
theorem d_jdk_89_m15_6 : decode jdk_89_method_15_code 6 = .ok (.iload_n 0, 1) := by decide +kernel
theorem d_jdk_89_m15_7 : decode jdk_89_method_15_code 7 = .ok (.ldc 77, 2) := by decide +kernel
theorem d_jdk_89_m15_9 : decode jdk_89_method_15_code 9 = .ok (.if_icmp .ge 7, 3) := by decide +kernel
theorem d_jdk_89_m15_12 : decode jdk_89_method_15_code 12 = .ok (.iconst 1, 1) := by decide +kernel
theorem d_jdk_89_m15_13 : decode jdk_89_method_15_code 13 = .ok (.goto 4, 3) := by decide +kernel
theorem ef_c_put (m : MethodId) (x0 : Addr) (x1 : Int32) (x2 : Int32) : entryFrame m #[(.ref x0), (.int x1), (.int x2)] 3 = mkF m 0 #[.val (.ref x0), .val (.int x1), .val (.int x2)] [] := by first | (simp [entryFrame, mkF, argsToLocals, Value.category]; done) | rfl
theorem pn_java_lang_StringUTF16 : plainName "java/lang/StringUTF16" = true := by first | (simp [plainName, overriddenIn]; done) | decide +kernel
theorem d_jdk_52_m4_0 : decode jdk_52_method_4_code 0 = .ok (.getstatic 44, 3) := by decide +kernel
theorem d_jdk_52_m4_3 : decode jdk_52_method_4_code 3 = .ok (.ifCond .ne 25, 3) := by decide +kernel
theorem d_jdk_52_m4_28 : decode jdk_52_method_4_code 28 = .ok (.iload_n 1, 1) := by decide +kernel
theorem d_jdk_52_m4_29 : decode jdk_52_method_4_code 29 = .ok (.iconst 1, 1) := by decide +kernel
theorem d_jdk_52_m4_30 : decode jdk_52_method_4_code 30 = .ok (.ishl, 1) := by decide +kernel
theorem d_jdk_52_m4_31 : decode jdk_52_method_4_code 31 = .ok (.istore_n 1, 1) := by decide +kernel
theorem d_jdk_52_m4_32 : decode jdk_52_method_4_code 32 = .ok (.aload_n 0, 1) := by decide +kernel
theorem d_jdk_52_m4_33 : decode jdk_52_method_4_code 33 = .ok (.iload_n 1, 1) := by decide +kernel
theorem d_jdk_52_m4_34 : decode jdk_52_method_4_code 34 = .ok (.iinc 1 1, 3) := by decide +kernel
theorem d_jdk_52_m4_37 : decode jdk_52_method_4_code 37 = .ok (.iload_n 2, 1) := by decide +kernel
theorem d_jdk_52_m4_38 : decode jdk_52_method_4_code 38 = .ok (.getstatic 59, 3) := by decide +kernel
theorem d_jdk_52_m4_41 : decode jdk_52_method_4_code 41 = .ok (.ishr, 1) := by decide +kernel
theorem d_jdk_52_m4_42 : decode jdk_52_method_4_code 42 = .ok (.i2b, 1) := by decide +kernel
theorem d_jdk_52_m4_43 : decode jdk_52_method_4_code 43 = .ok (.bastore, 1) := by decide +kernel
theorem d_jdk_52_m4_44 : decode jdk_52_method_4_code 44 = .ok (.aload_n 0, 1) := by decide +kernel
theorem d_jdk_52_m4_45 : decode jdk_52_method_4_code 45 = .ok (.iload_n 1, 1) := by decide +kernel
theorem d_jdk_52_m4_46 : decode jdk_52_method_4_code 46 = .ok (.iload_n 2, 1) := by decide +kernel
theorem d_jdk_52_m4_47 : decode jdk_52_method_4_code 47 = .ok (.getstatic 63, 3) := by decide +kernel
theorem d_jdk_52_m4_50 : decode jdk_52_method_4_code 50 = .ok (.ishr, 1) := by decide +kernel
theorem d_jdk_52_m4_51 : decode jdk_52_method_4_code 51 = .ok (.i2b, 1) := by decide +kernel
theorem d_jdk_52_m4_52 : decode jdk_52_method_4_code 52 = .ok (.bastore, 1) := by decide +kernel
theorem d_jdk_52_m4_53 : decode jdk_52_method_4_code 53 = .ok (.return_, 1) := by decide +kernel
theorem ef_c_getc (m : MethodId) (x0 : Addr) (x1 : Int32) : entryFrame m #[(.ref x0), (.int x1)] 2 = mkF m 0 #[.val (.ref x0), .val (.int x1)] [] := by first | (simp [entryFrame, mkF, argsToLocals, Value.category]; done) | rfl
theorem d_jdk_52_m5_0 : decode jdk_52_method_5_code 0 = .ok (.getstatic 44, 3) := by decide +kernel
theorem d_jdk_52_m5_3 : decode jdk_52_method_5_code 3 = .ok (.ifCond .ne 25, 3) := by decide +kernel
theorem d_jdk_52_m5_28 : decode jdk_52_method_5_code 28 = .ok (.iload_n 1, 1) := by decide +kernel
theorem d_jdk_52_m5_29 : decode jdk_52_method_5_code 29 = .ok (.iconst 1, 1) := by decide +kernel
theorem d_jdk_52_m5_30 : decode jdk_52_method_5_code 30 = .ok (.ishl, 1) := by decide +kernel
theorem d_jdk_52_m5_31 : decode jdk_52_method_5_code 31 = .ok (.istore_n 1, 1) := by decide +kernel
theorem d_jdk_52_m5_32 : decode jdk_52_method_5_code 32 = .ok (.aload_n 0, 1) := by decide +kernel
theorem d_jdk_52_m5_33 : decode jdk_52_method_5_code 33 = .ok (.iload_n 1, 1) := by decide +kernel
theorem d_jdk_52_m5_34 : decode jdk_52_method_5_code 34 = .ok (.iinc 1 1, 3) := by decide +kernel
theorem d_jdk_52_m5_37 : decode jdk_52_method_5_code 37 = .ok (.baload, 1) := by decide +kernel
theorem d_jdk_52_m5_38 : decode jdk_52_method_5_code 38 = .ok (.sipush 255, 3) := by decide +kernel
theorem d_jdk_52_m5_41 : decode jdk_52_method_5_code 41 = .ok (.iand, 1) := by decide +kernel
theorem d_jdk_52_m5_42 : decode jdk_52_method_5_code 42 = .ok (.getstatic 59, 3) := by decide +kernel
theorem d_jdk_52_m5_45 : decode jdk_52_method_5_code 45 = .ok (.ishl, 1) := by decide +kernel
theorem d_jdk_52_m5_46 : decode jdk_52_method_5_code 46 = .ok (.aload_n 0, 1) := by decide +kernel
theorem d_jdk_52_m5_47 : decode jdk_52_method_5_code 47 = .ok (.iload_n 1, 1) := by decide +kernel
theorem d_jdk_52_m5_48 : decode jdk_52_method_5_code 48 = .ok (.baload, 1) := by decide +kernel
theorem d_jdk_52_m5_49 : decode jdk_52_method_5_code 49 = .ok (.sipush 255, 3) := by decide +kernel
theorem d_jdk_52_m5_52 : decode jdk_52_method_5_code 52 = .ok (.iand, 1) := by decide +kernel
theorem d_jdk_52_m5_53 : decode jdk_52_method_5_code 53 = .ok (.getstatic 63, 3) := by decide +kernel
theorem d_jdk_52_m5_56 : decode jdk_52_method_5_code 56 = .ok (.ishl, 1) := by decide +kernel
theorem d_jdk_52_m5_57 : decode jdk_52_method_5_code 57 = .ok (.ior, 1) := by decide +kernel
theorem d_jdk_52_m5_58 : decode jdk_52_method_5_code 58 = .ok (.i2c, 1) := by decide +kernel
theorem d_jdk_52_m5_59 : decode jdk_52_method_5_code 59 = .ok (.ireturn, 1) := by decide +kernel
theorem ef_c_nbl (m : MethodId) (x0 : Int32) : entryFrame m #[(.int x0)] 1 = mkF m 0 #[.val (.int x0)] [] := by first | (simp [entryFrame, mkF, argsToLocals, Value.category]; done) | rfl
theorem d_jdk_52_m3_0 : decode jdk_52_method_3_code 0 = .ok (.iload_n 0, 1) := by decide +kernel
theorem d_jdk_52_m3_1 : decode jdk_52_method_3_code 1 = .ok (.ifCond .ge 11, 3) := by decide +kernel
theorem d_jdk_52_m3_12 : decode jdk_52_method_3_code 12 = .ok (.iload_n 0, 1) := by decide +kernel
theorem d_jdk_52_m3_13 : decode jdk_52_method_3_code 13 = .ok (.ldc 20, 2) := by decide +kernel
theorem d_jdk_52_m3_15 : decode jdk_52_method_3_code 15 = .ok (.if_icmp .lt 40, 3) := by decide +kernel
theorem d_jdk_52_m3_55 : decode jdk_52_method_3_code 55 = .ok (.iload_n 0, 1) := by decide +kernel
theorem d_jdk_52_m3_56 : decode jdk_52_method_3_code 56 = .ok (.iconst 1, 1) := by decide +kernel
theorem d_jdk_52_m3_57 : decode jdk_52_method_3_code 57 = .ok (.ishl, 1) := by decide +kernel
theorem d_jdk_52_m3_58 : decode jdk_52_method_3_code 58 = .ok (.ireturn, 1) := by decide +kernel
theorem ef_c_nbf (m : MethodId) (x0 : Int32) : entryFrame m #[(.int x0)] 1 = mkF m 0 #[.val (.int x0)] [] := by first | (simp [entryFrame, mkF, argsToLocals, Value.category]; done) | rfl
theorem d_jdk_52_m2_0 : decode jdk_52_method_2_code 0 = .ok (.iload_n 0, 1) := by decide +kernel
theorem d_jdk_52_m2_1 : decode jdk_52_method_2_code 1 = .ok (.invokestatic 11, 3) := by decide +kernel
theorem pd__I_I : parseMethodDescriptor "(I)I" = some ⟨[.int], some .int⟩ := by decide +kernel
theorem d_jdk_52_m2_4 : decode jdk_52_method_2_code 4 = .ok (.newarray .byte, 2) := by decide +kernel
theorem d_jdk_52_m2_6 : decode jdk_52_method_2_code 6 = .ok (.areturn, 1) := by decide +kernel
theorem ef_c_tob (m : MethodId) (x0 : Addr) (x1 : Int32) (x2 : Int32) : entryFrame m #[(.ref x0), (.int x1), (.int x2)] 5 = mkF m 0 #[.val (.ref x0), .val (.int x1), .val (.int x2), .unset, .unset] [] := by first | (simp [entryFrame, mkF, argsToLocals, Value.category]; done) | rfl
theorem d_jdk_52_m14_0 : decode jdk_52_method_14_code 0 = .ok (.iload_n 2, 1) := by decide +kernel
theorem d_jdk_52_m14_1 : decode jdk_52_method_14_code 1 = .ok (.invokestatic 107, 3) := by decide +kernel
theorem pd__I_AB : parseMethodDescriptor "(I)[B" = some ⟨[.int], some (.array .byte)⟩ := by decide +kernel
theorem d_jdk_52_m14_4 : decode jdk_52_method_14_code 4 = .ok (.astore_n 3, 1) := by decide +kernel
theorem d_jdk_52_m14_5 : decode jdk_52_method_14_code 5 = .ok (.iconst 0, 1) := by decide +kernel
theorem d_jdk_52_m14_6 : decode jdk_52_method_14_code 6 = .ok (.istore 4, 2) := by decide +kernel
theorem d_jdk_52_m14_8 : decode jdk_52_method_14_code 8 = .ok (.iload 4, 2) := by decide +kernel
theorem d_jdk_52_m14_10 : decode jdk_52_method_14_code 10 = .ok (.iload_n 2, 1) := by decide +kernel
theorem d_jdk_52_m14_11 : decode jdk_52_method_14_code 11 = .ok (.if_icmp .ge 21, 3) := by decide +kernel
theorem d_jdk_52_m14_32 : decode jdk_52_method_14_code 32 = .ok (.aload_n 3, 1) := by decide +kernel
theorem d_jdk_52_m14_33 : decode jdk_52_method_14_code 33 = .ok (.areturn, 1) := by decide +kernel
theorem d_jdk_52_m14_14 : decode jdk_52_method_14_code 14 = .ok (.aload_n 3, 1) := by decide +kernel
theorem d_jdk_52_m14_15 : decode jdk_52_method_14_code 15 = .ok (.iload 4, 2) := by decide +kernel
theorem d_jdk_52_m14_17 : decode jdk_52_method_14_code 17 = .ok (.aload_n 0, 1) := by decide +kernel
theorem d_jdk_52_m14_18 : decode jdk_52_method_14_code 18 = .ok (.iload_n 1, 1) := by decide +kernel
theorem d_jdk_52_m14_19 : decode jdk_52_method_14_code 19 = .ok (.caload, 1) := by decide +kernel
theorem d_jdk_52_m14_20 : decode jdk_52_method_14_code 20 = .ok (.invokestatic 111, 3) := by decide +kernel
theorem pd__ABII_V : parseMethodDescriptor "([BII)V" = some ⟨[(.array .byte), .int, .int], none⟩ := by decide +kernel
theorem d_jdk_52_m14_23 : decode jdk_52_method_14_code 23 = .ok (.iinc 1 1, 3) := by decide +kernel
theorem d_jdk_52_m14_26 : decode jdk_52_method_14_code 26 = .ok (.iinc 4 1, 3) := by decide +kernel
theorem d_jdk_52_m14_29 : decode jdk_52_method_14_code 29 = .ok (.goto (-21), 3) := by decide +kernel
theorem ef_c_cmp5 (m : MethodId) (x0 : Addr) (x1 : Int32) (x2 : Addr) (x3 : Int32) (x4 : Int32) : entryFrame m #[(.ref x0), (.int x1), (.ref x2), (.int x3), (.int x4)] 7 = mkF m 0 #[.val (.ref x0), .val (.int x1), .val (.ref x2), .val (.int x3), .val (.int x4), .unset, .unset] [] := by first | (simp [entryFrame, mkF, argsToLocals, Value.category]; done) | rfl
theorem d_jdk_52_m21_0 : decode jdk_52_method_21_code 0 = .ok (.iconst 0, 1) := by decide +kernel
theorem d_jdk_52_m21_1 : decode jdk_52_method_21_code 1 = .ok (.istore 5, 2) := by decide +kernel
theorem d_jdk_52_m21_3 : decode jdk_52_method_21_code 3 = .ok (.iload 5, 2) := by decide +kernel
theorem d_jdk_52_m21_5 : decode jdk_52_method_21_code 5 = .ok (.iload 4, 2) := by decide +kernel
theorem d_jdk_52_m21_7 : decode jdk_52_method_21_code 7 = .ok (.if_icmp .ge 37, 3) := by decide +kernel
theorem d_jdk_52_m21_10 : decode jdk_52_method_21_code 10 = .ok (.aload_n 0, 1) := by decide +kernel
theorem d_jdk_52_m21_11 : decode jdk_52_method_21_code 11 = .ok (.iload_n 1, 1) := by decide +kernel
theorem d_jdk_52_m21_12 : decode jdk_52_method_21_code 12 = .ok (.caload, 1) := by decide +kernel
theorem d_jdk_52_m21_13 : decode jdk_52_method_21_code 13 = .ok (.istore 6, 2) := by decide +kernel
theorem d_jdk_52_m21_15 : decode jdk_52_method_21_code 15 = .ok (.iload 6, 2) := by decide +kernel
theorem d_jdk_52_m21_17 : decode jdk_52_method_21_code 17 = .ok (.sipush 255, 3) := by decide +kernel
theorem d_jdk_52_m21_20 : decode jdk_52_method_21_code 20 = .ok (.if_icmp .le 6, 3) := by decide +kernel
theorem d_jdk_52_m21_23 : decode jdk_52_method_21_code 23 = .ok (.iload 5, 2) := by decide +kernel
theorem d_jdk_52_m21_25 : decode jdk_52_method_21_code 25 = .ok (.ireturn, 1) := by decide +kernel
theorem d_jdk_52_m21_26 : decode jdk_52_method_21_code 26 = .ok (.aload_n 2, 1) := by decide +kernel
theorem d_jdk_52_m21_27 : decode jdk_52_method_21_code 27 = .ok (.iload_n 3, 1) := by decide +kernel
theorem d_jdk_52_m21_28 : decode jdk_52_method_21_code 28 = .ok (.iload 6, 2) := by decide +kernel
theorem d_jdk_52_m21_30 : decode jdk_52_method_21_code 30 = .ok (.i2b, 1) := by decide +kernel
theorem d_jdk_52_m21_31 : decode jdk_52_method_21_code 31 = .ok (.bastore, 1) := by decide +kernel
theorem d_jdk_52_m21_32 : decode jdk_52_method_21_code 32 = .ok (.iinc 1 1, 3) := by decide +kernel
theorem d_jdk_52_m21_35 : decode jdk_52_method_21_code 35 = .ok (.iinc 3 1, 3) := by decide +kernel
theorem d_jdk_52_m21_38 : decode jdk_52_method_21_code 38 = .ok (.iinc 5 1, 3) := by decide +kernel
theorem d_jdk_52_m21_41 : decode jdk_52_method_21_code 41 = .ok (.goto (-38), 3) := by decide +kernel
theorem ef_c_cmp3 (m : MethodId) (x0 : Addr) (x1 : Int32) (x2 : Int32) : entryFrame m #[(.ref x0), (.int x1), (.int x2)] 6 = mkF m 0 #[.val (.ref x0), .val (.int x1), .val (.int x2), .unset, .unset, .unset] [] := by first | (simp [entryFrame, mkF, argsToLocals, Value.category]; done) | rfl
theorem d_jdk_52_m16_0 : decode jdk_52_method_16_code 0 = .ok (.iload_n 2, 1) := by decide +kernel
theorem d_jdk_52_m16_1 : decode jdk_52_method_16_code 1 = .ok (.newarray .byte, 2) := by decide +kernel
theorem d_jdk_52_m16_3 : decode jdk_52_method_16_code 3 = .ok (.astore_n 3, 1) := by decide +kernel
theorem d_jdk_52_m16_4 : decode jdk_52_method_16_code 4 = .ok (.aload_n 0, 1) := by decide +kernel
theorem d_jdk_52_m16_5 : decode jdk_52_method_16_code 5 = .ok (.iload_n 1, 1) := by decide +kernel
theorem d_jdk_52_m16_6 : decode jdk_52_method_16_code 6 = .ok (.aload_n 3, 1) := by decide +kernel
theorem d_jdk_52_m16_7 : decode jdk_52_method_16_code 7 = .ok (.iconst 0, 1) := by decide +kernel
theorem d_jdk_52_m16_8 : decode jdk_52_method_16_code 8 = .ok (.iload_n 2, 1) := by decide +kernel
theorem d_jdk_52_m16_9 : decode jdk_52_method_16_code 9 = .ok (.invokestatic 115, 3) := by decide +kernel
theorem pd__ACIABII_I : parseMethodDescriptor "([CI[BII)I" = some ⟨[(.array .char), .int, (.array .byte), .int, .int], some .int⟩ := by decide +kernel
theorem d_jdk_52_m16_12 : decode jdk_52_method_16_code 12 = .ok (.istore 4, 2) := by decide +kernel
theorem d_jdk_52_m16_14 : decode jdk_52_method_16_code 14 = .ok (.iload 4, 2) := by decide +kernel
theorem d_jdk_52_m16_16 : decode jdk_52_method_16_code 16 = .ok (.iload_n 2, 1) := by decide +kernel
theorem d_jdk_52_m16_17 : decode jdk_52_method_16_code 17 = .ok (.if_icmp .eq 40, 3) := by decide +kernel
theorem d_jdk_52_m16_20 : decode jdk_52_method_16_code 20 = .ok (.aload_n 0, 1) := by decide +kernel
theorem d_jdk_52_m16_21 : decode jdk_52_method_16_code 21 = .ok (.iload_n 1, 1) := by decide +kernel
theorem d_jdk_52_m16_22 : decode jdk_52_method_16_code 22 = .ok (.iload_n 2, 1) := by decide +kernel
theorem d_jdk_52_m16_23 : decode jdk_52_method_16_code 23 = .ok (.invokestatic 119, 3) := by decide +kernel
theorem pd__ACII_AB : parseMethodDescriptor "([CII)[B" = some ⟨[(.array .char), .int, .int], some (.array .byte)⟩ := by decide +kernel
theorem d_jdk_52_m16_26 : decode jdk_52_method_16_code 26 = .ok (.astore 5, 2) := by decide +kernel
theorem d_jdk_52_m16_28 : decode jdk_52_method_16_code 28 = .ok (.aload 5, 2) := by decide +kernel
theorem d_jdk_52_m16_30 : decode jdk_52_method_16_code 30 = .ok (.iload 4, 2) := by decide +kernel
theorem d_jdk_52_m16_32 : decode jdk_52_method_16_code 32 = .ok (.invokestatic 71, 3) := by decide +kernel
theorem pd__ABI_C : parseMethodDescriptor "([BI)C" = some ⟨[(.array .byte), .int], some .char⟩ := by decide +kernel
theorem d_jdk_52_m16_35 : decode jdk_52_method_16_code 35 = .ok (.sipush 255, 3) := by decide +kernel
theorem d_jdk_52_m16_38 : decode jdk_52_method_16_code 38 = .ok (.if_icmp .gt 16, 3) := by decide +kernel
theorem d_jdk_52_m16_54 : decode jdk_52_method_16_code 54 = .ok (.aload 5, 2) := by decide +kernel
theorem d_jdk_52_m16_56 : decode jdk_52_method_16_code 56 = .ok (.areturn, 1) := by decide +kernel
theorem ef_c_codl (m : MethodId) (x0 : Addr) (x1 : Int32) : entryFrame m #[(.ref x0), (.int x1)] 2 = mkF m 0 #[.val (.ref x0), .val (.int x1)] [] := by first | (simp [entryFrame, mkF, argsToLocals, Value.category]; done) | rfl
theorem d_jdk_52_m15_0 : decode jdk_52_method_15_code 0 = .ok (.iload_n 1, 1) := by decide +kernel
theorem d_jdk_52_m15_1 : decode jdk_52_method_15_code 1 = .ok (.aload_n 0, 1) := by decide +kernel
theorem d_jdk_52_m15_2 : decode jdk_52_method_15_code 2 = .ok (.arraylength, 1) := by decide +kernel
theorem d_jdk_52_m15_3 : decode jdk_52_method_15_code 3 = .ok (.isub, 1) := by decide +kernel
theorem d_jdk_52_m15_4 : decode jdk_52_method_15_code 4 = .ok (.bipush 31, 2) := by decide +kernel
theorem d_jdk_52_m15_6 : decode jdk_52_method_15_code 6 = .ok (.iushr, 1) := by decide +kernel
theorem d_jdk_52_m15_7 : decode jdk_52_method_15_code 7 = .ok (.i2b, 1) := by decide +kernel
theorem d_jdk_52_m15_8 : decode jdk_52_method_15_code 8 = .ok (.ireturn, 1) := by decide +kernel
theorem ef_c_nwu4 (m : MethodId) (x0 : Addr) (x1 : Addr) (x2 : Int32) (x3 : Int32) : entryFrame m #[(.ref x0), (.ref x1), (.int x2), (.int x3), .null] 6 = mkF m 0 #[.val (.ref x0), .val (.ref x1), .val (.int x2), .val (.int x3), .val .null, .unset] [] := by first | (simp [entryFrame, mkF, argsToLocals, Value.category]; done) | rfl
theorem pn_java_lang_String : plainName "java/lang/String" = true := by first | (simp [plainName, overriddenIn]; done) | decide +kernel
theorem d_jdk_42_m149_0 : decode jdk_42_method_149_code 0 = .ok (.aload_n 0, 1) := by decide +kernel
theorem d_jdk_42_m149_1 : decode jdk_42_method_149_code 1 = .ok (.invokespecial 1, 3) := by decide +kernel
theorem d_jdk_42_m149_4 : decode jdk_42_method_149_code 4 = .ok (.iload_n 3, 1) := by decide +kernel
theorem d_jdk_42_m149_5 : decode jdk_42_method_149_code 5 = .ok (.ifCond .ne 22, 3) := by decide +kernel
theorem d_jdk_42_m149_27 : decode jdk_42_method_149_code 27 = .ok (.getstatic 38, 3) := by decide +kernel
theorem d_jdk_42_m149_30 : decode jdk_42_method_149_code 30 = .ok (.ifCond .eq 28, 3) := by decide +kernel
theorem d_jdk_42_m149_33 : decode jdk_42_method_149_code 33 = .ok (.aload_n 1, 1) := by decide +kernel
theorem d_jdk_42_m149_34 : decode jdk_42_method_149_code 34 = .ok (.iload_n 2, 1) := by decide +kernel
theorem d_jdk_42_m149_35 : decode jdk_42_method_149_code 35 = .ok (.iload_n 3, 1) := by decide +kernel
theorem d_jdk_42_m149_36 : decode jdk_42_method_149_code 36 = .ok (.invokestatic 177, 3) := by decide +kernel
theorem d_jdk_42_m149_39 : decode jdk_42_method_149_code 39 = .ok (.astore 5, 2) := by decide +kernel
theorem d_jdk_42_m149_41 : decode jdk_42_method_149_code 41 = .ok (.aload_n 0, 1) := by decide +kernel
theorem d_jdk_42_m149_42 : decode jdk_42_method_149_code 42 = .ok (.aload 5, 2) := by decide +kernel
theorem d_jdk_42_m149_44 : decode jdk_42_method_149_code 44 = .ok (.iload_n 3, 1) := by decide +kernel
theorem d_jdk_42_m149_45 : decode jdk_42_method_149_code 45 = .ok (.invokestatic 47, 3) := by decide +kernel
theorem pd__ABI_B : parseMethodDescriptor "([BI)B" = some ⟨[(.array .byte), .int], some .byte⟩ := by decide +kernel
theorem d_jdk_42_m149_48 : decode jdk_42_method_149_code 48 = .ok (.putfield 15, 3) := by decide +kernel
theorem d_jdk_42_m149_51 : decode jdk_42_method_149_code 51 = .ok (.aload_n 0, 1) := by decide +kernel
theorem d_jdk_42_m149_52 : decode jdk_42_method_149_code 52 = .ok (.aload 5, 2) := by decide +kernel
theorem d_jdk_42_m149_54 : decode jdk_42_method_149_code 54 = .ok (.putfield 9, 3) := by decide +kernel
theorem d_jdk_42_m149_57 : decode jdk_42_method_149_code 57 = .ok (.return_, 1) := by decide +kernel
theorem ef_c_nwu1 (m : MethodId) (x0 : Addr) (x1 : Addr) : entryFrame m #[(.ref x0), (.ref x1)] 2 = mkF m 0 #[.val (.ref x0), .val (.ref x1)] [] := by first | (simp [entryFrame, mkF, argsToLocals, Value.category]; done) | rfl
theorem d_jdk_42_m3_0 : decode jdk_42_method_3_code 0 = .ok (.aload_n 0, 1) := by decide +kernel
theorem d_jdk_42_m3_1 : decode jdk_42_method_3_code 1 = .ok (.aload_n 1, 1) := by decide +kernel
theorem d_jdk_42_m3_2 : decode jdk_42_method_3_code 2 = .ok (.iconst 0, 1) := by decide +kernel
theorem d_jdk_42_m3_3 : decode jdk_42_method_3_code 3 = .ok (.aload_n 1, 1) := by decide +kernel
theorem d_jdk_42_m3_4 : decode jdk_42_method_3_code 4 = .ok (.arraylength, 1) := by decide +kernel
theorem d_jdk_42_m3_5 : decode jdk_42_method_3_code 5 = .ok (.aconst_null, 1) := by decide +kernel
theorem d_jdk_42_m3_6 : decode jdk_42_method_3_code 6 = .ok (.invokespecial 27, 3) := by decide +kernel
theorem pd__ACIILjava_lang_Void__V : parseMethodDescriptor "([CIILjava/lang/Void;)V" = some ⟨[(.array .char), .int, .int, (.object "java/lang/Void")], none⟩ := by decide +kernel
theorem d_jdk_42_m3_9 : decode jdk_42_method_3_code 9 = .ok (.return_, 1) := by decide +kernel
theorem ef_c_new0 (m : MethodId) (x0 : Addr) (x1 : Addr) (x2 : Int32) (x3 : Int32) : entryFrame m #[(.ref x0), (.ref x1), (.int x2), (.int x3), .null] 6 = mkF m 0 #[.val (.ref x0), .val (.ref x1), .val (.int x2), .val (.int x3), .val .null, .unset] [] := by first | (simp [entryFrame, mkF, argsToLocals, Value.category]; done) | rfl
theorem d_jdk_42_m149_8 : decode jdk_42_method_149_code 8 = .ok (.aload_n 0, 1) := by decide +kernel
theorem d_jdk_42_m149_9 : decode jdk_42_method_149_code 9 = .ok (.ldc 7, 2) := by decide +kernel
theorem d_jdk_42_m149_11 : decode jdk_42_method_149_code 11 = .ok (.getfield 9, 3) := by decide +kernel
theorem d_jdk_42_m149_14 : decode jdk_42_method_149_code 14 = .ok (.putfield 9, 3) := by decide +kernel
theorem d_jdk_42_m149_17 : decode jdk_42_method_149_code 17 = .ok (.aload_n 0, 1) := by decide +kernel
theorem d_jdk_42_m149_18 : decode jdk_42_method_149_code 18 = .ok (.ldc 7, 2) := by decide +kernel
theorem d_jdk_42_m149_20 : decode jdk_42_method_149_code 20 = .ok (.getfield 15, 3) := by decide +kernel
theorem d_jdk_42_m149_23 : decode jdk_42_method_149_code 23 = .ok (.putfield 15, 3) := by decide +kernel
theorem d_jdk_42_m149_26 : decode jdk_42_method_149_code 26 = .ok (.return_, 1) := by decide +kernel
theorem ef_c_new1 (m : MethodId) (x0 : Addr) (x1 : Addr) : entryFrame m #[(.ref x0), (.ref x1)] 2 = mkF m 0 #[.val (.ref x0), .val (.ref x1)] [] := by first | (simp [entryFrame, mkF, argsToLocals, Value.category]; done) | rfl
theorem ef_c_cp4 (m : MethodId) (x0 : Addr) (x1 : Int32) (x2 : Int32) (x3 : Int32) : entryFrame m #[(.ref x0), (.int x1), (.int x2), (.int x3)] 6 = mkF m 0 #[.val (.ref x0), .val (.int x1), .val (.int x2), .val (.int x3), .unset, .unset] [] := by first | (simp [entryFrame, mkF, argsToLocals, Value.category]; done) | rfl
theorem d_jdk_52_m11_0 : decode jdk_52_method_11_code 0 = .ok (.getstatic 44, 3) := by decide +kernel
theorem d_jdk_52_m11_3 : decode jdk_52_method_11_code 3 = .ok (.ifCond .ne 16, 3) := by decide +kernel
theorem d_jdk_52_m11_19 : decode jdk_52_method_11_code 19 = .ok (.iload_n 2, 1) := by decide +kernel
theorem d_jdk_52_m11_20 : decode jdk_52_method_11_code 20 = .ok (.iload_n 1, 1) := by decide +kernel
theorem d_jdk_52_m11_21 : decode jdk_52_method_11_code 21 = .ok (.isub, 1) := by decide +kernel
theorem d_jdk_52_m11_22 : decode jdk_52_method_11_code 22 = .ok (.istore 4, 2) := by decide +kernel
theorem d_jdk_52_m11_24 : decode jdk_52_method_11_code 24 = .ok (.iload_n 1, 1) := by decide +kernel
theorem d_jdk_52_m11_25 : decode jdk_52_method_11_code 25 = .ok (.istore 5, 2) := by decide +kernel
theorem d_jdk_52_m11_27 : decode jdk_52_method_11_code 27 = .ok (.iload_n 3, 1) := by decide +kernel
theorem d_jdk_52_m11_28 : decode jdk_52_method_11_code 28 = .ok (.ifCond .eq 16, 3) := by decide +kernel
theorem d_jdk_52_m11_44 : decode jdk_52_method_11_code 44 = .ok (.iload 5, 2) := by decide +kernel
theorem d_jdk_52_m11_46 : decode jdk_52_method_11_code 46 = .ok (.iload_n 2, 1) := by decide +kernel
theorem d_jdk_52_m11_47 : decode jdk_52_method_11_code 47 = .ok (.iconst 1, 1) := by decide +kernel
theorem d_jdk_52_m11_48 : decode jdk_52_method_11_code 48 = .ok (.isub, 1) := by decide +kernel
theorem d_jdk_52_m11_49 : decode jdk_52_method_11_code 49 = .ok (.if_icmp .ge 39, 3) := by decide +kernel
theorem d_jdk_52_m11_52 : decode jdk_52_method_11_code 52 = .ok (.aload_n 0, 1) := by decide +kernel
theorem d_jdk_52_m11_53 : decode jdk_52_method_11_code 53 = .ok (.iload 5, 2) := by decide +kernel
theorem d_jdk_52_m11_55 : decode jdk_52_method_11_code 55 = .ok (.iinc 5 1, 3) := by decide +kernel
theorem d_jdk_52_m11_58 : decode jdk_52_method_11_code 58 = .ok (.invokestatic 71, 3) := by decide +kernel
theorem d_jdk_52_m11_61 : decode jdk_52_method_11_code 61 = .ok (.invokestatic 75, 3) := by decide +kernel
theorem pd__C_Z : parseMethodDescriptor "(C)Z" = some ⟨[.char], some .boolean⟩ := by decide +kernel
theorem d_jdk_52_m11_64 : decode jdk_52_method_11_code 64 = .ok (.ifCond .eq (-20), 3) := by decide +kernel
theorem d_jdk_52_m11_67 : decode jdk_52_method_11_code 67 = .ok (.aload_n 0, 1) := by decide +kernel
theorem d_jdk_52_m11_68 : decode jdk_52_method_11_code 68 = .ok (.iload 5, 2) := by decide +kernel
theorem d_jdk_52_m11_70 : decode jdk_52_method_11_code 70 = .ok (.invokestatic 71, 3) := by decide +kernel
theorem d_jdk_52_m11_73 : decode jdk_52_method_11_code 73 = .ok (.invokestatic 81, 3) := by decide +kernel
theorem d_jdk_52_m11_76 : decode jdk_52_method_11_code 76 = .ok (.ifCond .eq (-32), 3) := by decide +kernel
theorem d_jdk_52_m11_79 : decode jdk_52_method_11_code 79 = .ok (.iinc 4 (-1), 3) := by decide +kernel
theorem d_jdk_52_m11_82 : decode jdk_52_method_11_code 82 = .ok (.iinc 5 1, 3) := by decide +kernel
theorem d_jdk_52_m11_85 : decode jdk_52_method_11_code 85 = .ok (.goto (-41), 3) := by decide +kernel
theorem d_jdk_52_m11_88 : decode jdk_52_method_11_code 88 = .ok (.iload 4, 2) := by decide +kernel
theorem d_jdk_52_m11_90 : decode jdk_52_method_11_code 90 = .ok (.ireturn, 1) := by decide +kernel
theorem ef_c_cp3 (m : MethodId) (x0 : Addr) (x1 : Int32) (x2 : Int32) : entryFrame m #[(.ref x0), (.int x1), (.int x2)] 3 = mkF m 0 #[.val (.ref x0), .val (.int x1), .val (.int x2)] [] := by first | (simp [entryFrame, mkF, argsToLocals, Value.category]; done) | rfl
theorem d_jdk_52_m12_0 : decode jdk_52_method_12_code 0 = .ok (.aload_n 0, 1) := by decide +kernel
theorem d_jdk_52_m12_1 : decode jdk_52_method_12_code 1 = .ok (.iload_n 1, 1) := by decide +kernel
theorem d_jdk_52_m12_2 : decode jdk_52_method_12_code 2 = .ok (.iload_n 2, 1) := by decide +kernel
theorem d_jdk_52_m12_3 : decode jdk_52_method_12_code 3 = .ok (.iconst 0, 1) := by decide +kernel
theorem d_jdk_52_m12_4 : decode jdk_52_method_12_code 4 = .ok (.invokestatic 100, 3) := by decide +kernel
theorem pd__ABIIZ_I : parseMethodDescriptor "([BIIZ)I" = some ⟨[(.array .byte), .int, .int, .boolean], some .int⟩ := by decide +kernel
theorem d_jdk_52_m12_7 : decode jdk_52_method_12_code 7 = .ok (.ireturn, 1) := by decide +kernel
theorem ef_c_pcf (m : MethodId) (x0 : Int32) (x1 : Int32) (x2 : Int32) : entryFrame m #[(.int x0), (.int x1), (.int x2), .null] 4 = mkF m 0 #[.val (.int x0), .val (.int x1), .val (.int x2), .val .null] [] := by first | (simp [entryFrame, mkF, argsToLocals, Value.category]; done) | rfl
theorem pn_jdk_internal_util_Preconditions : plainName "jdk/internal/util/Preconditions" = true := by first | (simp [plainName, overriddenIn]; done) | decide +kernel
theorem d_jdk_41_m12_0 : decode jdk_41_method_12_code 0 = .ok (.iload_n 0, 1) := by decide +kernel
theorem d_jdk_41_m12_1 : decode jdk_41_method_12_code 1 = .ok (.ifCond .lt 13, 3) := by decide +kernel
theorem d_jdk_41_m12_4 : decode jdk_41_method_12_code 4 = .ok (.iload_n 0, 1) := by decide +kernel
theorem d_jdk_41_m12_5 : decode jdk_41_method_12_code 5 = .ok (.iload_n 1, 1) := by decide +kernel
theorem d_jdk_41_m12_6 : decode jdk_41_method_12_code 6 = .ok (.if_icmp .gt 8, 3) := by decide +kernel
theorem d_jdk_41_m12_9 : decode jdk_41_method_12_code 9 = .ok (.iload_n 1, 1) := by decide +kernel
theorem d_jdk_41_m12_10 : decode jdk_41_method_12_code 10 = .ok (.iload_n 2, 1) := by decide +kernel
theorem d_jdk_41_m12_11 : decode jdk_41_method_12_code 11 = .ok (.if_icmp .le 11, 3) := by decide +kernel
theorem d_jdk_41_m12_22 : decode jdk_41_method_12_code 22 = .ok (.iload_n 0, 1) := by decide +kernel
theorem d_jdk_41_m12_23 : decode jdk_41_method_12_code 23 = .ok (.ireturn, 1) := by decide +kernel
theorem ef_c_ocf (m : MethodId) (x0 : Int32) (x1 : Int32) (x2 : Int32) : entryFrame m #[(.int x0), (.int x1), (.int x2)] 3 = mkF m 0 #[.val (.int x0), .val (.int x1), .val (.int x2)] [] := by first | (simp [entryFrame, mkF, argsToLocals, Value.category]; done) | rfl
theorem pn_java_util_Objects : plainName "java/util/Objects" = true := by first | (simp [plainName, overriddenIn]; done) | decide +kernel
theorem d_jdk_31_m18_0 : decode jdk_31_method_18_code 0 = .ok (.iload_n 0, 1) := by decide +kernel
theorem d_jdk_31_m18_1 : decode jdk_31_method_18_code 1 = .ok (.iload_n 1, 1) := by decide +kernel
theorem d_jdk_31_m18_2 : decode jdk_31_method_18_code 2 = .ok (.iload_n 2, 1) := by decide +kernel
theorem d_jdk_31_m18_3 : decode jdk_31_method_18_code 3 = .ok (.aconst_null, 1) := by decide +kernel
theorem d_jdk_31_m18_4 : decode jdk_31_method_18_code 4 = .ok (.invokestatic 111, 3) := by decide +kernel
theorem pd__IIILjava_util_function_BiFunction__I : parseMethodDescriptor "(IIILjava/util/function/BiFunction;)I" = some ⟨[.int, .int, .int, (.object "java/util/function/BiFunction")], some .int⟩ := by decide +kernel
theorem d_jdk_31_m18_7 : decode jdk_31_method_18_code 7 = .ok (.ireturn, 1) := by decide +kernel
theorem ef_c_isl0 (m : MethodId) (x0 : Addr) : entryFrame m #[(.ref x0)] 1 = mkF m 0 #[.val (.ref x0)] [] := by first | (simp [entryFrame, mkF, argsToLocals, Value.category]; done) | rfl
theorem d_jdk_42_m154_0 : decode jdk_42_method_154_code 0 = .ok (.getstatic 38, 3) := by decide +kernel
theorem d_jdk_42_m154_3 : decode jdk_42_method_154_code 3 = .ok (.ifCond .eq 14, 3) := by decide +kernel
theorem d_jdk_42_m154_6 : decode jdk_42_method_154_code 6 = .ok (.aload_n 0, 1) := by decide +kernel
theorem d_jdk_42_m154_7 : decode jdk_42_method_154_code 7 = .ok (.getfield 15, 3) := by decide +kernel
theorem d_jdk_42_m154_10 : decode jdk_42_method_154_code 10 = .ok (.ifCond .ne 7, 3) := by decide +kernel
theorem d_jdk_42_m154_13 : decode jdk_42_method_154_code 13 = .ok (.iconst 1, 1) := by decide +kernel
theorem d_jdk_42_m154_14 : decode jdk_42_method_154_code 14 = .ok (.goto 4, 3) := by decide +kernel
theorem d_jdk_42_m154_18 : decode jdk_42_method_154_code 18 = .ok (.ireturn, 1) := by decide +kernel
theorem ef_c_isl1 (m : MethodId) (x0 : Addr) : entryFrame m #[(.ref x0)] 1 = mkF m 0 #[.val (.ref x0)] [] := by first | (simp [entryFrame, mkF, argsToLocals, Value.category]; done) | rfl
theorem d_jdk_42_m154_17 : decode jdk_42_method_154_code 17 = .ok (.iconst 0, 1) := by decide +kernel
theorem ef_c_cpc (m : MethodId) (x0 : Addr) (x1 : Int32) (x2 : Int32) : entryFrame m #[(.ref x0), (.int x1), (.int x2)] 3 = mkF m 0 #[.val (.ref x0), .val (.int x1), .val (.int x2)] [] := by first | (simp [entryFrame, mkF, argsToLocals, Value.category]; done) | rfl
theorem d_jdk_42_m59_0 : decode jdk_42_method_59_code 0 = .ok (.iload_n 1, 1) := by decide +kernel
theorem d_jdk_42_m59_1 : decode jdk_42_method_59_code 1 = .ok (.iload_n 2, 1) := by decide +kernel
theorem d_jdk_42_m59_2 : decode jdk_42_method_59_code 2 = .ok (.aload_n 0, 1) := by decide +kernel
theorem d_jdk_42_m59_3 : decode jdk_42_method_59_code 3 = .ok (.invokevirtual 505, 3) := by decide +kernel
theorem pd___I : parseMethodDescriptor "()I" = some ⟨[], some .int⟩ := by decide +kernel
theorem d_jdk_42_m59_6 : decode jdk_42_method_59_code 6 = .ok (.invokestatic 511, 3) := by decide +kernel
theorem pd__III_I : parseMethodDescriptor "(III)I" = some ⟨[.int, .int, .int], some .int⟩ := by decide +kernel
theorem d_jdk_42_m59_9 : decode jdk_42_method_59_code 9 = .ok (.pop, 1) := by decide +kernel
theorem d_jdk_42_m59_10 : decode jdk_42_method_59_code 10 = .ok (.aload_n 0, 1) := by decide +kernel
theorem d_jdk_42_m59_11 : decode jdk_42_method_59_code 11 = .ok (.invokevirtual 492, 3) := by decide +kernel
theorem pd___Z : parseMethodDescriptor "()Z" = some ⟨[], some .boolean⟩ := by decide +kernel
theorem d_jdk_42_m59_14 : decode jdk_42_method_59_code 14 = .ok (.ifCond .eq 7, 3) := by decide +kernel
theorem d_jdk_42_m59_17 : decode jdk_42_method_59_code 17 = .ok (.iload_n 2, 1) := by decide +kernel
theorem d_jdk_42_m59_18 : decode jdk_42_method_59_code 18 = .ok (.iload_n 1, 1) := by decide +kernel
theorem d_jdk_42_m59_19 : decode jdk_42_method_59_code 19 = .ok (.isub, 1) := by decide +kernel
theorem d_jdk_42_m59_20 : decode jdk_42_method_59_code 20 = .ok (.ireturn, 1) := by decide +kernel
theorem d_jdk_42_m59_21 : decode jdk_42_method_59_code 21 = .ok (.aload_n 0, 1) := by decide +kernel
theorem d_jdk_42_m59_22 : decode jdk_42_method_59_code 22 = .ok (.getfield 9, 3) := by decide +kernel
theorem d_jdk_42_m59_25 : decode jdk_42_method_59_code 25 = .ok (.iload_n 1, 1) := by decide +kernel
theorem d_jdk_42_m59_26 : decode jdk_42_method_59_code 26 = .ok (.iload_n 2, 1) := by decide +kernel
theorem d_jdk_42_m59_27 : decode jdk_42_method_59_code 27 = .ok (.invokestatic 514, 3) := by decide +kernel
theorem pd__ABII_I : parseMethodDescriptor "([BII)I" = some ⟨[(.array .byte), .int, .int], some .int⟩ := by decide +kernel
theorem d_jdk_42_m59_30 : decode jdk_42_method_59_code 30 = .ok (.ireturn, 1) := by decide +kernel
theorem ef_c_tag (m : MethodId) (x0 : Addr) : entryFrame m #[(.ref x0)] 1 = mkF m 0 #[.val (.ref x0)] [] := by first | (simp [entryFrame, mkF, argsToLocals, Value.category]; done) | rfl
theorem pn_com_example_meticulous_attestor_meticulousattestor_model_WalletInstance : plainName "com/example/meticulous_attestor/meticulousattestor/model/WalletInstance" = true := by first | (simp [plainName, overriddenIn]; done) | decide +kernel
theorem d_prog_27_m4_0 : decode prog_27_method_4_code 0 = .ok (.aload_n 0, 1) := by decide +kernel
theorem d_prog_27_m4_1 : decode prog_27_method_4_code 1 = .ok (.invokevirtual 59, 3) := by decide +kernel
theorem d_prog_27_m4_4 : decode prog_27_method_4_code 4 = .ok (.ifCond .ne 22, 3) := by decide +kernel
theorem d_prog_27_m4_26 : decode prog_27_method_4_code 26 = .ok (.iconst 0, 1) := by decide +kernel
theorem d_prog_27_m4_27 : decode prog_27_method_4_code 27 = .ok (.ireturn, 1) := by decide +kernel
theorem d_prog_27_m4_7 : decode prog_27_method_4_code 7 = .ok (.aload_n 0, 1) := by decide +kernel
theorem d_prog_27_m4_8 : decode prog_27_method_4_code 8 = .ok (.iconst 0, 1) := by decide +kernel
theorem d_prog_27_m4_9 : decode prog_27_method_4_code 9 = .ok (.aload_n 0, 1) := by decide +kernel
theorem d_prog_27_m4_10 : decode prog_27_method_4_code 10 = .ok (.invokevirtual 63, 3) := by decide +kernel
theorem d_prog_27_m4_13 : decode prog_27_method_4_code 13 = .ok (.invokevirtual 67, 3) := by decide +kernel
theorem pd__II_I : parseMethodDescriptor "(II)I" = some ⟨[.int, .int], some .int⟩ := by decide +kernel
theorem d_prog_27_m4_16 : decode prog_27_method_4_code 16 = .ok (.sipush 256, 3) := by decide +kernel
theorem d_prog_27_m4_19 : decode prog_27_method_4_code 19 = .ok (.if_icmp .gt 7, 3) := by decide +kernel
theorem d_prog_27_m4_22 : decode prog_27_method_4_code 22 = .ok (.iconst 1, 1) := by decide +kernel
theorem d_prog_27_m4_23 : decode prog_27_method_4_code 23 = .ok (.goto 4, 3) := by decide +kernel
theorem ef_c_law (m : MethodId) (x0 : Int32) (x1 : Int32) (x2 : Int32) (x3 : Int32) : entryFrame m #[(.int x0), (.int x1), (.int x2), (.int x3)] maxLocals = mkF m 0 #[.val (.int x0), .val (.int x1), .val (.int x2), .val (.int x3), .unset, .unset, .unset, .unset, .unset, .unset, .unset] [] := by first | (simp [entryFrame, mkF, argsToLocals, Value.category, maxLocals]; done) | rfl
theorem pd__II_C : parseMethodDescriptor "(II)C" = some ⟨[.int, .int], some .char⟩ := by decide +kernel
theorem pd__AC_V : parseMethodDescriptor "([C)V" = some ⟨[(.array .char)], none⟩ := by decide +kernel
theorem pd__Ljava_lang_String__Z : parseMethodDescriptor "(Ljava/lang/String;)Z" = some ⟨[(.object "java/lang/String")], some .boolean⟩ := by decide +kernel
set_option maxRecDepth 65536 in
set_option maxHeartbeats 40000000 in
theorem c_draw (l : Launch) {Z : State} {a0 : Array Value} {zc : Int32} (B : Base Z a0 zc) (pa pb : Int32) (h0 : Heap) (O : Ext Z.heap h0) :
    MetN l Z (⟨"com/example/meticulous_attestor/meticulousattestor/model/WalletInstanceIsHardwareKeyTagPinLaw", "draw", "(II)C"⟩ : MethodName) method_2_code 2 (some .char) [] ({ frames := 0, cells := 0, slots := 0, locals := 0 } : Room) #[(.int pa), (.int pb)] h0 [] (fun v h => ∃ r, v = some (.int r) ∧ (¬ r < 0 ∧ ¬ (65535 : Int32) < r) ∧ h0 = h) := by
  obtain ⟨hw, SC0, hz0, SU2, SU3, SU4, hh7, hcw⟩ := B
  refine MetN.mk (plainFor_of_name pn_com_example_meticulous_attestor_meticulousattestor_model_WalletInstanceIsHardwareKeyTagPinLaw) (fun m => ef_c_draw m pa pb) O ?_
  intro p e s m below meth c T0 hx hby hml hret hlk hnm hsh H0
  have zs : s.heap.size = h0.size := by rw [hsh]
  refine Rn.pu (T' := T0) (g' := (mkF m 1 #[.val (.int pa), .val (.int pb)] [(.int pa)])) ?_ fun _ zk => XS.iloadN H0.here hx rfl (hb hby d_m2_0) rfl zk
  refine Rn.pu (T' := T0) (g' := (mkF m 2 #[.val (.int pa), .val (.int pb)] [(.int (1 : Int32)), (.int pa)])) ?_ fun _ zk => XS.iconst H0.here hx rfl (hb hby d_m2_1) zk
  refine Rn.pu (T' := T0) (g' := (mkF m 3 #[.val (.int pa), .val (.int pb)] [(.int (pa &&& (1 : Int32)))])) ?_ fun _ zk => XS.iand H0.here hx rfl (hb hby d_m2_2) rfl zk
  by_cases b3_1 : (pa &&& (1 : Int32)) = 0
  ·
    refine Rn.pu (T' := T0) (g' := (mkF m 17 #[.val (.int pa), .val (.int pb)] [])) ?_ fun _ zk => XS.ifYes H0.here hx rfl (pc0 := 3) (pc' := 17) rfl (hb hby d_m2_3) rfl (z_eq_t b3_1) (by decide) (by decide) zk
    refine Rn.pu (T' := T0) (g' := (mkF m 18 #[.val (.int pa), .val (.int pb)] [(.int pa)])) ?_ fun _ zk => XS.iloadN H0.here hx rfl (hb hby d_m2_17) rfl zk
    refine Rn.pu (T' := T0) (g' := (mkF m 19 #[.val (.int pa), .val (.int pb)] [(.int (1 : Int32)), (.int pa)])) ?_ fun _ zk => XS.iconst H0.here hx rfl (hb hby d_m2_18) zk
    refine Rn.pu (T' := T0) (g' := (mkF m 20 #[.val (.int pa), .val (.int pb)] [(.int (XT.ushr pa (1 : Int32)))])) ?_ fun _ zk => XT.iushr H0.here hx rfl (hb hby d_m2_19) rfl zk
    refine Rn.pu (g' := (mkF m 22 #[.val (.int pa), .val (.int pb)] [(.int (65535 : Int32)), (.int (XT.ushr pa (1 : Int32)))])) ?_ (H0.ldcI (hw _ (List.mem_of_getElem? (i := 5) rfl)) (g := (mkF m 20 #[.val (.int pa), .val (.int pb)] [(.int (XT.ushr pa (1 : Int32)))])) rfl (hb hby d_m2_20))
    refine Rn.pu (T' := T0) (g' := (mkF m 23 #[.val (.int pa), .val (.int pb)] [(.int ((XT.ushr pa (1 : Int32)) &&& (65535 : Int32)))])) ?_ fun _ zk => XS.iand H0.here hx rfl (hb hby d_m2_22) rfl zk
    refine Rn.pu (T' := T0) (g' := (mkF m 24 #[.val (.int pa), .val (.int pb)] [(.int (nar .char ((XT.ushr pa (1 : Int32)) &&& (65535 : Int32))))])) ?_ fun _ zk => XT.i2c H0.here hx rfl (hb hby d_m2_23) rfl zk
    exact H0.retS ends_N hlk (t := .char) hret (by simp) (hb hby d_m2_24) (by decide) (by decide) (fun _ q => nomatch q) ⟨_, rfl, u_char _, rfl⟩
  ·
    refine Rn.pu (T' := T0) (g' := (mkF m 6 #[.val (.int pa), .val (.int pb)] [])) ?_ fun _ zk => XS.ifNo H0.here hx rfl (hb hby d_m2_3) rfl (z_eq_f b3_1) zk
    refine Rn.pu (T' := T0) (g' := (mkF m 7 #[.val (.int pa), .val (.int pb)] [(.int pb)])) ?_ fun _ zk => XS.iloadN H0.here hx rfl (hb hby d_m2_6) rfl zk
    refine Rn.pu (T' := T0) (g' := (mkF m 8 #[.val (.int pa), .val (.int pb)] [(.int pa), (.int pb)])) ?_ fun _ zk => XS.iloadN H0.here hx rfl (hb hby d_m2_7) rfl zk
    refine Rn.pu (T' := T0) (g' := (mkF m 9 #[.val (.int pa), .val (.int pb)] [(.int (1 : Int32)), (.int pa), (.int pb)])) ?_ fun _ zk => XS.iconst H0.here hx rfl (hb hby d_m2_8) zk
    refine Rn.pu (T' := T0) (g' := (mkF m 10 #[.val (.int pa), .val (.int pb)] [(.int (XT.ushr pa (1 : Int32))), (.int pb)])) ?_ fun _ zk => XT.iushr H0.here hx rfl (hb hby d_m2_9) rfl zk
    refine Rn.pu (T' := T0) (g' := (mkF m 13 #[.val (.int pa), .val (.int pb)] [(.int (1023 : Int32)), (.int (XT.ushr pa (1 : Int32))), (.int pb)])) ?_ fun _ zk => XS.sipush H0.here hx rfl (hb hby d_m2_10) zk
    refine Rn.pu (T' := T0) (g' := (mkF m 14 #[.val (.int pa), .val (.int pb)] [(.int ((XT.ushr pa (1 : Int32)) &&& (1023 : Int32))), (.int pb)])) ?_ fun _ zk => XS.iand H0.here hx rfl (hb hby d_m2_13) rfl zk
    refine Rn.pu (T' := T0) (g' := (mkF m 15 #[.val (.int pa), .val (.int pb)] [(.int (pb ||| ((XT.ushr pa (1 : Int32)) &&& (1023 : Int32))))])) ?_ fun _ zk => XT.ior H0.here hx rfl (hb hby d_m2_14) rfl zk
    refine Rn.pu (T' := T0) (g' := (mkF m 16 #[.val (.int pa), .val (.int pb)] [(.int (nar .char (pb ||| ((XT.ushr pa (1 : Int32)) &&& (1023 : Int32)))))])) ?_ fun _ zk => XT.i2c H0.here hx rfl (hb hby d_m2_15) rfl zk
    exact H0.retS ends_N hlk (t := .char) hret (by simp) (hb hby d_m2_16) (by decide) (by decide) (fun _ q => nomatch q) ⟨_, rfl, u_char _, rfl⟩
set_option maxRecDepth 65536 in
set_option maxHeartbeats 40000000 in
theorem c_ishi (l : Launch) {Z : State} {a0 : Array Value} {zc : Int32} (B : Base Z a0 zc) (c0 : Int32) (h0 : Heap) (O : Ext Z.heap h0) :
    MetN l Z (⟨"com/example/meticulous_attestor/meticulousattestor/model/WalletInstanceIsHardwareKeyTagPinLaw", "isHigh", "(C)Z"⟩ : MethodName) method_3_code 1 (some .boolean) [] ({ frames := 0, cells := 0, slots := 0, locals := 0 } : Room) #[(.int c0)] h0 [] (fun v h => v = some (.int (own_hi c0)) ∧ h0 = h) := by
  obtain ⟨hw, SC0, hz0, SU2, SU3, SU4, hh7, hcw⟩ := B
  refine MetN.mk (plainFor_of_name pn_com_example_meticulous_attestor_meticulousattestor_model_WalletInstanceIsHardwareKeyTagPinLaw) (fun m => ef_c_ishi m c0) O ?_
  intro p e s m below meth c T0 hx hby hml hret hlk hnm hsh H0
  have zs : s.heap.size = h0.size := by rw [hsh]
  refine Rn.pu (T' := T0) (g' := (mkF m 1 #[.val (.int c0)] [(.int c0)])) ?_ fun _ zk => XS.iloadN H0.here hx rfl (hb hby d_m3_0) rfl zk
  refine Rn.pu (g' := (mkF m 3 #[.val (.int c0)] [(.int (55296 : Int32)), (.int c0)])) ?_ (H0.ldcI (hw _ (List.mem_of_getElem? (i := 0) rfl)) (g := (mkF m 1 #[.val (.int c0)] [(.int c0)])) rfl (hb hby d_m3_1))
  by_cases b3_1 : c0 < (55296 : Int32)
  ·
    refine Rn.pu (T' := T0) (g' := (mkF m 16 #[.val (.int c0)] [])) ?_ fun _ zk => XS.icmpYes H0.here hx rfl (pc0 := 3) (pc' := 16) rfl (hb hby d_m3_3) rfl (c_lt_t b3_1) (by decide) (by decide) zk
    refine Rn.pu (T' := T0) (g' := (mkF m 17 #[.val (.int c0)] [(.int (0 : Int32))])) ?_ fun _ zk => XS.iconst H0.here hx rfl (hb hby d_m3_16) zk
    exact H0.retS ends_N hlk (t := .boolean) hret (by simp) (hb hby d_m3_17) (by decide) (by decide) (fun _ q => nomatch q) ⟨by rw [own_hi, if_pos b3_1]; rfl, rfl⟩
  ·
    refine Rn.pu (T' := T0) (g' := (mkF m 6 #[.val (.int c0)] [])) ?_ fun _ zk => XS.icmpNo H0.here hx rfl (hb hby d_m3_3) rfl (c_lt_f b3_1) zk
    refine Rn.pu (T' := T0) (g' := (mkF m 7 #[.val (.int c0)] [(.int c0)])) ?_ fun _ zk => XS.iloadN H0.here hx rfl (hb hby d_m3_6) rfl zk
    refine Rn.pu (g' := (mkF m 9 #[.val (.int c0)] [(.int (56319 : Int32)), (.int c0)])) ?_ (H0.ldcI (hw _ (List.mem_of_getElem? (i := 82) rfl)) (g := (mkF m 7 #[.val (.int c0)] [(.int c0)])) rfl (hb hby d_m3_7))
    by_cases b9_2 : (56319 : Int32) < c0
    ·
      refine Rn.pu (T' := T0) (g' := (mkF m 16 #[.val (.int c0)] [])) ?_ fun _ zk => XS.icmpYes H0.here hx rfl (pc0 := 9) (pc' := 16) rfl (hb hby d_m3_9) rfl (c_gt_t b9_2) (by decide) (by decide) zk
      refine Rn.pu (T' := T0) (g' := (mkF m 17 #[.val (.int c0)] [(.int (0 : Int32))])) ?_ fun _ zk => XS.iconst H0.here hx rfl (hb hby d_m3_16) zk
      exact H0.retS ends_N hlk (t := .boolean) hret (by simp) (hb hby d_m3_17) (by decide) (by decide) (fun _ q => nomatch q) ⟨by rw [own_hi, if_neg b3_1, if_pos b9_2]; rfl, rfl⟩
    ·
      refine Rn.pu (T' := T0) (g' := (mkF m 12 #[.val (.int c0)] [])) ?_ fun _ zk => XS.icmpNo H0.here hx rfl (hb hby d_m3_9) rfl (c_gt_f b9_2) zk
      refine Rn.pu (T' := T0) (g' := (mkF m 13 #[.val (.int c0)] [(.int (1 : Int32))])) ?_ fun _ zk => XS.iconst H0.here hx rfl (hb hby d_m3_12) zk
      refine Rn.pu (T' := T0) (g' := (mkF m 17 #[.val (.int c0)] [(.int (1 : Int32))])) ?_ fun _ zk => XS.goto H0.here hx rfl (pc0 := 13) (pc' := 17) rfl (hb hby d_m3_13) (by decide) (by decide) zk
      exact H0.retS ends_N hlk (t := .boolean) hret (by simp) (hb hby d_m3_17) (by decide) (by decide) (fun _ q => nomatch q) ⟨by rw [own_hi, if_neg b3_1, if_neg b9_2]; rfl, rfl⟩
set_option maxRecDepth 65536 in
set_option maxHeartbeats 40000000 in
theorem c_islo (l : Launch) {Z : State} {a0 : Array Value} {zc : Int32} (B : Base Z a0 zc) (c0 : Int32) (h0 : Heap) (O : Ext Z.heap h0) :
    MetN l Z (⟨"com/example/meticulous_attestor/meticulousattestor/model/WalletInstanceIsHardwareKeyTagPinLaw", "isLow", "(C)Z"⟩ : MethodName) method_4_code 1 (some .boolean) [] ({ frames := 0, cells := 0, slots := 0, locals := 0 } : Room) #[(.int c0)] h0 [] (fun v h => v = some (.int (own_lo c0)) ∧ h0 = h) := by
  obtain ⟨hw, SC0, hz0, SU2, SU3, SU4, hh7, hcw⟩ := B
  refine MetN.mk (plainFor_of_name pn_com_example_meticulous_attestor_meticulousattestor_model_WalletInstanceIsHardwareKeyTagPinLaw) (fun m => ef_c_islo m c0) O ?_
  intro p e s m below meth c T0 hx hby hml hret hlk hnm hsh H0
  have zs : s.heap.size = h0.size := by rw [hsh]
  refine Rn.pu (T' := T0) (g' := (mkF m 1 #[.val (.int c0)] [(.int c0)])) ?_ fun _ zk => XS.iloadN H0.here hx rfl (hb hby d_m4_0) rfl zk
  refine Rn.pu (g' := (mkF m 3 #[.val (.int c0)] [(.int (56320 : Int32)), (.int c0)])) ?_ (H0.ldcI (hw _ (List.mem_of_getElem? (i := 6) rfl)) (g := (mkF m 1 #[.val (.int c0)] [(.int c0)])) rfl (hb hby d_m4_1))
  by_cases b3_1 : c0 < (56320 : Int32)
  ·
    refine Rn.pu (T' := T0) (g' := (mkF m 16 #[.val (.int c0)] [])) ?_ fun _ zk => XS.icmpYes H0.here hx rfl (pc0 := 3) (pc' := 16) rfl (hb hby d_m4_3) rfl (c_lt_t b3_1) (by decide) (by decide) zk
    refine Rn.pu (T' := T0) (g' := (mkF m 17 #[.val (.int c0)] [(.int (0 : Int32))])) ?_ fun _ zk => XS.iconst H0.here hx rfl (hb hby d_m4_16) zk
    exact H0.retS ends_N hlk (t := .boolean) hret (by simp) (hb hby d_m4_17) (by decide) (by decide) (fun _ q => nomatch q) ⟨by rw [own_lo, if_pos b3_1]; rfl, rfl⟩
  ·
    refine Rn.pu (T' := T0) (g' := (mkF m 6 #[.val (.int c0)] [])) ?_ fun _ zk => XS.icmpNo H0.here hx rfl (hb hby d_m4_3) rfl (c_lt_f b3_1) zk
    refine Rn.pu (T' := T0) (g' := (mkF m 7 #[.val (.int c0)] [(.int c0)])) ?_ fun _ zk => XS.iloadN H0.here hx rfl (hb hby d_m4_6) rfl zk
    refine Rn.pu (g' := (mkF m 9 #[.val (.int c0)] [(.int (57343 : Int32)), (.int c0)])) ?_ (H0.ldcI (hw _ (List.mem_of_getElem? (i := 120) rfl)) (g := (mkF m 7 #[.val (.int c0)] [(.int c0)])) rfl (hb hby d_m4_7))
    by_cases b9_2 : (57343 : Int32) < c0
    ·
      refine Rn.pu (T' := T0) (g' := (mkF m 16 #[.val (.int c0)] [])) ?_ fun _ zk => XS.icmpYes H0.here hx rfl (pc0 := 9) (pc' := 16) rfl (hb hby d_m4_9) rfl (c_gt_t b9_2) (by decide) (by decide) zk
      refine Rn.pu (T' := T0) (g' := (mkF m 17 #[.val (.int c0)] [(.int (0 : Int32))])) ?_ fun _ zk => XS.iconst H0.here hx rfl (hb hby d_m4_16) zk
      exact H0.retS ends_N hlk (t := .boolean) hret (by simp) (hb hby d_m4_17) (by decide) (by decide) (fun _ q => nomatch q) ⟨by rw [own_lo, if_neg b3_1, if_pos b9_2]; rfl, rfl⟩
    ·
      refine Rn.pu (T' := T0) (g' := (mkF m 12 #[.val (.int c0)] [])) ?_ fun _ zk => XS.icmpNo H0.here hx rfl (hb hby d_m4_9) rfl (c_gt_f b9_2) zk
      refine Rn.pu (T' := T0) (g' := (mkF m 13 #[.val (.int c0)] [(.int (1 : Int32))])) ?_ fun _ zk => XS.iconst H0.here hx rfl (hb hby d_m4_12) zk
      refine Rn.pu (T' := T0) (g' := (mkF m 17 #[.val (.int c0)] [(.int (1 : Int32))])) ?_ fun _ zk => XS.goto H0.here hx rfl (pc0 := 13) (pc' := 17) rfl (hb hby d_m4_13) (by decide) (by decide) zk
      exact H0.retS ends_N hlk (t := .boolean) hret (by simp) (hb hby d_m4_17) (by decide) (by decide) (fun _ q => nomatch q) ⟨by rw [own_lo, if_neg b3_1, if_neg b9_2]; rfl, rfl⟩
set_option maxRecDepth 65536 in
set_option maxHeartbeats 40000000 in
theorem c_chi (l : Launch) {Z : State} {a0 : Array Value} {zc : Int32} (B : Base Z a0 zc) (c0 : Int32) (h0 : Heap) (O : Ext Z.heap h0) :
    MetN l Z (⟨"java/lang/Character", "isHighSurrogate", "(C)Z"⟩ : MethodName) jdk_89_method_14_code 1 (some .boolean) [] ({ frames := 0, cells := 0, slots := 0, locals := 0 } : Room) #[(.int c0)] h0 [] (fun v h => v = some (.int (own_hi c0)) ∧ h0 = h) := by
  obtain ⟨hw, SC0, hz0, SU2, SU3, SU4, hh7, hcw⟩ := B
  refine MetN.mk (plainFor_of_name pn_java_lang_Character) (fun m => ef_c_chi m c0) O ?_
  intro p e s m below meth c T0 hx hby hml hret hlk hnm hsh H0
  have zs : s.heap.size = h0.size := by rw [hsh]
  refine Rn.pu (T' := T0) (g' := (mkF m 1 #[.val (.int c0)] [(.int c0)])) ?_ fun _ zk => XS.iloadN H0.here hx rfl (hb hby d_jdk_89_m14_0) rfl zk
  refine Rn.pu (g' := (mkF m 3 #[.val (.int c0)] [(.int (55296 : Int32)), (.int c0)])) ?_ (H0.ldcI (hw _ (List.mem_of_getElem? (i := 115) rfl)) (g := (mkF m 1 #[.val (.int c0)] [(.int c0)])) rfl (hb hby d_jdk_89_m14_1))
  by_cases b3_1 : c0 < (55296 : Int32)
  ·
    refine Rn.pu (T' := T0) (g' := (mkF m 16 #[.val (.int c0)] [])) ?_ fun _ zk => XS.icmpYes H0.here hx rfl (pc0 := 3) (pc' := 16) rfl (hb hby d_jdk_89_m14_3) rfl (c_lt_t b3_1) (by decide) (by decide) zk
    refine Rn.pu (T' := T0) (g' := (mkF m 17 #[.val (.int c0)] [(.int (0 : Int32))])) ?_ fun _ zk => XS.iconst H0.here hx rfl (hb hby d_jdk_89_m14_16) zk
    exact H0.retS ends_N hlk (t := .boolean) hret (by simp) (hb hby d_jdk_89_m14_17) (by decide) (by decide) (fun _ q => nomatch q) ⟨by rw [← own_hi_eq, own_hi', if_pos b3_1]; rfl, rfl⟩
  ·
    refine Rn.pu (T' := T0) (g' := (mkF m 6 #[.val (.int c0)] [])) ?_ fun _ zk => XS.icmpNo H0.here hx rfl (hb hby d_jdk_89_m14_3) rfl (c_lt_f b3_1) zk
    refine Rn.pu (T' := T0) (g' := (mkF m 7 #[.val (.int c0)] [(.int c0)])) ?_ fun _ zk => XS.iloadN H0.here hx rfl (hb hby d_jdk_89_m14_6) rfl zk
    refine Rn.pu (g' := (mkF m 9 #[.val (.int c0)] [(.int (56320 : Int32)), (.int c0)])) ?_ (H0.ldcI (hw _ (List.mem_of_getElem? (i := 116) rfl)) (g := (mkF m 7 #[.val (.int c0)] [(.int c0)])) rfl (hb hby d_jdk_89_m14_7))
    by_cases b9_2 : c0 < (56320 : Int32)
    ·
      refine Rn.pu (T' := T0) (g' := (mkF m 12 #[.val (.int c0)] [])) ?_ fun _ zk => XS.icmpNo H0.here hx rfl (hb hby d_jdk_89_m14_9) rfl (c_ge_f b9_2) zk
      refine Rn.pu (T' := T0) (g' := (mkF m 13 #[.val (.int c0)] [(.int (1 : Int32))])) ?_ fun _ zk => XS.iconst H0.here hx rfl (hb hby d_jdk_89_m14_12) zk
      refine Rn.pu (T' := T0) (g' := (mkF m 17 #[.val (.int c0)] [(.int (1 : Int32))])) ?_ fun _ zk => XS.goto H0.here hx rfl (pc0 := 13) (pc' := 17) rfl (hb hby d_jdk_89_m14_13) (by decide) (by decide) zk
      exact H0.retS ends_N hlk (t := .boolean) hret (by simp) (hb hby d_jdk_89_m14_17) (by decide) (by decide) (fun _ q => nomatch q) ⟨by rw [← own_hi_eq, own_hi', if_neg b3_1, if_pos b9_2]; rfl, rfl⟩
    ·
      refine Rn.pu (T' := T0) (g' := (mkF m 16 #[.val (.int c0)] [])) ?_ fun _ zk => XS.icmpYes H0.here hx rfl (pc0 := 9) (pc' := 16) rfl (hb hby d_jdk_89_m14_9) rfl (c_ge_t b9_2) (by decide) (by decide) zk
      refine Rn.pu (T' := T0) (g' := (mkF m 17 #[.val (.int c0)] [(.int (0 : Int32))])) ?_ fun _ zk => XS.iconst H0.here hx rfl (hb hby d_jdk_89_m14_16) zk
      exact H0.retS ends_N hlk (t := .boolean) hret (by simp) (hb hby d_jdk_89_m14_17) (by decide) (by decide) (fun _ q => nomatch q) ⟨by rw [← own_hi_eq, own_hi', if_neg b3_1, if_neg b9_2]; rfl, rfl⟩
set_option maxRecDepth 65536 in
set_option maxHeartbeats 40000000 in
theorem c_clo (l : Launch) {Z : State} {a0 : Array Value} {zc : Int32} (B : Base Z a0 zc) (c0 : Int32) (h0 : Heap) (O : Ext Z.heap h0) :
    MetN l Z (⟨"java/lang/Character", "isLowSurrogate", "(C)Z"⟩ : MethodName) jdk_89_method_15_code 1 (some .boolean) [] ({ frames := 0, cells := 0, slots := 0, locals := 0 } : Room) #[(.int c0)] h0 [] (fun v h => v = some (.int (own_lo c0)) ∧ h0 = h) := by
  obtain ⟨hw, SC0, hz0, SU2, SU3, SU4, hh7, hcw⟩ := B
  refine MetN.mk (plainFor_of_name pn_java_lang_Character) (fun m => ef_c_clo m c0) O ?_
  intro p e s m below meth c T0 hx hby hml hret hlk hnm hsh H0
  have zs : s.heap.size = h0.size := by rw [hsh]
  refine Rn.pu (T' := T0) (g' := (mkF m 1 #[.val (.int c0)] [(.int c0)])) ?_ fun _ zk => XS.iloadN H0.here hx rfl (hb hby d_jdk_89_m15_0) rfl zk
  refine Rn.pu (g' := (mkF m 3 #[.val (.int c0)] [(.int (56320 : Int32)), (.int c0)])) ?_ (H0.ldcI (hw _ (List.mem_of_getElem? (i := 116) rfl)) (g := (mkF m 1 #[.val (.int c0)] [(.int c0)])) rfl (hb hby d_jdk_89_m15_1))
  by_cases b3_1 : c0 < (56320 : Int32)
  ·
    refine Rn.pu (T' := T0) (g' := (mkF m 16 #[.val (.int c0)] [])) ?_ fun _ zk => XS.icmpYes H0.here hx rfl (pc0 := 3) (pc' := 16) rfl (hb hby d_jdk_89_m15_3) rfl (c_lt_t b3_1) (by decide) (by decide) zk
    refine Rn.pu (T' := T0) (g' := (mkF m 17 #[.val (.int c0)] [(.int (0 : Int32))])) ?_ fun _ zk => XS.iconst H0.here hx rfl (hb hby d_jdk_89_m15_16) zk
    exact H0.retS ends_N hlk (t := .boolean) hret (by simp) (hb hby d_jdk_89_m15_17) (by decide) (by decide) (fun _ q => nomatch q) ⟨by rw [← own_lo_eq, own_lo', if_pos b3_1]; rfl, rfl⟩
  ·
    refine Rn.pu (T' := T0) (g' := (mkF m 6 #[.val (.int c0)] [])) ?_ fun _ zk => XS.icmpNo H0.here hx rfl (hb hby d_jdk_89_m15_3) rfl (c_lt_f b3_1) zk
    refine Rn.pu (T' := T0) (g' := (mkF m 7 #[.val (.int c0)] [(.int c0)])) ?_ fun _ zk => XS.iloadN H0.here hx rfl (hb hby d_jdk_89_m15_6) rfl zk
    refine Rn.pu (g' := (mkF m 9 #[.val (.int c0)] [(.int (57344 : Int32)), (.int c0)])) ?_ (H0.ldcI (hw _ (List.mem_of_getElem? (i := 121) rfl)) (g := (mkF m 7 #[.val (.int c0)] [(.int c0)])) rfl (hb hby d_jdk_89_m15_7))
    by_cases b9_2 : c0 < (57344 : Int32)
    ·
      refine Rn.pu (T' := T0) (g' := (mkF m 12 #[.val (.int c0)] [])) ?_ fun _ zk => XS.icmpNo H0.here hx rfl (hb hby d_jdk_89_m15_9) rfl (c_ge_f b9_2) zk
      refine Rn.pu (T' := T0) (g' := (mkF m 13 #[.val (.int c0)] [(.int (1 : Int32))])) ?_ fun _ zk => XS.iconst H0.here hx rfl (hb hby d_jdk_89_m15_12) zk
      refine Rn.pu (T' := T0) (g' := (mkF m 17 #[.val (.int c0)] [(.int (1 : Int32))])) ?_ fun _ zk => XS.goto H0.here hx rfl (pc0 := 13) (pc' := 17) rfl (hb hby d_jdk_89_m15_13) (by decide) (by decide) zk
      exact H0.retS ends_N hlk (t := .boolean) hret (by simp) (hb hby d_jdk_89_m15_17) (by decide) (by decide) (fun _ q => nomatch q) ⟨by rw [← own_lo_eq, own_lo', if_neg b3_1, if_pos b9_2]; rfl, rfl⟩
    ·
      refine Rn.pu (T' := T0) (g' := (mkF m 16 #[.val (.int c0)] [])) ?_ fun _ zk => XS.icmpYes H0.here hx rfl (pc0 := 9) (pc' := 16) rfl (hb hby d_jdk_89_m15_9) rfl (c_ge_t b9_2) (by decide) (by decide) zk
      refine Rn.pu (T' := T0) (g' := (mkF m 17 #[.val (.int c0)] [(.int (0 : Int32))])) ?_ fun _ zk => XS.iconst H0.here hx rfl (hb hby d_jdk_89_m15_16) zk
      exact H0.retS ends_N hlk (t := .boolean) hret (by simp) (hb hby d_jdk_89_m15_17) (by decide) (by decide) (fun _ q => nomatch q) ⟨by rw [← own_lo_eq, own_lo', if_neg b3_1, if_neg b9_2]; rfl, rfl⟩
set_option maxRecDepth 65536 in
set_option maxHeartbeats 40000000 in
theorem c_put (l : Launch) {Z : State} {a0 : Array Value} {zc : Int32} (B : Base Z a0 zc) (d : Addr) (ch : Int32) (kB : ClassId) (vs : List Value) (i n : Nat) (h0 : Heap) (O : Ext Z.heap h0) (hi : i < n) (hn : n ≤ 511) (AD : Arv Z h0 d kB .byte (Int32.ofNat (2 * n)) vs (.int 0)) (hv : vs.length = 2 * i) (gd : Z.heap.size ≤ d) :
    MetN l Z (⟨"java/lang/StringUTF16", "putChar", "([BII)V"⟩ : MethodName) jdk_52_method_4_code 3 none [] ({ frames := 0, cells := 0, slots := 0, locals := 0 } : Room) #[(.ref d), (.int (Int32.ofNat i)), (.int ch)] h0 [d] (fun v h => v = none ∧ Arv Z h d kB .byte (Int32.ofNat (2 * n)) (vs ++ [.int (StrChars.lo8 ch), .int (StrChars.hi8 ch)]) (.int 0)) := by
  obtain ⟨hw, SC0, hz0, SU2, SU3, SU4, hh7, hcw⟩ := B
  refine MetN.mk (plainFor_of_name pn_java_lang_StringUTF16) (fun m => ef_c_put m d (Int32.ofNat i) ch) O ?_
  intro p e s m below meth c T0 hx hby hml hret hlk hnm hsh H0
  have zs : s.heap.size = h0.size := by rw [hsh]
  have ld := natlt (AD).lt
  have H0 := H0.weak (ws' := [d]) (fun _ q => nomatch q) (allS gd all0)
  obtain ⟨T1, H1, st1⟩ := H0.getS (host := "") (Or.inl (hw _ (List.mem_of_getElem? (i := 99) rfl))) Via.refl (SU2.ext H0.old) (g := (mkF m 0 #[.val (.ref d), .val (.int (Int32.ofNat i)), .val (.int ch)] [])) rfl (hb hby d_jdk_52_m4_0)
  refine Rn.pu (g' := (mkF m 3 #[.val (.ref d), .val (.int (Int32.ofNat i)), .val (.int ch)] [(.int (1 : Int32))])) ?_ st1
  refine Rn.pu (T' := T1) (g' := (mkF m 28 #[.val (.ref d), .val (.int (Int32.ofNat i)), .val (.int ch)] [])) ?_ fun _ zk => XS.ifYes H1.here hx rfl (pc0 := 3) (pc' := 28) rfl (hb hby d_jdk_52_m4_3) rfl (z_ne_t (by decide)) (by decide) (by decide) zk
  refine Rn.pu (T' := T1) (g' := (mkF m 29 #[.val (.ref d), .val (.int (Int32.ofNat i)), .val (.int ch)] [(.int (Int32.ofNat i))])) ?_ fun _ zk => XS.iloadN H1.here hx rfl (hb hby d_jdk_52_m4_28) rfl zk
  refine Rn.pu (T' := T1) (g' := (mkF m 30 #[.val (.ref d), .val (.int (Int32.ofNat i)), .val (.int ch)] [(.int (1 : Int32)), (.int (Int32.ofNat i))])) ?_ fun _ zk => XS.iconst H1.here hx rfl (hb hby d_jdk_52_m4_29) zk
  refine Rn.pu (T' := T1) (g' := (mkF m 31 #[.val (.ref d), .val (.int (Int32.ofNat i)), .val (.int ch)] [(.int ((Int32.ofNat i) <<< ((1 : Int32) &&& 31)))])) ?_ fun _ zk => XT.ishl H1.here hx rfl (hb hby d_jdk_52_m4_30) rfl zk
  refine Rn.pu (T' := T1) (g' := (mkF m 32 #[.val (.ref d), .val (.int ((Int32.ofNat i) <<< ((1 : Int32) &&& 31))), .val (.int ch)] [])) ?_ fun _ zk => XS.istoreN H1.here hx rfl (hb hby d_jdk_52_m4_31) rfl (l' := #[.val (.ref d), .val (.int ((Int32.ofNat i) <<< ((1 : Int32) &&& 31))), .val (.int ch)]) rfl zk
  rw [u_shl (by omega : i ≤ 511)]
  refine Rn.pu (T' := T1) (g' := (mkF m 33 #[.val (.ref d), .val (.int (Int32.ofNat (2 * i))), .val (.int ch)] [(.ref d)])) ?_ fun _ zk => XS.aloadN H1.here hx rfl (hb hby d_jdk_52_m4_32) rfl rfl zk
  refine Rn.pu (T' := T1) (g' := (mkF m 34 #[.val (.ref d), .val (.int (Int32.ofNat (2 * i))), .val (.int ch)] [(.int (Int32.ofNat (2 * i))), (.ref d)])) ?_ fun _ zk => XS.iloadN H1.here hx rfl (hb hby d_jdk_52_m4_33) rfl zk
  refine Rn.pu (T' := T1) (g' := (mkF m 37 #[.val (.ref d), .val (.int ((Int32.ofNat (2 * i)) + (1 : Int32))), .val (.int ch)] [(.int (Int32.ofNat (2 * i))), (.ref d)])) ?_ fun _ zk => XS.iinc H1.here hx rfl (hb hby d_jdk_52_m4_34) rfl (l' := #[.val (.ref d), .val (.int ((Int32.ofNat (2 * i)) + (1 : Int32))), .val (.int ch)]) rfl zk
  rw [u_succ]
  refine Rn.pu (T' := T1) (g' := (mkF m 38 #[.val (.ref d), .val (.int (Int32.ofNat (2 * i + 1))), .val (.int ch)] [(.int ch), (.int (Int32.ofNat (2 * i))), (.ref d)])) ?_ fun _ zk => XS.iloadN H1.here hx rfl (hb hby d_jdk_52_m4_37) rfl zk
  obtain ⟨T2, H2, st2⟩ := H1.getS (host := "") (Or.inl (hw _ (List.mem_of_getElem? (i := 100) rfl))) Via.refl (SU3.ext H1.old) (g := (mkF m 38 #[.val (.ref d), .val (.int (Int32.ofNat (2 * i + 1))), .val (.int ch)] [(.int ch), (.int (Int32.ofNat (2 * i))), (.ref d)])) rfl (hb hby d_jdk_52_m4_38)
  refine Rn.pu (g' := (mkF m 41 #[.val (.ref d), .val (.int (Int32.ofNat (2 * i + 1))), .val (.int ch)] [(.int (0 : Int32)), (.int ch), (.int (Int32.ofNat (2 * i))), (.ref d)])) ?_ st2
  refine Rn.pu (T' := T2) (g' := (mkF m 42 #[.val (.ref d), .val (.int (Int32.ofNat (2 * i + 1))), .val (.int ch)] [(.int (ch >>> ((0 : Int32) &&& 31))), (.int (Int32.ofNat (2 * i))), (.ref d)])) ?_ fun _ zk => XT.ishr H2.here hx rfl (hb hby d_jdk_52_m4_41) rfl zk
  refine Rn.pu (T' := T2) (g' := (mkF m 43 #[.val (.ref d), .val (.int (Int32.ofNat (2 * i + 1))), .val (.int ch)] [(.int (nar .byte (ch >>> ((0 : Int32) &&& 31)))), (.int (Int32.ofNat (2 * i))), (.ref d)])) ?_ fun _ zk => XT.i2b H2.here hx rfl (hb hby d_jdk_52_m4_42) rfl zk
  obtain ⟨T3, h3, H3, K3, A3, st3⟩ := H2.stB AD ⟨u_nn (by omega), u_lt (by omega) (by omega)⟩ (by rw [u_cl (by omega)]; omega) (Or.inl (List.mem_singleton.mpr rfl)) (g := (mkF m 43 #[.val (.ref d), .val (.int (Int32.ofNat (2 * i + 1))), .val (.int ch)] [(.int (nar .byte (ch >>> ((0 : Int32) &&& 31)))), (.int (Int32.ofNat (2 * i))), (.ref d)])) rfl rfl (hb hby d_jdk_52_m4_43)
  have zh3 := K3.1
  refine Rn.pu (g' := (mkF m 44 #[.val (.ref d), .val (.int (Int32.ofNat (2 * i + 1))), .val (.int ch)] [])) ?_ st3
  refine Rn.pu (T' := T3) (g' := (mkF m 45 #[.val (.ref d), .val (.int (Int32.ofNat (2 * i + 1))), .val (.int ch)] [(.ref d)])) ?_ fun _ zk => XS.aloadN H3.here hx rfl (hb hby d_jdk_52_m4_44) rfl rfl zk
  refine Rn.pu (T' := T3) (g' := (mkF m 46 #[.val (.ref d), .val (.int (Int32.ofNat (2 * i + 1))), .val (.int ch)] [(.int (Int32.ofNat (2 * i + 1))), (.ref d)])) ?_ fun _ zk => XS.iloadN H3.here hx rfl (hb hby d_jdk_52_m4_45) rfl zk
  refine Rn.pu (T' := T3) (g' := (mkF m 47 #[.val (.ref d), .val (.int (Int32.ofNat (2 * i + 1))), .val (.int ch)] [(.int ch), (.int (Int32.ofNat (2 * i + 1))), (.ref d)])) ?_ fun _ zk => XS.iloadN H3.here hx rfl (hb hby d_jdk_52_m4_46) rfl zk
  obtain ⟨T4, H4, st4⟩ := H3.getS (host := "") (Or.inl (hw _ (List.mem_of_getElem? (i := 101) rfl))) Via.refl (SU4.ext H3.old) (g := (mkF m 47 #[.val (.ref d), .val (.int (Int32.ofNat (2 * i + 1))), .val (.int ch)] [(.int ch), (.int (Int32.ofNat (2 * i + 1))), (.ref d)])) rfl (hb hby d_jdk_52_m4_47)
  refine Rn.pu (g' := (mkF m 50 #[.val (.ref d), .val (.int (Int32.ofNat (2 * i + 1))), .val (.int ch)] [(.int (8 : Int32)), (.int ch), (.int (Int32.ofNat (2 * i + 1))), (.ref d)])) ?_ st4
  refine Rn.pu (T' := T4) (g' := (mkF m 51 #[.val (.ref d), .val (.int (Int32.ofNat (2 * i + 1))), .val (.int ch)] [(.int (ch >>> ((8 : Int32) &&& 31))), (.int (Int32.ofNat (2 * i + 1))), (.ref d)])) ?_ fun _ zk => XT.ishr H4.here hx rfl (hb hby d_jdk_52_m4_50) rfl zk
  refine Rn.pu (T' := T4) (g' := (mkF m 52 #[.val (.ref d), .val (.int (Int32.ofNat (2 * i + 1))), .val (.int ch)] [(.int (nar .byte (ch >>> ((8 : Int32) &&& 31)))), (.int (Int32.ofNat (2 * i + 1))), (.ref d)])) ?_ fun _ zk => XT.i2b H4.here hx rfl (hb hby d_jdk_52_m4_51) rfl zk
  obtain ⟨T5, h5, H5, K5, A5, st5⟩ := H4.stB A3 ⟨u_nn (by omega), u_lt (by omega) (by omega)⟩ (by rw [u_cl (by omega), List.length_append, hv]; rfl) (Or.inl (List.mem_singleton.mpr rfl)) (g := (mkF m 52 #[.val (.ref d), .val (.int (Int32.ofNat (2 * i + 1))), .val (.int ch)] [(.int (nar .byte (ch >>> ((8 : Int32) &&& 31)))), (.int (Int32.ofNat (2 * i + 1))), (.ref d)])) rfl rfl (hb hby d_jdk_52_m4_52)
  have zh5 := K5.1
  refine Rn.pu (g' := (mkF m 53 #[.val (.ref d), .val (.int (Int32.ofNat (2 * i + 1))), .val (.int ch)] [])) ?_ st5
  exact H5.retV ends_N hlk hret (hb hby d_jdk_52_m4_53) (by decide) (by decide) (fun _ q => q) ⟨rfl, (u_put vs ch) ▸ A5⟩
set_option maxRecDepth 65536 in
set_option maxHeartbeats 40000000 in
theorem c_getc (l : Launch) {Z : State} {a0 : Array Value} {zc : Int32} (B : Base Z a0 zc) (d : Addr) (kB : ClassId) (cs : List Int32) (i : Nat) (h0 : Heap) (O : Ext Z.heap h0) (hi : i < cs.length) (hn : cs.length ≤ 511) (hc : ∀ c ∈ cs, ¬ c < 0 ∧ ¬ (65535 : Int32) < c) (AD : Arv Z h0 d kB .byte (Int32.ofNat (2 * cs.length)) (StrChars.Road.wideBytes cs) (.int 0)) :
    MetN l Z (⟨"java/lang/StringUTF16", "getChar", "([BI)C"⟩ : MethodName) jdk_52_method_5_code 2 (some .char) [] ({ frames := 0, cells := 0, slots := 0, locals := 0 } : Room) #[(.ref d), (.int (Int32.ofNat i))] h0 [] (fun v h => v = some (.int (cs.getD i 0)) ∧ h0 = h) := by
  obtain ⟨hw, SC0, hz0, SU2, SU3, SU4, hh7, hcw⟩ := B
  refine MetN.mk (plainFor_of_name pn_java_lang_StringUTF16) (fun m => ef_c_getc m d (Int32.ofNat i)) O ?_
  intro p e s m below meth c T0 hx hby hml hret hlk hnm hsh H0
  have zs : s.heap.size = h0.size := by rw [hsh]
  obtain ⟨T1, H1, st1⟩ := H0.getS (host := "") (Or.inl (hw _ (List.mem_of_getElem? (i := 99) rfl))) Via.refl (SU2.ext H0.old) (g := (mkF m 0 #[.val (.ref d), .val (.int (Int32.ofNat i))] [])) rfl (hb hby d_jdk_52_m5_0)
  refine Rn.pu (g' := (mkF m 3 #[.val (.ref d), .val (.int (Int32.ofNat i))] [(.int (1 : Int32))])) ?_ st1
  refine Rn.pu (T' := T1) (g' := (mkF m 28 #[.val (.ref d), .val (.int (Int32.ofNat i))] [])) ?_ fun _ zk => XS.ifYes H1.here hx rfl (pc0 := 3) (pc' := 28) rfl (hb hby d_jdk_52_m5_3) rfl (z_ne_t (by decide)) (by decide) (by decide) zk
  refine Rn.pu (T' := T1) (g' := (mkF m 29 #[.val (.ref d), .val (.int (Int32.ofNat i))] [(.int (Int32.ofNat i))])) ?_ fun _ zk => XS.iloadN H1.here hx rfl (hb hby d_jdk_52_m5_28) rfl zk
  refine Rn.pu (T' := T1) (g' := (mkF m 30 #[.val (.ref d), .val (.int (Int32.ofNat i))] [(.int (1 : Int32)), (.int (Int32.ofNat i))])) ?_ fun _ zk => XS.iconst H1.here hx rfl (hb hby d_jdk_52_m5_29) zk
  refine Rn.pu (T' := T1) (g' := (mkF m 31 #[.val (.ref d), .val (.int (Int32.ofNat i))] [(.int ((Int32.ofNat i) <<< ((1 : Int32) &&& 31)))])) ?_ fun _ zk => XT.ishl H1.here hx rfl (hb hby d_jdk_52_m5_30) rfl zk
  refine Rn.pu (T' := T1) (g' := (mkF m 32 #[.val (.ref d), .val (.int ((Int32.ofNat i) <<< ((1 : Int32) &&& 31)))] [])) ?_ fun _ zk => XS.istoreN H1.here hx rfl (hb hby d_jdk_52_m5_31) rfl (l' := #[.val (.ref d), .val (.int ((Int32.ofNat i) <<< ((1 : Int32) &&& 31)))]) rfl zk
  rw [u_shl (by omega : i ≤ 511)]
  refine Rn.pu (T' := T1) (g' := (mkF m 33 #[.val (.ref d), .val (.int (Int32.ofNat (2 * i)))] [(.ref d)])) ?_ fun _ zk => XS.aloadN H1.here hx rfl (hb hby d_jdk_52_m5_32) rfl rfl zk
  refine Rn.pu (T' := T1) (g' := (mkF m 34 #[.val (.ref d), .val (.int (Int32.ofNat (2 * i)))] [(.int (Int32.ofNat (2 * i))), (.ref d)])) ?_ fun _ zk => XS.iloadN H1.here hx rfl (hb hby d_jdk_52_m5_33) rfl zk
  refine Rn.pu (T' := T1) (g' := (mkF m 37 #[.val (.ref d), .val (.int ((Int32.ofNat (2 * i)) + (1 : Int32)))] [(.int (Int32.ofNat (2 * i))), (.ref d)])) ?_ fun _ zk => XS.iinc H1.here hx rfl (hb hby d_jdk_52_m5_34) rfl (l' := #[.val (.ref d), .val (.int ((Int32.ofNat (2 * i)) + (1 : Int32)))]) rfl zk
  rw [u_succ]
  refine Rn.pu (g' := (mkF m 38 #[.val (.ref d), .val (.int (Int32.ofNat (2 * i + 1)))] [(.int (StrChars.lo8 (cs.getD i 0)))])) ?_ (H1.bald AD ⟨u_nn (by omega), u_lt (by omega) (by omega)⟩ (v := .int (StrChars.lo8 (cs.getD i 0))) (by rw [u_cl (by omega)]; exact StrChars.Road.wide_lo _ cs i hi) (g := (mkF m 37 #[.val (.ref d), .val (.int (Int32.ofNat (2 * i + 1)))] [(.int (Int32.ofNat (2 * i))), (.ref d)])) rfl rfl (hb hby d_jdk_52_m5_37))
  refine Rn.pu (T' := T1) (g' := (mkF m 41 #[.val (.ref d), .val (.int (Int32.ofNat (2 * i + 1)))] [(.int (255 : Int32)), (.int (StrChars.lo8 (cs.getD i 0)))])) ?_ fun _ zk => XS.sipush H1.here hx rfl (hb hby d_jdk_52_m5_38) zk
  refine Rn.pu (T' := T1) (g' := (mkF m 42 #[.val (.ref d), .val (.int (Int32.ofNat (2 * i + 1)))] [(.int ((StrChars.lo8 (cs.getD i 0)) &&& (255 : Int32)))])) ?_ fun _ zk => XS.iand H1.here hx rfl (hb hby d_jdk_52_m5_41) rfl zk
  obtain ⟨T2, H2, st2⟩ := H1.getS (host := "") (Or.inl (hw _ (List.mem_of_getElem? (i := 100) rfl))) Via.refl (SU3.ext H1.old) (g := (mkF m 42 #[.val (.ref d), .val (.int (Int32.ofNat (2 * i + 1)))] [(.int ((StrChars.lo8 (cs.getD i 0)) &&& (255 : Int32)))])) rfl (hb hby d_jdk_52_m5_42)
  refine Rn.pu (g' := (mkF m 45 #[.val (.ref d), .val (.int (Int32.ofNat (2 * i + 1)))] [(.int (0 : Int32)), (.int ((StrChars.lo8 (cs.getD i 0)) &&& (255 : Int32)))])) ?_ st2
  refine Rn.pu (T' := T2) (g' := (mkF m 46 #[.val (.ref d), .val (.int (Int32.ofNat (2 * i + 1)))] [(.int (((StrChars.lo8 (cs.getD i 0)) &&& (255 : Int32)) <<< ((0 : Int32) &&& 31)))])) ?_ fun _ zk => XT.ishl H2.here hx rfl (hb hby d_jdk_52_m5_45) rfl zk
  refine Rn.pu (T' := T2) (g' := (mkF m 47 #[.val (.ref d), .val (.int (Int32.ofNat (2 * i + 1)))] [(.ref d), (.int (((StrChars.lo8 (cs.getD i 0)) &&& (255 : Int32)) <<< ((0 : Int32) &&& 31)))])) ?_ fun _ zk => XS.aloadN H2.here hx rfl (hb hby d_jdk_52_m5_46) rfl rfl zk
  refine Rn.pu (T' := T2) (g' := (mkF m 48 #[.val (.ref d), .val (.int (Int32.ofNat (2 * i + 1)))] [(.int (Int32.ofNat (2 * i + 1))), (.ref d), (.int (((StrChars.lo8 (cs.getD i 0)) &&& (255 : Int32)) <<< ((0 : Int32) &&& 31)))])) ?_ fun _ zk => XS.iloadN H2.here hx rfl (hb hby d_jdk_52_m5_47) rfl zk
  refine Rn.pu (g' := (mkF m 49 #[.val (.ref d), .val (.int (Int32.ofNat (2 * i + 1)))] [(.int (StrChars.hi8 (cs.getD i 0))), (.int (((StrChars.lo8 (cs.getD i 0)) &&& (255 : Int32)) <<< ((0 : Int32) &&& 31)))])) ?_ (H2.bald AD ⟨u_nn (by omega), u_lt (by omega) (by omega)⟩ (v := .int (StrChars.hi8 (cs.getD i 0))) (by rw [u_cl (by omega)]; exact StrChars.Road.wide_hi _ cs i hi) (g := (mkF m 48 #[.val (.ref d), .val (.int (Int32.ofNat (2 * i + 1)))] [(.int (Int32.ofNat (2 * i + 1))), (.ref d), (.int (((StrChars.lo8 (cs.getD i 0)) &&& (255 : Int32)) <<< ((0 : Int32) &&& 31)))])) rfl rfl (hb hby d_jdk_52_m5_48))
  refine Rn.pu (T' := T2) (g' := (mkF m 52 #[.val (.ref d), .val (.int (Int32.ofNat (2 * i + 1)))] [(.int (255 : Int32)), (.int (StrChars.hi8 (cs.getD i 0))), (.int (((StrChars.lo8 (cs.getD i 0)) &&& (255 : Int32)) <<< ((0 : Int32) &&& 31)))])) ?_ fun _ zk => XS.sipush H2.here hx rfl (hb hby d_jdk_52_m5_49) zk
  refine Rn.pu (T' := T2) (g' := (mkF m 53 #[.val (.ref d), .val (.int (Int32.ofNat (2 * i + 1)))] [(.int ((StrChars.hi8 (cs.getD i 0)) &&& (255 : Int32))), (.int (((StrChars.lo8 (cs.getD i 0)) &&& (255 : Int32)) <<< ((0 : Int32) &&& 31)))])) ?_ fun _ zk => XS.iand H2.here hx rfl (hb hby d_jdk_52_m5_52) rfl zk
  obtain ⟨T3, H3, st3⟩ := H2.getS (host := "") (Or.inl (hw _ (List.mem_of_getElem? (i := 101) rfl))) Via.refl (SU4.ext H2.old) (g := (mkF m 53 #[.val (.ref d), .val (.int (Int32.ofNat (2 * i + 1)))] [(.int ((StrChars.hi8 (cs.getD i 0)) &&& (255 : Int32))), (.int (((StrChars.lo8 (cs.getD i 0)) &&& (255 : Int32)) <<< ((0 : Int32) &&& 31)))])) rfl (hb hby d_jdk_52_m5_53)
  refine Rn.pu (g' := (mkF m 56 #[.val (.ref d), .val (.int (Int32.ofNat (2 * i + 1)))] [(.int (8 : Int32)), (.int ((StrChars.hi8 (cs.getD i 0)) &&& (255 : Int32))), (.int (((StrChars.lo8 (cs.getD i 0)) &&& (255 : Int32)) <<< ((0 : Int32) &&& 31)))])) ?_ st3
  refine Rn.pu (T' := T3) (g' := (mkF m 57 #[.val (.ref d), .val (.int (Int32.ofNat (2 * i + 1)))] [(.int (((StrChars.hi8 (cs.getD i 0)) &&& (255 : Int32)) <<< ((8 : Int32) &&& 31))), (.int (((StrChars.lo8 (cs.getD i 0)) &&& (255 : Int32)) <<< ((0 : Int32) &&& 31)))])) ?_ fun _ zk => XT.ishl H3.here hx rfl (hb hby d_jdk_52_m5_56) rfl zk
  refine Rn.pu (T' := T3) (g' := (mkF m 58 #[.val (.ref d), .val (.int (Int32.ofNat (2 * i + 1)))] [(.int ((((StrChars.lo8 (cs.getD i 0)) &&& (255 : Int32)) <<< ((0 : Int32) &&& 31)) ||| (((StrChars.hi8 (cs.getD i 0)) &&& (255 : Int32)) <<< ((8 : Int32) &&& 31))))])) ?_ fun _ zk => XT.ior H3.here hx rfl (hb hby d_jdk_52_m5_57) rfl zk
  refine Rn.pu (T' := T3) (g' := (mkF m 59 #[.val (.ref d), .val (.int (Int32.ofNat (2 * i + 1)))] [(.int (nar .char ((((StrChars.lo8 (cs.getD i 0)) &&& (255 : Int32)) <<< ((0 : Int32) &&& 31)) ||| (((StrChars.hi8 (cs.getD i 0)) &&& (255 : Int32)) <<< ((8 : Int32) &&& 31)))))])) ?_ fun _ zk => XT.i2c H3.here hx rfl (hb hby d_jdk_52_m5_58) rfl zk
  exact H3.retS ends_N hlk (t := .char) hret (by simp) (hb hby d_jdk_52_m5_59) (by decide) (by decide) (fun _ q => nomatch q) ⟨by rw [u_pair (u_mem hi hc)], rfl⟩
set_option maxRecDepth 65536 in
set_option maxHeartbeats 40000000 in
theorem c_nbl (l : Launch) {Z : State} {a0 : Array Value} {zc : Int32} (B : Base Z a0 zc) (cs : List Int32) (h0 : Heap) (O : Ext Z.heap h0) (hn : cs.length ≤ 511) :
    MetN l Z (⟨"java/lang/StringUTF16", "newBytesLength", "(I)I"⟩ : MethodName) jdk_52_method_3_code 1 (some .int) [] ({ frames := 0, cells := 0, slots := 0, locals := 0 } : Room) #[(.int (Int32.ofNat cs.length))] h0 [] (fun v h => v = some (.int (Int32.ofNat (2 * cs.length))) ∧ h0 = h) := by
  obtain ⟨hw, SC0, hz0, SU2, SU3, SU4, hh7, hcw⟩ := B
  refine MetN.mk (plainFor_of_name pn_java_lang_StringUTF16) (fun m => ef_c_nbl m (Int32.ofNat cs.length)) O ?_
  intro p e s m below meth c T0 hx hby hml hret hlk hnm hsh H0
  have zs : s.heap.size = h0.size := by rw [hsh]
  refine Rn.pu (T' := T0) (g' := (mkF m 1 #[.val (.int (Int32.ofNat cs.length))] [(.int (Int32.ofNat cs.length))])) ?_ fun _ zk => XS.iloadN H0.here hx rfl (hb hby d_jdk_52_m3_0) rfl zk
  refine Rn.pu (T' := T0) (g' := (mkF m 12 #[.val (.int (Int32.ofNat cs.length))] [])) ?_ fun _ zk => XS.ifYes H0.here hx rfl (pc0 := 1) (pc' := 12) rfl (hb hby d_jdk_52_m3_1) rfl (z_ge_t (u_nn (by omega))) (by decide) (by decide) zk
  refine Rn.pu (T' := T0) (g' := (mkF m 13 #[.val (.int (Int32.ofNat cs.length))] [(.int (Int32.ofNat cs.length))])) ?_ fun _ zk => XS.iloadN H0.here hx rfl (hb hby d_jdk_52_m3_12) rfl zk
  refine Rn.pu (g' := (mkF m 15 #[.val (.int (Int32.ofNat cs.length))] [(.int (1073741823 : Int32)), (.int (Int32.ofNat cs.length))])) ?_ (H0.ldcI (hw _ (List.mem_of_getElem? (i := 95) rfl)) (g := (mkF m 13 #[.val (.int (Int32.ofNat cs.length))] [(.int (Int32.ofNat cs.length))])) rfl (hb hby d_jdk_52_m3_13))
  refine Rn.pu (T' := T0) (g' := (mkF m 55 #[.val (.int (Int32.ofNat cs.length))] [])) ?_ fun _ zk => XS.icmpYes H0.here hx rfl (pc0 := 15) (pc' := 55) rfl (hb hby d_jdk_52_m3_15) rfl (c_lt_t (u_big hn)) (by decide) (by decide) zk
  refine Rn.pu (T' := T0) (g' := (mkF m 56 #[.val (.int (Int32.ofNat cs.length))] [(.int (Int32.ofNat cs.length))])) ?_ fun _ zk => XS.iloadN H0.here hx rfl (hb hby d_jdk_52_m3_55) rfl zk
  refine Rn.pu (T' := T0) (g' := (mkF m 57 #[.val (.int (Int32.ofNat cs.length))] [(.int (1 : Int32)), (.int (Int32.ofNat cs.length))])) ?_ fun _ zk => XS.iconst H0.here hx rfl (hb hby d_jdk_52_m3_56) zk
  refine Rn.pu (T' := T0) (g' := (mkF m 58 #[.val (.int (Int32.ofNat cs.length))] [(.int ((Int32.ofNat cs.length) <<< ((1 : Int32) &&& 31)))])) ?_ fun _ zk => XT.ishl H0.here hx rfl (hb hby d_jdk_52_m3_57) rfl zk
  exact H0.retI ends_N hlk hret (hb hby d_jdk_52_m3_58) (by decide) (by decide) (fun _ q => nomatch q) ⟨by rw [u_shl hn], rfl⟩
set_option maxRecDepth 65536 in
set_option maxHeartbeats 40000000 in
theorem c_nbf (l : Launch) {Z : State} {a0 : Array Value} {zc : Int32} (B : Base Z a0 zc) (cs : List Int32) (h0 : Heap) (O : Ext Z.heap h0) (hn : cs.length ≤ 511) :
    MetN l Z (⟨"java/lang/StringUTF16", "newBytesFor", "(I)[B"⟩ : MethodName) jdk_52_method_2_code 1 (some (.array .byte)) [] ({ frames := 1, cells := 1, slots := 1022, locals := 12 } : Room) #[(.int (Int32.ofNat cs.length))] h0 [] (fun v h => ∃ d kB, v = some (.ref d) ∧ Arv Z h d kB .byte (Int32.ofNat (2 * cs.length)) [] (.int 0) ∧ h0.size ≤ d ∧ h.size > d) := by
  obtain ⟨hw, SC0, hz0, SU2, SU3, SU4, hh7, hcw⟩ := B
  refine MetN.mk (plainFor_of_name pn_java_lang_StringUTF16) (fun m => ef_c_nbf m (Int32.ofNat cs.length)) O ?_
  intro p e s m below meth c T0 hx hby hml hret hlk hnm hsh H0
  have zs : s.heap.size = h0.size := by rw [hsh]
  refine Rn.pu (T' := T0) (g' := (mkF m 1 #[.val (.int (Int32.ofNat cs.length))] [(.int (Int32.ofNat cs.length))])) ?_ fun _ zk => XS.iloadN H0.here hx rfl (hb hby d_jdk_52_m2_0) rfl zk
  obtain ⟨_, T1, h1, H1, ⟨rfl, rfl⟩, -, st1⟩ := H0.callS (hw _ (List.mem_of_getElem? (i := 92) rfl)) (hw _ (List.mem_of_getElem? (i := 93) rfl)) (hw _ (List.mem_of_getElem? (i := 45) rfl)) (hw _ (List.mem_of_getElem? (i := 94) rfl)) (by decide) (MetN.pay (W := 0) (c_nbl l ⟨hw, SC0, hz0, SU2, SU3, SU4, hh7, hcw⟩ cs h0 H0.old hn) (hw _ (List.mem_of_getElem? (i := 94) rfl)) (hw _ (List.mem_of_getElem? (i := 45) rfl)) (by decide) (by decide)) (g := (mkF m 1 #[.val (.int (Int32.ofNat cs.length))] [(.int (Int32.ofNat cs.length))])) rfl (by rw [hml]; rfl) (argsL := [(.int (Int32.ofNat cs.length))]) (rest := []) (lenOf pd__I_I rfl) rfl rfl (Nat.le_of_eq rfl) (hb hby d_jdk_52_m2_1) (by decide) (by decide) all0
  refine Rn.pu (g' := (mkF m 4 #[.val (.int (Int32.ofNat cs.length))] [(.int (Int32.ofNat (2 * cs.length)))])) ?_ st1
  obtain ⟨a2, k2, T2, h2, e2, H2, K2, A2, st2⟩ := H1.newP (aty := .byte) (hw _ (List.mem_of_getElem? (i := 22) rfl)) (g := (mkF m 4 #[.val (.int (Int32.ofNat cs.length))] [(.int (Int32.ofNat (2 * cs.length)))])) rfl (hb hby d_jdk_52_m2_4) rfl (u_nn (by omega)) (cap := 1022) (by rw [u_cl (by omega)]; omega) (by decide) (by decide) (by decide)
  have zh2 := K2.1
  have l2 := natlt (A2).lt
  have g2 : s.heap.size ≤ a2 := by omega
  refine Rn.pu (g' := (mkF m 6 #[.val (.int (Int32.ofNat cs.length))] [(.ref a2)])) ?_ st2
  exact H2.retA ends_N hlk hret rfl rfl rfl (hb hby d_jdk_52_m2_6) (by decide) (by decide) (fun _ q => nomatch q) ⟨a2, k2, rfl, A2, by omega, by omega⟩
set_option maxRecDepth 65536 in
set_option maxHeartbeats 40000000 in
theorem c_tob (l : Launch) {Z : State} {a0 : Array Value} {zc : Int32} (B : Base Z a0 zc) (b : Addr) (kC : ClassId) (dv : Value) (cs : List Int32) (h0 : Heap) (O : Ext Z.heap h0) (hn : cs.length ≤ 511) (AB : Arv Z h0 b kC .char (Int32.ofNat cs.length) (cs.map Value.int) dv) :
    MetN l Z (⟨"java/lang/StringUTF16", "toBytes", "([CII)[B"⟩ : MethodName) jdk_52_method_14_code 5 (some (.array .byte)) [] ({ frames := 2, cells := 1, slots := 1022, locals := 24 } : Room) #[(.ref b), (.int (0 : Int32)), (.int (Int32.ofNat cs.length))] h0 [] (fun v h => ∃ d kB, v = some (.ref d) ∧ Arv Z h d kB .byte (Int32.ofNat (2 * cs.length)) (StrChars.Road.wideBytes cs) (.int 0) ∧ h0.size ≤ d ∧ h.size > d) := by
  obtain ⟨hw, SC0, hz0, SU2, SU3, SU4, hh7, hcw⟩ := B
  refine MetN.mk (plainFor_of_name pn_java_lang_StringUTF16) (fun m => ef_c_tob m b (0 : Int32) (Int32.ofNat cs.length)) O ?_
  intro p e s m below meth c T0 hx hby hml hret hlk hnm hsh H0
  have zs : s.heap.size = h0.size := by rw [hsh]
  have lb := natlt (AB).lt
  refine Rn.pu (T' := T0) (g' := (mkF m 1 #[.val (.ref b), .val (.int (0 : Int32)), .val (.int (Int32.ofNat cs.length)), .unset, .unset] [(.int (Int32.ofNat cs.length))])) ?_ fun _ zk => XS.iloadN H0.here hx rfl (hb hby d_jdk_52_m14_0) rfl zk
  obtain ⟨_, T1, h1, H1, ⟨d1, kd1, rfl, A1, gd1, ld1⟩, K1, st1⟩ := H0.callS (hw _ (List.mem_of_getElem? (i := 89) rfl)) (hw _ (List.mem_of_getElem? (i := 90) rfl)) (hw _ (List.mem_of_getElem? (i := 45) rfl)) (hw _ (List.mem_of_getElem? (i := 91) rfl)) (by decide) (MetN.pay (W := 0) (c_nbf l ⟨hw, SC0, hz0, SU2, SU3, SU4, hh7, hcw⟩ cs h0 H0.old hn) (hw _ (List.mem_of_getElem? (i := 91) rfl)) (hw _ (List.mem_of_getElem? (i := 45) rfl)) (by decide) (by decide)) (g := (mkF m 1 #[.val (.ref b), .val (.int (0 : Int32)), .val (.int (Int32.ofNat cs.length)), .unset, .unset] [(.int (Int32.ofNat cs.length))])) rfl (by rw [hml]; rfl) (argsL := [(.int (Int32.ofNat cs.length))]) (rest := []) (lenOf pd__I_AB rfl) rfl rfl (Nat.le_of_eq rfl) (hb hby d_jdk_52_m14_1) (by decide) (by decide) all0
  have zh1 := K1.1
  refine Rn.pu (g' := (mkF m 4 #[.val (.ref b), .val (.int (0 : Int32)), .val (.int (Int32.ofNat cs.length)), .unset, .unset] [(.ref d1)])) ?_ st1
  refine Rn.pu (T' := T1) (g' := (mkF m 5 #[.val (.ref b), .val (.int (0 : Int32)), .val (.int (Int32.ofNat cs.length)), .val (.ref d1), .unset] [])) ?_ fun _ zk => XS.astoreN H1.here hx rfl (hb hby d_jdk_52_m14_4) rfl rfl (l' := #[.val (.ref b), .val (.int (0 : Int32)), .val (.int (Int32.ofNat cs.length)), .val (.ref d1), .unset]) rfl zk
  refine Rn.pu (T' := T1) (g' := (mkF m 6 #[.val (.ref b), .val (.int (0 : Int32)), .val (.int (Int32.ofNat cs.length)), .val (.ref d1), .unset] [(.int (0 : Int32))])) ?_ fun _ zk => XS.iconst H1.here hx rfl (hb hby d_jdk_52_m14_5) zk
  refine Rn.pu (T' := T1) (g' := (mkF m 8 #[.val (.ref b), .val (.int (0 : Int32)), .val (.int (Int32.ofNat cs.length)), .val (.ref d1), .val (.int (0 : Int32))] [])) ?_ fun _ zk => XS.istore H1.here hx rfl (hb hby d_jdk_52_m14_6) rfl (l' := #[.val (.ref b), .val (.int (0 : Int32)), .val (.int (Int32.ofNat cs.length)), .val (.ref d1), .val (.int (0 : Int32))]) rfl zk
  have L8 : ∀ (k i : Nat) (T : State) (h : Heap), i + k = cs.length → Hs p l e ({ frames := 2, cells := 1, slots := 1022, locals := 24 } : Room) s m #[(.ref b), (.int (0 : Int32)), (.int (Int32.ofNat cs.length))] below meth c Z "java/lang/StringUTF16" [] (fun v => v = s.vm) T h 1 1022 → h1.size ≤ h.size → Arv Z h b kC .char (Int32.ofNat cs.length) (cs.map Value.int) dv → Arv Z h d1 kd1 .byte (Int32.ofNat (2 * cs.length)) (StrChars.Road.wideBytes (cs.take i)) (.int 0) → Rn p e below s FrameEnd [] (({ frames := 2, cells := 1, slots := 1022, locals := 24 } : Room)).cells (({ frames := 2, cells := 1, slots := 1022, locals := 24 } : Room)).slots (fun v _ h => ∃ d kB, v = some (.ref d) ∧ Arv Z h d kB .byte (Int32.ofNat (2 * cs.length)) (StrChars.Road.wideBytes cs) (.int 0) ∧ h0.size ≤ d ∧ h.size > d) T (mkF m 8 #[.val (.ref b), .val (.int (Int32.ofNat i)), .val (.int (Int32.ofNat cs.length)), .val (.ref d1), .val (.int (Int32.ofNat i))] []) := by
    intro k
    induction k with
    | zero =>
      intro i T h hi HL zh AB AE
      have lE := natlt (AE).lt
      obtain rfl : i = cs.length := by omega
      rw [List.take_length] at AE
      refine Rn.pu (T' := T) (g' := (mkF m 10 #[.val (.ref b), .val (.int (Int32.ofNat cs.length)), .val (.int (Int32.ofNat cs.length)), .val (.ref d1), .val (.int (Int32.ofNat cs.length))] [(.int (Int32.ofNat cs.length))])) ?_ fun _ zk => XS.iload HL.here hx rfl (hb hby d_jdk_52_m14_8) rfl zk
      refine Rn.pu (T' := T) (g' := (mkF m 11 #[.val (.ref b), .val (.int (Int32.ofNat cs.length)), .val (.int (Int32.ofNat cs.length)), .val (.ref d1), .val (.int (Int32.ofNat cs.length))] [(.int (Int32.ofNat cs.length)), (.int (Int32.ofNat cs.length))])) ?_ fun _ zk => XS.iloadN HL.here hx rfl (hb hby d_jdk_52_m14_10) rfl zk
      refine Rn.pu (T' := T) (g' := (mkF m 32 #[.val (.ref b), .val (.int (Int32.ofNat cs.length)), .val (.int (Int32.ofNat cs.length)), .val (.ref d1), .val (.int (Int32.ofNat cs.length))] [])) ?_ fun _ zk => XS.icmpYes HL.here hx rfl (pc0 := 11) (pc' := 32) rfl (hb hby d_jdk_52_m14_11) rfl (c_ge_t u_nlt) (by decide) (by decide) zk
      refine Rn.pu (T' := T) (g' := (mkF m 33 #[.val (.ref b), .val (.int (Int32.ofNat cs.length)), .val (.int (Int32.ofNat cs.length)), .val (.ref d1), .val (.int (Int32.ofNat cs.length))] [(.ref d1)])) ?_ fun _ zk => XS.aloadN HL.here hx rfl (hb hby d_jdk_52_m14_32) rfl rfl zk
      exact HL.retA ends_N hlk hret rfl rfl rfl (hb hby d_jdk_52_m14_33) (by decide) (by decide) (fun _ q => nomatch q) ⟨d1, kd1, rfl, AE, by omega, by omega⟩
    | succ k ih =>
      intro i T h hi HL zh AB AE
      have lE := natlt (AE).lt
      have hlt : i < cs.length := by omega
      refine Rn.pu (T' := T) (g' := (mkF m 10 #[.val (.ref b), .val (.int (Int32.ofNat i)), .val (.int (Int32.ofNat cs.length)), .val (.ref d1), .val (.int (Int32.ofNat i))] [(.int (Int32.ofNat i))])) ?_ fun _ zk => XS.iload HL.here hx rfl (hb hby d_jdk_52_m14_8) rfl zk
      refine Rn.pu (T' := T) (g' := (mkF m 11 #[.val (.ref b), .val (.int (Int32.ofNat i)), .val (.int (Int32.ofNat cs.length)), .val (.ref d1), .val (.int (Int32.ofNat i))] [(.int (Int32.ofNat cs.length)), (.int (Int32.ofNat i))])) ?_ fun _ zk => XS.iloadN HL.here hx rfl (hb hby d_jdk_52_m14_10) rfl zk
      refine Rn.pu (T' := T) (g' := (mkF m 14 #[.val (.ref b), .val (.int (Int32.ofNat i)), .val (.int (Int32.ofNat cs.length)), .val (.ref d1), .val (.int (Int32.ofNat i))] [])) ?_ fun _ zk => XS.icmpNo HL.here hx rfl (hb hby d_jdk_52_m14_11) rfl (c_ge_f (u_lt hlt (by omega))) zk
      refine Rn.pu (T' := T) (g' := (mkF m 15 #[.val (.ref b), .val (.int (Int32.ofNat i)), .val (.int (Int32.ofNat cs.length)), .val (.ref d1), .val (.int (Int32.ofNat i))] [(.ref d1)])) ?_ fun _ zk => XS.aloadN HL.here hx rfl (hb hby d_jdk_52_m14_14) rfl rfl zk
      refine Rn.pu (T' := T) (g' := (mkF m 17 #[.val (.ref b), .val (.int (Int32.ofNat i)), .val (.int (Int32.ofNat cs.length)), .val (.ref d1), .val (.int (Int32.ofNat i))] [(.int (Int32.ofNat i)), (.ref d1)])) ?_ fun _ zk => XS.iload HL.here hx rfl (hb hby d_jdk_52_m14_15) rfl zk
      refine Rn.pu (T' := T) (g' := (mkF m 18 #[.val (.ref b), .val (.int (Int32.ofNat i)), .val (.int (Int32.ofNat cs.length)), .val (.ref d1), .val (.int (Int32.ofNat i))] [(.ref b), (.int (Int32.ofNat i)), (.ref d1)])) ?_ fun _ zk => XS.aloadN HL.here hx rfl (hb hby d_jdk_52_m14_17) rfl rfl zk
      refine Rn.pu (T' := T) (g' := (mkF m 19 #[.val (.ref b), .val (.int (Int32.ofNat i)), .val (.int (Int32.ofNat cs.length)), .val (.ref d1), .val (.int (Int32.ofNat i))] [(.int (Int32.ofNat i)), (.ref b), (.int (Int32.ofNat i)), (.ref d1)])) ?_ fun _ zk => XS.iloadN HL.here hx rfl (hb hby d_jdk_52_m14_18) rfl zk
      refine Rn.pu (g' := (mkF m 20 #[.val (.ref b), .val (.int (Int32.ofNat i)), .val (.int (Int32.ofNat cs.length)), .val (.ref d1), .val (.int (Int32.ofNat i))] [(.int (cs.getD i 0)), (.int (Int32.ofNat i)), (.ref d1)])) ?_ (HL.cald AB ⟨u_nn (by omega), u_lt hlt (by omega)⟩ (v := .int (cs.getD i 0)) (by rw [u_cl (by omega)]; exact u_map hlt _) (g := (mkF m 19 #[.val (.ref b), .val (.int (Int32.ofNat i)), .val (.int (Int32.ofNat cs.length)), .val (.ref d1), .val (.int (Int32.ofNat i))] [(.int (Int32.ofNat i)), (.ref b), (.int (Int32.ofNat i)), (.ref d1)])) rfl rfl (hb hby d_jdk_52_m14_19))
      obtain ⟨_, T2, h2, H2, ⟨rfl, A2⟩, K2, st2⟩ := HL.callS (hw _ (List.mem_of_getElem? (i := 96) rfl)) (hw _ (List.mem_of_getElem? (i := 97) rfl)) (hw _ (List.mem_of_getElem? (i := 45) rfl)) (hw _ (List.mem_of_getElem? (i := 98) rfl)) (by decide) (MetN.pay (W := 0) (c_put l ⟨hw, SC0, hz0, SU2, SU3, SU4, hh7, hcw⟩ d1 (cs.getD i 0) kd1 _ i cs.length h HL.old hlt hn AE (by rw [u_wide, List.length_take]; omega) (by have := H0.old.1; omega)) (hw _ (List.mem_of_getElem? (i := 98) rfl)) (hw _ (List.mem_of_getElem? (i := 45) rfl)) (by decide) (by decide)) (g := (mkF m 20 #[.val (.ref b), .val (.int (Int32.ofNat i)), .val (.int (Int32.ofNat cs.length)), .val (.ref d1), .val (.int (Int32.ofNat i))] [(.int (cs.getD i 0)), (.int (Int32.ofNat i)), (.ref d1)])) rfl (by rw [hml]; rfl) (argsL := [(.ref d1), (.int (Int32.ofNat i)), (.int (cs.getD i 0))]) (rest := []) (lenOf pd__ABII_V rfl) rfl rfl (Nat.le_of_eq rfl) (hb hby d_jdk_52_m14_20) (by decide) (by decide) (allS (Or.inr (by omega)) all0)
      have zh2 := K2.1
      refine Rn.pu (g' := (mkF m 23 #[.val (.ref b), .val (.int (Int32.ofNat i)), .val (.int (Int32.ofNat cs.length)), .val (.ref d1), .val (.int (Int32.ofNat i))] [])) ?_ st2
      refine Rn.pu (T' := T2) (g' := (mkF m 26 #[.val (.ref b), .val (.int ((Int32.ofNat i) + (1 : Int32))), .val (.int (Int32.ofNat cs.length)), .val (.ref d1), .val (.int (Int32.ofNat i))] [])) ?_ fun _ zk => XS.iinc H2.here hx rfl (hb hby d_jdk_52_m14_23) rfl (l' := #[.val (.ref b), .val (.int ((Int32.ofNat i) + (1 : Int32))), .val (.int (Int32.ofNat cs.length)), .val (.ref d1), .val (.int (Int32.ofNat i))]) rfl zk
      refine Rn.pu (T' := T2) (g' := (mkF m 29 #[.val (.ref b), .val (.int ((Int32.ofNat i) + (1 : Int32))), .val (.int (Int32.ofNat cs.length)), .val (.ref d1), .val (.int ((Int32.ofNat i) + (1 : Int32)))] [])) ?_ fun _ zk => XS.iinc H2.here hx rfl (hb hby d_jdk_52_m14_26) rfl (l' := #[.val (.ref b), .val (.int ((Int32.ofNat i) + (1 : Int32))), .val (.int (Int32.ofNat cs.length)), .val (.ref d1), .val (.int ((Int32.ofNat i) + (1 : Int32)))]) rfl zk
      refine Rn.pu (T' := T2) (g' := (mkF m 8 #[.val (.ref b), .val (.int ((Int32.ofNat i) + (1 : Int32))), .val (.int (Int32.ofNat cs.length)), .val (.ref d1), .val (.int ((Int32.ofNat i) + (1 : Int32)))] [])) ?_ fun _ zk => XS.goto H2.here hx rfl (pc0 := 29) (pc' := 8) rfl (hb hby d_jdk_52_m14_29) (by decide) (by decide) zk
      rw [u_succ]
      have AE2 := A2
      rw [u_take hlt] at AE2
      exact ih (i + 1) _ _ (by omega) H2 (by omega) (AB.keep K2 (ninS (adne (by omega)) nin0)) AE2
  exact L8 cs.length 0 _ _ (by omega) H1 (Nat.le_refl _) (AB.keep K1 nin0) A1
set_option maxRecDepth 65536 in
set_option maxHeartbeats 40000000 in
theorem c_cmp5 (l : Launch) {Z : State} {a0 : Array Value} {zc : Int32} (B : Base Z a0 zc) (b d : Addr) (kC kB : ClassId) (dv : Value) (cs : List Int32) (h0 : Heap) (O : Ext Z.heap h0) (hn : cs.length ≤ 511) (hbig : ∃ c ∈ cs, (255 : Int32) < c) (AB : Arv Z h0 b kC .char (Int32.ofNat cs.length) (cs.map Value.int) dv) (AD : Arv Z h0 d kB .byte (Int32.ofNat cs.length) [] (.int 0)) (bd : b ≠ d) (gd : Z.heap.size ≤ d) :
    MetN l Z (⟨"java/lang/StringUTF16", "compress", "([CI[BII)I"⟩ : MethodName) jdk_52_method_21_code 7 (some .int) [] ({ frames := 0, cells := 0, slots := 0, locals := 0 } : Room) #[(.ref b), (.int (0 : Int32)), (.ref d), (.int (0 : Int32)), (.int (Int32.ofNat cs.length))] h0 [d] (fun v h => ∃ k, v = some (.int (Int32.ofNat k)) ∧ k < cs.length ∧ (255 : Int32) < cs.getD k 0) := by
  obtain ⟨hw, SC0, hz0, SU2, SU3, SU4, hh7, hcw⟩ := B
  refine MetN.mk (plainFor_of_name pn_java_lang_StringUTF16) (fun m => ef_c_cmp5 m b (0 : Int32) d (0 : Int32) (Int32.ofNat cs.length)) O ?_
  intro p e s m below meth c T0 hx hby hml hret hlk hnm hsh H0
  have zs : s.heap.size = h0.size := by rw [hsh]
  have H0 := H0.weak (ws' := [d]) (fun _ q => nomatch q) (allS gd all0)
  refine Rn.pu (T' := T0) (g' := (mkF m 1 #[.val (.ref b), .val (.int (0 : Int32)), .val (.ref d), .val (.int (0 : Int32)), .val (.int (Int32.ofNat cs.length)), .unset, .unset] [(.int (0 : Int32))])) ?_ fun _ zk => XS.iconst H0.here hx rfl (hb hby d_jdk_52_m21_0) zk
  refine Rn.pu (T' := T0) (g' := (mkF m 3 #[.val (.ref b), .val (.int (0 : Int32)), .val (.ref d), .val (.int (0 : Int32)), .val (.int (Int32.ofNat cs.length)), .val (.int (0 : Int32)), .unset] [])) ?_ fun _ zk => XS.istore H0.here hx rfl (hb hby d_jdk_52_m21_1) rfl (l' := #[.val (.ref b), .val (.int (0 : Int32)), .val (.ref d), .val (.int (0 : Int32)), .val (.int (Int32.ofNat cs.length)), .val (.int (0 : Int32)), .unset]) rfl zk
  have L3 : ∀ (k i : Nat) (T : State) (h : Heap) (vs : List Value) (o6 : Slot), i + k = cs.length → vs.length = i → One o6 → (∀ j, j < i → ¬ (255 : Int32) < cs.getD j 0) → Hs p l e ({ frames := 0, cells := 0, slots := 0, locals := 0 } : Room) s m #[(.ref b), (.int (0 : Int32)), (.ref d), (.int (0 : Int32)), (.int (Int32.ofNat cs.length))] below meth c Z "java/lang/StringUTF16" [d] (fun v => v = s.vm) T h 0 0 → Arv Z h b kC .char (Int32.ofNat cs.length) (cs.map Value.int) dv → Arv Z h d kB .byte (Int32.ofNat cs.length) vs (.int 0) → Rn p e below s FrameEnd [d] (({ frames := 0, cells := 0, slots := 0, locals := 0 } : Room)).cells (({ frames := 0, cells := 0, slots := 0, locals := 0 } : Room)).slots (fun v _ h => ∃ k, v = some (.int (Int32.ofNat k)) ∧ k < cs.length ∧ (255 : Int32) < cs.getD k 0) T (mkF m 3 #[.val (.ref b), .val (.int (Int32.ofNat i)), .val (.ref d), .val (.int (Int32.ofNat i)), .val (.int (Int32.ofNat cs.length)), .val (.int (Int32.ofNat i)), o6] []) := by
    intro k
    induction k with
    | zero =>
      intro i T h vs o6 hi hv h6 hj HL AB AD
      exact absurd hbig (u_none (fun j q => hj j (by omega)))
    | succ k ih =>
      intro i T h vs o6 hi hv h6 hj HL AB AD
      have hlt : i < cs.length := by omega
      refine Rn.pu (T' := T) (g' := (mkF m 5 #[.val (.ref b), .val (.int (Int32.ofNat i)), .val (.ref d), .val (.int (Int32.ofNat i)), .val (.int (Int32.ofNat cs.length)), .val (.int (Int32.ofNat i)), o6] [(.int (Int32.ofNat i))])) ?_ fun _ zk => XS.iload HL.here hx rfl (hb hby d_jdk_52_m21_3) rfl zk
      refine Rn.pu (T' := T) (g' := (mkF m 7 #[.val (.ref b), .val (.int (Int32.ofNat i)), .val (.ref d), .val (.int (Int32.ofNat i)), .val (.int (Int32.ofNat cs.length)), .val (.int (Int32.ofNat i)), o6] [(.int (Int32.ofNat cs.length)), (.int (Int32.ofNat i))])) ?_ fun _ zk => XS.iload HL.here hx rfl (hb hby d_jdk_52_m21_5) rfl zk
      refine Rn.pu (T' := T) (g' := (mkF m 10 #[.val (.ref b), .val (.int (Int32.ofNat i)), .val (.ref d), .val (.int (Int32.ofNat i)), .val (.int (Int32.ofNat cs.length)), .val (.int (Int32.ofNat i)), o6] [])) ?_ fun _ zk => XS.icmpNo HL.here hx rfl (hb hby d_jdk_52_m21_7) rfl (c_ge_f (u_lt hlt (by omega))) zk
      refine Rn.pu (T' := T) (g' := (mkF m 11 #[.val (.ref b), .val (.int (Int32.ofNat i)), .val (.ref d), .val (.int (Int32.ofNat i)), .val (.int (Int32.ofNat cs.length)), .val (.int (Int32.ofNat i)), o6] [(.ref b)])) ?_ fun _ zk => XS.aloadN HL.here hx rfl (hb hby d_jdk_52_m21_10) rfl rfl zk
      refine Rn.pu (T' := T) (g' := (mkF m 12 #[.val (.ref b), .val (.int (Int32.ofNat i)), .val (.ref d), .val (.int (Int32.ofNat i)), .val (.int (Int32.ofNat cs.length)), .val (.int (Int32.ofNat i)), o6] [(.int (Int32.ofNat i)), (.ref b)])) ?_ fun _ zk => XS.iloadN HL.here hx rfl (hb hby d_jdk_52_m21_11) rfl zk
      refine Rn.pu (g' := (mkF m 13 #[.val (.ref b), .val (.int (Int32.ofNat i)), .val (.ref d), .val (.int (Int32.ofNat i)), .val (.int (Int32.ofNat cs.length)), .val (.int (Int32.ofNat i)), o6] [(.int (cs.getD i 0))])) ?_ (HL.cald AB ⟨u_nn (by omega), u_lt hlt (by omega)⟩ (v := .int (cs.getD i 0)) (by rw [u_cl (by omega)]; exact u_map hlt _) (g := (mkF m 12 #[.val (.ref b), .val (.int (Int32.ofNat i)), .val (.ref d), .val (.int (Int32.ofNat i)), .val (.int (Int32.ofNat cs.length)), .val (.int (Int32.ofNat i)), o6] [(.int (Int32.ofNat i)), (.ref b)])) rfl rfl (hb hby d_jdk_52_m21_12))
      refine Rn.pu (T' := T) (g' := (mkF m 15 #[.val (.ref b), .val (.int (Int32.ofNat i)), .val (.ref d), .val (.int (Int32.ofNat i)), .val (.int (Int32.ofNat cs.length)), .val (.int (Int32.ofNat i)), .val (.int (cs.getD i 0))] [])) ?_ fun _ zk => XS.istoreS HL.here hx rfl (hb hby d_jdk_52_m21_13) rfl rfl h6 zk
      refine Rn.pu (T' := T) (g' := (mkF m 17 #[.val (.ref b), .val (.int (Int32.ofNat i)), .val (.ref d), .val (.int (Int32.ofNat i)), .val (.int (Int32.ofNat cs.length)), .val (.int (Int32.ofNat i)), .val (.int (cs.getD i 0))] [(.int (cs.getD i 0))])) ?_ fun _ zk => XS.iload HL.here hx rfl (hb hby d_jdk_52_m21_15) rfl zk
      refine Rn.pu (T' := T) (g' := (mkF m 20 #[.val (.ref b), .val (.int (Int32.ofNat i)), .val (.ref d), .val (.int (Int32.ofNat i)), .val (.int (Int32.ofNat cs.length)), .val (.int (Int32.ofNat i)), .val (.int (cs.getD i 0))] [(.int (255 : Int32)), (.int (cs.getD i 0))])) ?_ fun _ zk => XS.sipush HL.here hx rfl (hb hby d_jdk_52_m21_17) zk
      by_cases b20_1 : (255 : Int32) < (cs.getD i 0)
      ·
        refine Rn.pu (T' := T) (g' := (mkF m 23 #[.val (.ref b), .val (.int (Int32.ofNat i)), .val (.ref d), .val (.int (Int32.ofNat i)), .val (.int (Int32.ofNat cs.length)), .val (.int (Int32.ofNat i)), .val (.int (cs.getD i 0))] [])) ?_ fun _ zk => XS.icmpNo HL.here hx rfl (hb hby d_jdk_52_m21_20) rfl (c_le_f b20_1) zk
        refine Rn.pu (T' := T) (g' := (mkF m 25 #[.val (.ref b), .val (.int (Int32.ofNat i)), .val (.ref d), .val (.int (Int32.ofNat i)), .val (.int (Int32.ofNat cs.length)), .val (.int (Int32.ofNat i)), .val (.int (cs.getD i 0))] [(.int (Int32.ofNat i))])) ?_ fun _ zk => XS.iload HL.here hx rfl (hb hby d_jdk_52_m21_23) rfl zk
        exact HL.retI ends_N hlk hret (hb hby d_jdk_52_m21_25) (by decide) (by decide) (fun _ q => q) ⟨i, rfl, hlt, b20_1⟩
      ·
        refine Rn.pu (T' := T) (g' := (mkF m 26 #[.val (.ref b), .val (.int (Int32.ofNat i)), .val (.ref d), .val (.int (Int32.ofNat i)), .val (.int (Int32.ofNat cs.length)), .val (.int (Int32.ofNat i)), .val (.int (cs.getD i 0))] [])) ?_ fun _ zk => XS.icmpYes HL.here hx rfl (pc0 := 20) (pc' := 26) rfl (hb hby d_jdk_52_m21_20) rfl (c_le_t b20_1) (by decide) (by decide) zk
        refine Rn.pu (T' := T) (g' := (mkF m 27 #[.val (.ref b), .val (.int (Int32.ofNat i)), .val (.ref d), .val (.int (Int32.ofNat i)), .val (.int (Int32.ofNat cs.length)), .val (.int (Int32.ofNat i)), .val (.int (cs.getD i 0))] [(.ref d)])) ?_ fun _ zk => XS.aloadN HL.here hx rfl (hb hby d_jdk_52_m21_26) rfl rfl zk
        refine Rn.pu (T' := T) (g' := (mkF m 28 #[.val (.ref b), .val (.int (Int32.ofNat i)), .val (.ref d), .val (.int (Int32.ofNat i)), .val (.int (Int32.ofNat cs.length)), .val (.int (Int32.ofNat i)), .val (.int (cs.getD i 0))] [(.int (Int32.ofNat i)), (.ref d)])) ?_ fun _ zk => XS.iloadN HL.here hx rfl (hb hby d_jdk_52_m21_27) rfl zk
        refine Rn.pu (T' := T) (g' := (mkF m 30 #[.val (.ref b), .val (.int (Int32.ofNat i)), .val (.ref d), .val (.int (Int32.ofNat i)), .val (.int (Int32.ofNat cs.length)), .val (.int (Int32.ofNat i)), .val (.int (cs.getD i 0))] [(.int (cs.getD i 0)), (.int (Int32.ofNat i)), (.ref d)])) ?_ fun _ zk => XS.iload HL.here hx rfl (hb hby d_jdk_52_m21_28) rfl zk
        refine Rn.pu (T' := T) (g' := (mkF m 31 #[.val (.ref b), .val (.int (Int32.ofNat i)), .val (.ref d), .val (.int (Int32.ofNat i)), .val (.int (Int32.ofNat cs.length)), .val (.int (Int32.ofNat i)), .val (.int (cs.getD i 0))] [(.int (nar .byte (cs.getD i 0))), (.int (Int32.ofNat i)), (.ref d)])) ?_ fun _ zk => XT.i2b HL.here hx rfl (hb hby d_jdk_52_m21_30) rfl zk
        obtain ⟨T2, h2, H2, K2, A2, st2⟩ := HL.stB AD ⟨u_nn (by omega), u_lt hlt (by omega)⟩ (by rw [u_cl (by omega)]; omega) (Or.inl (List.mem_singleton.mpr rfl)) (g := (mkF m 31 #[.val (.ref b), .val (.int (Int32.ofNat i)), .val (.ref d), .val (.int (Int32.ofNat i)), .val (.int (Int32.ofNat cs.length)), .val (.int (Int32.ofNat i)), .val (.int (cs.getD i 0))] [(.int (nar .byte (cs.getD i 0))), (.int (Int32.ofNat i)), (.ref d)])) rfl rfl (hb hby d_jdk_52_m21_31)
        have zh2 := K2.1
        refine Rn.pu (g' := (mkF m 32 #[.val (.ref b), .val (.int (Int32.ofNat i)), .val (.ref d), .val (.int (Int32.ofNat i)), .val (.int (Int32.ofNat cs.length)), .val (.int (Int32.ofNat i)), .val (.int (cs.getD i 0))] [])) ?_ st2
        refine Rn.pu (T' := T2) (g' := (mkF m 35 #[.val (.ref b), .val (.int ((Int32.ofNat i) + (1 : Int32))), .val (.ref d), .val (.int (Int32.ofNat i)), .val (.int (Int32.ofNat cs.length)), .val (.int (Int32.ofNat i)), .val (.int (cs.getD i 0))] [])) ?_ fun _ zk => XS.iinc H2.here hx rfl (hb hby d_jdk_52_m21_32) rfl (l' := #[.val (.ref b), .val (.int ((Int32.ofNat i) + (1 : Int32))), .val (.ref d), .val (.int (Int32.ofNat i)), .val (.int (Int32.ofNat cs.length)), .val (.int (Int32.ofNat i)), .val (.int (cs.getD i 0))]) rfl zk
        refine Rn.pu (T' := T2) (g' := (mkF m 38 #[.val (.ref b), .val (.int ((Int32.ofNat i) + (1 : Int32))), .val (.ref d), .val (.int ((Int32.ofNat i) + (1 : Int32))), .val (.int (Int32.ofNat cs.length)), .val (.int (Int32.ofNat i)), .val (.int (cs.getD i 0))] [])) ?_ fun _ zk => XS.iinc H2.here hx rfl (hb hby d_jdk_52_m21_35) rfl (l' := #[.val (.ref b), .val (.int ((Int32.ofNat i) + (1 : Int32))), .val (.ref d), .val (.int ((Int32.ofNat i) + (1 : Int32))), .val (.int (Int32.ofNat cs.length)), .val (.int (Int32.ofNat i)), .val (.int (cs.getD i 0))]) rfl zk
        refine Rn.pu (T' := T2) (g' := (mkF m 41 #[.val (.ref b), .val (.int ((Int32.ofNat i) + (1 : Int32))), .val (.ref d), .val (.int ((Int32.ofNat i) + (1 : Int32))), .val (.int (Int32.ofNat cs.length)), .val (.int ((Int32.ofNat i) + (1 : Int32))), .val (.int (cs.getD i 0))] [])) ?_ fun _ zk => XS.iinc H2.here hx rfl (hb hby d_jdk_52_m21_38) rfl (l' := #[.val (.ref b), .val (.int ((Int32.ofNat i) + (1 : Int32))), .val (.ref d), .val (.int ((Int32.ofNat i) + (1 : Int32))), .val (.int (Int32.ofNat cs.length)), .val (.int ((Int32.ofNat i) + (1 : Int32))), .val (.int (cs.getD i 0))]) rfl zk
        refine Rn.pu (T' := T2) (g' := (mkF m 3 #[.val (.ref b), .val (.int ((Int32.ofNat i) + (1 : Int32))), .val (.ref d), .val (.int ((Int32.ofNat i) + (1 : Int32))), .val (.int (Int32.ofNat cs.length)), .val (.int ((Int32.ofNat i) + (1 : Int32))), .val (.int (cs.getD i 0))] [])) ?_ fun _ zk => XS.goto H2.here hx rfl (pc0 := 41) (pc' := 3) rfl (hb hby d_jdk_52_m21_41) (by decide) (by decide) zk
        rw [u_succ]
        exact ih (i + 1) _ _ _ _ (by omega) (by rw [List.length_append, hv]; rfl) (One.val rfl) (fun j hj' => by
          by_cases e : j < i
          · exact hj j e
          · obtain rfl : j = i := by omega
            exact b20_1) H2 (AB.keep K2 (ninS bd nin0)) A2
  exact L3 cs.length 0 _ _ _ _ (by omega) rfl One.u (fun j hj => absurd hj (by omega)) H0 AB AD
set_option maxRecDepth 65536 in
set_option maxHeartbeats 40000000 in
theorem c_cmp3 (l : Launch) {Z : State} {a0 : Array Value} {zc : Int32} (B : Base Z a0 zc) (b : Addr) (kC : ClassId) (dv : Value) (cs : List Int32) (h0 : Heap) (O : Ext Z.heap h0) (hn : cs.length ≤ 511) (hc : ∀ c ∈ cs, ¬ c < 0 ∧ ¬ (65535 : Int32) < c) (hbig : ∃ c ∈ cs, (255 : Int32) < c) (AB : Arv Z h0 b kC .char (Int32.ofNat cs.length) (cs.map Value.int) dv) :
    MetN l Z (⟨"java/lang/StringUTF16", "compress", "([CII)[B"⟩ : MethodName) jdk_52_method_16_code 6 (some (.array .byte)) [] ({ frames := 3, cells := 2, slots := 1533, locals := 40 } : Room) #[(.ref b), (.int (0 : Int32)), (.int (Int32.ofNat cs.length))] h0 [] (fun v h => ∃ d kB, v = some (.ref d) ∧ Arv Z h d kB .byte (Int32.ofNat (2 * cs.length)) (StrChars.Road.wideBytes cs) (.int 0) ∧ h0.size ≤ d ∧ h.size > d) := by
  obtain ⟨hw, SC0, hz0, SU2, SU3, SU4, hh7, hcw⟩ := B
  refine MetN.mk (plainFor_of_name pn_java_lang_StringUTF16) (fun m => ef_c_cmp3 m b (0 : Int32) (Int32.ofNat cs.length)) O ?_
  intro p e s m below meth c T0 hx hby hml hret hlk hnm hsh H0
  have zs : s.heap.size = h0.size := by rw [hsh]
  have lb := natlt (AB).lt
  refine Rn.pu (T' := T0) (g' := (mkF m 1 #[.val (.ref b), .val (.int (0 : Int32)), .val (.int (Int32.ofNat cs.length)), .unset, .unset, .unset] [(.int (Int32.ofNat cs.length))])) ?_ fun _ zk => XS.iloadN H0.here hx rfl (hb hby d_jdk_52_m16_0) rfl zk
  obtain ⟨a1, k1, T1, h1, e1, H1, K1, A1, st1⟩ := H0.newP (aty := .byte) (hw _ (List.mem_of_getElem? (i := 22) rfl)) (g := (mkF m 1 #[.val (.ref b), .val (.int (0 : Int32)), .val (.int (Int32.ofNat cs.length)), .unset, .unset, .unset] [(.int (Int32.ofNat cs.length))])) rfl (hb hby d_jdk_52_m16_1) rfl (u_nn (by omega)) (cap := 511) (by rw [u_cl (by omega)]; omega) (by decide) (by decide) (by decide)
  have zh1 := K1.1
  have l1 := natlt (A1).lt
  have g1 : s.heap.size ≤ a1 := by omega
  refine Rn.pu (g' := (mkF m 3 #[.val (.ref b), .val (.int (0 : Int32)), .val (.int (Int32.ofNat cs.length)), .unset, .unset, .unset] [(.ref a1)])) ?_ st1
  refine Rn.pu (T' := T1) (g' := (mkF m 4 #[.val (.ref b), .val (.int (0 : Int32)), .val (.int (Int32.ofNat cs.length)), .val (.ref a1), .unset, .unset] [])) ?_ fun _ zk => XS.astoreN H1.here hx rfl (hb hby d_jdk_52_m16_3) rfl rfl (l' := #[.val (.ref b), .val (.int (0 : Int32)), .val (.int (Int32.ofNat cs.length)), .val (.ref a1), .unset, .unset]) rfl zk
  refine Rn.pu (T' := T1) (g' := (mkF m 5 #[.val (.ref b), .val (.int (0 : Int32)), .val (.int (Int32.ofNat cs.length)), .val (.ref a1), .unset, .unset] [(.ref b)])) ?_ fun _ zk => XS.aloadN H1.here hx rfl (hb hby d_jdk_52_m16_4) rfl rfl zk
  refine Rn.pu (T' := T1) (g' := (mkF m 6 #[.val (.ref b), .val (.int (0 : Int32)), .val (.int (Int32.ofNat cs.length)), .val (.ref a1), .unset, .unset] [(.int (0 : Int32)), (.ref b)])) ?_ fun _ zk => XS.iloadN H1.here hx rfl (hb hby d_jdk_52_m16_5) rfl zk
  refine Rn.pu (T' := T1) (g' := (mkF m 7 #[.val (.ref b), .val (.int (0 : Int32)), .val (.int (Int32.ofNat cs.length)), .val (.ref a1), .unset, .unset] [(.ref a1), (.int (0 : Int32)), (.ref b)])) ?_ fun _ zk => XS.aloadN H1.here hx rfl (hb hby d_jdk_52_m16_6) rfl rfl zk
  refine Rn.pu (T' := T1) (g' := (mkF m 8 #[.val (.ref b), .val (.int (0 : Int32)), .val (.int (Int32.ofNat cs.length)), .val (.ref a1), .unset, .unset] [(.int (0 : Int32)), (.ref a1), (.int (0 : Int32)), (.ref b)])) ?_ fun _ zk => XS.iconst H1.here hx rfl (hb hby d_jdk_52_m16_7) zk
  refine Rn.pu (T' := T1) (g' := (mkF m 9 #[.val (.ref b), .val (.int (0 : Int32)), .val (.int (Int32.ofNat cs.length)), .val (.ref a1), .unset, .unset] [(.int (Int32.ofNat cs.length)), (.int (0 : Int32)), (.ref a1), (.int (0 : Int32)), (.ref b)])) ?_ fun _ zk => XS.iloadN H1.here hx rfl (hb hby d_jdk_52_m16_8) rfl zk
  obtain ⟨_, T2, h2, H2, ⟨k2, rfl, lk2, bk2⟩, K2, st2⟩ := H1.callS (hw _ (List.mem_of_getElem? (i := 47) rfl)) (hw _ (List.mem_of_getElem? (i := 48) rfl)) (hw _ (List.mem_of_getElem? (i := 45) rfl)) (hw _ (List.mem_of_getElem? (i := 49) rfl)) (by decide) (MetN.pay (W := 0) (c_cmp5 l ⟨hw, SC0, hz0, SU2, SU3, SU4, hh7, hcw⟩ b a1 kC k1 dv cs h1 H1.old hn hbig (AB.keep K1 nin0) A1 (adne (by omega)) (by have := H0.old.1; omega)) (hw _ (List.mem_of_getElem? (i := 49) rfl)) (hw _ (List.mem_of_getElem? (i := 45) rfl)) (by decide) (by decide)) (g := (mkF m 9 #[.val (.ref b), .val (.int (0 : Int32)), .val (.int (Int32.ofNat cs.length)), .val (.ref a1), .unset, .unset] [(.int (Int32.ofNat cs.length)), (.int (0 : Int32)), (.ref a1), (.int (0 : Int32)), (.ref b)])) rfl (by rw [hml]; rfl) (argsL := [(.ref b), (.int (0 : Int32)), (.ref a1), (.int (0 : Int32)), (.int (Int32.ofNat cs.length))]) (rest := []) (lenOf pd__ACIABII_I rfl) rfl rfl (Nat.le_of_eq rfl) (hb hby d_jdk_52_m16_9) (by decide) (by decide) (allS (Or.inr (by omega)) all0)
  have zh2 := K2.1
  refine Rn.pu (g' := (mkF m 12 #[.val (.ref b), .val (.int (0 : Int32)), .val (.int (Int32.ofNat cs.length)), .val (.ref a1), .unset, .unset] [(.int (Int32.ofNat k2))])) ?_ st2
  refine Rn.pu (T' := T2) (g' := (mkF m 14 #[.val (.ref b), .val (.int (0 : Int32)), .val (.int (Int32.ofNat cs.length)), .val (.ref a1), .val (.int (Int32.ofNat k2)), .unset] [])) ?_ fun _ zk => XS.istore H2.here hx rfl (hb hby d_jdk_52_m16_12) rfl (l' := #[.val (.ref b), .val (.int (0 : Int32)), .val (.int (Int32.ofNat cs.length)), .val (.ref a1), .val (.int (Int32.ofNat k2)), .unset]) rfl zk
  refine Rn.pu (T' := T2) (g' := (mkF m 16 #[.val (.ref b), .val (.int (0 : Int32)), .val (.int (Int32.ofNat cs.length)), .val (.ref a1), .val (.int (Int32.ofNat k2)), .unset] [(.int (Int32.ofNat k2))])) ?_ fun _ zk => XS.iload H2.here hx rfl (hb hby d_jdk_52_m16_14) rfl zk
  refine Rn.pu (T' := T2) (g' := (mkF m 17 #[.val (.ref b), .val (.int (0 : Int32)), .val (.int (Int32.ofNat cs.length)), .val (.ref a1), .val (.int (Int32.ofNat k2)), .unset] [(.int (Int32.ofNat cs.length)), (.int (Int32.ofNat k2))])) ?_ fun _ zk => XS.iloadN H2.here hx rfl (hb hby d_jdk_52_m16_16) rfl zk
  refine Rn.pu (T' := T2) (g' := (mkF m 20 #[.val (.ref b), .val (.int (0 : Int32)), .val (.int (Int32.ofNat cs.length)), .val (.ref a1), .val (.int (Int32.ofNat k2)), .unset] [])) ?_ fun _ zk => XS.icmpNo H2.here hx rfl (hb hby d_jdk_52_m16_17) rfl (c_eq_f (u_ne (by omega) (by omega) (by omega))) zk
  refine Rn.pu (T' := T2) (g' := (mkF m 21 #[.val (.ref b), .val (.int (0 : Int32)), .val (.int (Int32.ofNat cs.length)), .val (.ref a1), .val (.int (Int32.ofNat k2)), .unset] [(.ref b)])) ?_ fun _ zk => XS.aloadN H2.here hx rfl (hb hby d_jdk_52_m16_20) rfl rfl zk
  refine Rn.pu (T' := T2) (g' := (mkF m 22 #[.val (.ref b), .val (.int (0 : Int32)), .val (.int (Int32.ofNat cs.length)), .val (.ref a1), .val (.int (Int32.ofNat k2)), .unset] [(.int (0 : Int32)), (.ref b)])) ?_ fun _ zk => XS.iloadN H2.here hx rfl (hb hby d_jdk_52_m16_21) rfl zk
  refine Rn.pu (T' := T2) (g' := (mkF m 23 #[.val (.ref b), .val (.int (0 : Int32)), .val (.int (Int32.ofNat cs.length)), .val (.ref a1), .val (.int (Int32.ofNat k2)), .unset] [(.int (Int32.ofNat cs.length)), (.int (0 : Int32)), (.ref b)])) ?_ fun _ zk => XS.iloadN H2.here hx rfl (hb hby d_jdk_52_m16_22) rfl zk
  obtain ⟨_, T3, h3, H3, ⟨d3, kd3, rfl, A3, gd3, ld3⟩, K3, st3⟩ := H2.callS (hw _ (List.mem_of_getElem? (i := 86) rfl)) (hw _ (List.mem_of_getElem? (i := 87) rfl)) (hw _ (List.mem_of_getElem? (i := 45) rfl)) (hw _ (List.mem_of_getElem? (i := 88) rfl)) (by decide) (MetN.pay (W := 0) (c_tob l ⟨hw, SC0, hz0, SU2, SU3, SU4, hh7, hcw⟩ b kC dv cs h2 H2.old hn ((AB.keep K1 nin0).keep K2 (ninS (adne (by omega)) nin0))) (hw _ (List.mem_of_getElem? (i := 88) rfl)) (hw _ (List.mem_of_getElem? (i := 45) rfl)) (by decide) (by decide)) (g := (mkF m 23 #[.val (.ref b), .val (.int (0 : Int32)), .val (.int (Int32.ofNat cs.length)), .val (.ref a1), .val (.int (Int32.ofNat k2)), .unset] [(.int (Int32.ofNat cs.length)), (.int (0 : Int32)), (.ref b)])) rfl (by rw [hml]; rfl) (argsL := [(.ref b), (.int (0 : Int32)), (.int (Int32.ofNat cs.length))]) (rest := []) (lenOf pd__ACII_AB rfl) rfl rfl (Nat.le_of_eq rfl) (hb hby d_jdk_52_m16_23) (by decide) (by decide) all0
  have zh3 := K3.1
  refine Rn.pu (g' := (mkF m 26 #[.val (.ref b), .val (.int (0 : Int32)), .val (.int (Int32.ofNat cs.length)), .val (.ref a1), .val (.int (Int32.ofNat k2)), .unset] [(.ref d3)])) ?_ st3
  refine Rn.pu (T' := T3) (g' := (mkF m 28 #[.val (.ref b), .val (.int (0 : Int32)), .val (.int (Int32.ofNat cs.length)), .val (.ref a1), .val (.int (Int32.ofNat k2)), .val (.ref d3)] [])) ?_ fun _ zk => XS.astore H3.here hx rfl (hb hby d_jdk_52_m16_26) rfl rfl (l' := #[.val (.ref b), .val (.int (0 : Int32)), .val (.int (Int32.ofNat cs.length)), .val (.ref a1), .val (.int (Int32.ofNat k2)), .val (.ref d3)]) rfl zk
  refine Rn.pu (T' := T3) (g' := (mkF m 30 #[.val (.ref b), .val (.int (0 : Int32)), .val (.int (Int32.ofNat cs.length)), .val (.ref a1), .val (.int (Int32.ofNat k2)), .val (.ref d3)] [(.ref d3)])) ?_ fun _ zk => XS.aload H3.here hx rfl (hb hby d_jdk_52_m16_28) rfl rfl zk
  refine Rn.pu (T' := T3) (g' := (mkF m 32 #[.val (.ref b), .val (.int (0 : Int32)), .val (.int (Int32.ofNat cs.length)), .val (.ref a1), .val (.int (Int32.ofNat k2)), .val (.ref d3)] [(.int (Int32.ofNat k2)), (.ref d3)])) ?_ fun _ zk => XS.iload H3.here hx rfl (hb hby d_jdk_52_m16_30) rfl zk
  obtain ⟨_, T4, h4, H4, ⟨rfl, rfl⟩, -, st4⟩ := H3.callS (hw _ (List.mem_of_getElem? (i := 102) rfl)) (hw _ (List.mem_of_getElem? (i := 103) rfl)) (hw _ (List.mem_of_getElem? (i := 45) rfl)) (hw _ (List.mem_of_getElem? (i := 104) rfl)) (by decide) (MetN.pay (W := 0) (c_getc l ⟨hw, SC0, hz0, SU2, SU3, SU4, hh7, hcw⟩ d3 kd3 cs k2 h3 H3.old lk2 hn hc A3) (hw _ (List.mem_of_getElem? (i := 104) rfl)) (hw _ (List.mem_of_getElem? (i := 45) rfl)) (by decide) (by decide)) (g := (mkF m 32 #[.val (.ref b), .val (.int (0 : Int32)), .val (.int (Int32.ofNat cs.length)), .val (.ref a1), .val (.int (Int32.ofNat k2)), .val (.ref d3)] [(.int (Int32.ofNat k2)), (.ref d3)])) rfl (by rw [hml]; rfl) (argsL := [(.ref d3), (.int (Int32.ofNat k2))]) (rest := []) (lenOf pd__ABI_C rfl) rfl rfl (Nat.le_of_eq rfl) (hb hby d_jdk_52_m16_32) (by decide) (by decide) all0
  refine Rn.pu (g' := (mkF m 35 #[.val (.ref b), .val (.int (0 : Int32)), .val (.int (Int32.ofNat cs.length)), .val (.ref a1), .val (.int (Int32.ofNat k2)), .val (.ref d3)] [(.int (cs.getD k2 0))])) ?_ st4
  refine Rn.pu (T' := T4) (g' := (mkF m 38 #[.val (.ref b), .val (.int (0 : Int32)), .val (.int (Int32.ofNat cs.length)), .val (.ref a1), .val (.int (Int32.ofNat k2)), .val (.ref d3)] [(.int (255 : Int32)), (.int (cs.getD k2 0))])) ?_ fun _ zk => XS.sipush H4.here hx rfl (hb hby d_jdk_52_m16_35) zk
  refine Rn.pu (T' := T4) (g' := (mkF m 54 #[.val (.ref b), .val (.int (0 : Int32)), .val (.int (Int32.ofNat cs.length)), .val (.ref a1), .val (.int (Int32.ofNat k2)), .val (.ref d3)] [])) ?_ fun _ zk => XS.icmpYes H4.here hx rfl (pc0 := 38) (pc' := 54) rfl (hb hby d_jdk_52_m16_38) rfl (c_gt_t bk2) (by decide) (by decide) zk
  refine Rn.pu (T' := T4) (g' := (mkF m 56 #[.val (.ref b), .val (.int (0 : Int32)), .val (.int (Int32.ofNat cs.length)), .val (.ref a1), .val (.int (Int32.ofNat k2)), .val (.ref d3)] [(.ref d3)])) ?_ fun _ zk => XS.aload H4.here hx rfl (hb hby d_jdk_52_m16_54) rfl rfl zk
  exact H4.retA ends_N hlk hret rfl rfl rfl (hb hby d_jdk_52_m16_56) (by decide) (by decide) (fun _ q => nomatch q) ⟨d3, kd3, rfl, A3, by omega, by omega⟩
set_option maxRecDepth 65536 in
set_option maxHeartbeats 40000000 in
theorem c_codl (l : Launch) {Z : State} {a0 : Array Value} {zc : Int32} (B : Base Z a0 zc) (d : Addr) (kB : ClassId) (vs : List Value) (cs : List Int32) (h0 : Heap) (O : Ext Z.heap h0) (hn : cs.length ≤ 511) (h1 : 0 < cs.length) (AD : Arv Z h0 d kB .byte (Int32.ofNat (2 * cs.length)) vs (.int 0)) :
    MetN l Z (⟨"java/lang/StringUTF16", "coderFromArrayLen", "([BI)B"⟩ : MethodName) jdk_52_method_15_code 2 (some .byte) [] ({ frames := 0, cells := 0, slots := 0, locals := 0 } : Room) #[(.ref d), (.int (Int32.ofNat cs.length))] h0 [] (fun v h => v = some (.int 1) ∧ h0 = h) := by
  obtain ⟨hw, SC0, hz0, SU2, SU3, SU4, hh7, hcw⟩ := B
  refine MetN.mk (plainFor_of_name pn_java_lang_StringUTF16) (fun m => ef_c_codl m d (Int32.ofNat cs.length)) O ?_
  intro p e s m below meth c T0 hx hby hml hret hlk hnm hsh H0
  have zs : s.heap.size = h0.size := by rw [hsh]
  refine Rn.pu (T' := T0) (g' := (mkF m 1 #[.val (.ref d), .val (.int (Int32.ofNat cs.length))] [(.int (Int32.ofNat cs.length))])) ?_ fun _ zk => XS.iloadN H0.here hx rfl (hb hby d_jdk_52_m15_0) rfl zk
  refine Rn.pu (T' := T0) (g' := (mkF m 2 #[.val (.ref d), .val (.int (Int32.ofNat cs.length))] [(.ref d), (.int (Int32.ofNat cs.length))])) ?_ fun _ zk => XS.aloadN H0.here hx rfl (hb hby d_jdk_52_m15_1) rfl rfl zk
  refine Rn.pu (g' := (mkF m 3 #[.val (.ref d), .val (.int (Int32.ofNat cs.length))] [(.int (Int32.ofNat (2 * cs.length))), (.int (Int32.ofNat cs.length))])) ?_ (H0.alen AD (g := (mkF m 2 #[.val (.ref d), .val (.int (Int32.ofNat cs.length))] [(.ref d), (.int (Int32.ofNat cs.length))])) rfl rfl (hb hby d_jdk_52_m15_2))
  refine Rn.pu (T' := T0) (g' := (mkF m 4 #[.val (.ref d), .val (.int (Int32.ofNat cs.length))] [(.int ((Int32.ofNat cs.length) - (Int32.ofNat (2 * cs.length))))])) ?_ fun _ zk => XS.isub H0.here hx rfl (hb hby d_jdk_52_m15_3) rfl zk
  refine Rn.pu (T' := T0) (g' := (mkF m 6 #[.val (.ref d), .val (.int (Int32.ofNat cs.length))] [(.int (31 : Int32)), (.int ((Int32.ofNat cs.length) - (Int32.ofNat (2 * cs.length))))])) ?_ fun _ zk => XS.bipush H0.here hx rfl (hb hby d_jdk_52_m15_4) zk
  refine Rn.pu (T' := T0) (g' := (mkF m 7 #[.val (.ref d), .val (.int (Int32.ofNat cs.length))] [(.int (XT.ushr ((Int32.ofNat cs.length) - (Int32.ofNat (2 * cs.length))) (31 : Int32)))])) ?_ fun _ zk => XT.iushr H0.here hx rfl (hb hby d_jdk_52_m15_6) rfl zk
  refine Rn.pu (T' := T0) (g' := (mkF m 8 #[.val (.ref d), .val (.int (Int32.ofNat cs.length))] [(.int (nar .byte (XT.ushr ((Int32.ofNat cs.length) - (Int32.ofNat (2 * cs.length))) (31 : Int32))))])) ?_ fun _ zk => XT.i2b H0.here hx rfl (hb hby d_jdk_52_m15_7) rfl zk
  exact H0.retS ends_N hlk (t := .byte) hret (by simp) (hb hby d_jdk_52_m15_8) (by decide) (by decide) (fun _ q => nomatch q) ⟨by rw [u_cod hn h1]; rfl, rfl⟩
set_option maxRecDepth 65536 in
set_option maxHeartbeats 40000000 in
theorem c_nwu4 (l : Launch) {Z : State} {a0 : Array Value} {zc : Int32} (B : Base Z a0 zc) (x b : Addr) (kC : ClassId) (dv : Value) (cs : List Int32) (h0 : Heap) (O : Ext Z.heap h0) (hn : cs.length ≤ 511) (h1 : 0 < cs.length) (hc : ∀ c ∈ cs, ¬ c < 0 ∧ ¬ (65535 : Int32) < c) (hbig : ∃ c ∈ cs, (255 : Int32) < c) (AB : Arv Z h0 b kC .char (Int32.ofNat cs.length) (cs.map Value.int) dv) (E : Exa Z h0 x "java/lang/String") (G1 : Fld Z h0 x "java/lang/String" "value" "[B" .null) (G2 : Fld Z h0 x "java/lang/String" "coder" "B" (.int (0 : Int32))) (gx : Z.heap.size ≤ x) :
    MetN l Z (⟨"java/lang/String", "<init>", "([CIILjava/lang/Void;)V"⟩ : MethodName) jdk_42_method_149_code 6 none [] ({ frames := 4, cells := 2, slots := 1533, locals := 57 } : Room) #[(.ref x), (.ref b), (.int (0 : Int32)), (.int (Int32.ofNat cs.length)), .null] h0 [x] (fun v h => v = none ∧ ∃ t, Str Z h x t cs ∧ h.size > t) := by
  obtain ⟨hw, SC0, hz0, SU2, SU3, SU4, hh7, hcw⟩ := B
  refine MetN.mk (plainFor_of_name pn_java_lang_String) (fun m => ef_c_nwu4 m x b (0 : Int32) (Int32.ofNat cs.length)) O ?_
  intro p e s m below meth c T0 hx hby hml hret hlk hnm hsh H0
  have zs : s.heap.size = h0.size := by rw [hsh]
  have lx := natlt (E).lt
  have lb := natlt (AB).lt
  have H0 := H0.weak (ws' := [x]) (fun _ q => nomatch q) (allS gx all0)
  refine Rn.pu (T' := T0) (g' := (mkF m 1 #[.val (.ref x), .val (.ref b), .val (.int (0 : Int32)), .val (.int (Int32.ofNat cs.length)), .val .null, .unset] [(.ref x)])) ?_ fun _ zk => XS.aloadN H0.here hx rfl (hb hby d_jdk_42_m149_0) rfl rfl zk
  obtain ⟨T1, H1, st1⟩ := H0.initO (hw _ (List.mem_of_getElem? (i := 18) rfl)) (hw _ (List.mem_of_getElem? (i := 19) rfl)) (hw _ (List.mem_of_getElem? (i := 20) rfl)) (g := (mkF m 1 #[.val (.ref x), .val (.ref b), .val (.int (0 : Int32)), .val (.int (Int32.ofNat cs.length)), .val .null, .unset] [(.ref x)])) rfl (by rw [hml]; rfl) rfl (hb hby d_jdk_42_m149_1) (by decide) (W := 0) (Nat.le_of_eq rfl) (by decide)
  refine Rn.pu (g' := (mkF m 4 #[.val (.ref x), .val (.ref b), .val (.int (0 : Int32)), .val (.int (Int32.ofNat cs.length)), .val .null, .unset] [])) ?_ st1
  refine Rn.pu (T' := T1) (g' := (mkF m 5 #[.val (.ref x), .val (.ref b), .val (.int (0 : Int32)), .val (.int (Int32.ofNat cs.length)), .val .null, .unset] [(.int (Int32.ofNat cs.length))])) ?_ fun _ zk => XS.iloadN H1.here hx rfl (hb hby d_jdk_42_m149_4) rfl zk
  refine Rn.pu (T' := T1) (g' := (mkF m 27 #[.val (.ref x), .val (.ref b), .val (.int (0 : Int32)), .val (.int (Int32.ofNat cs.length)), .val .null, .unset] [])) ?_ fun _ zk => XS.ifYes H1.here hx rfl (pc0 := 5) (pc' := 27) rfl (hb hby d_jdk_42_m149_5) rfl (z_ne_t (u_ne0 h1 (by omega))) (by decide) (by decide) zk
  obtain ⟨T2, H2, st2⟩ := H1.getS (host := "") (Or.inl (hw _ (List.mem_of_getElem? (i := 42) rfl))) Via.refl (SC0.ext H1.old) (g := (mkF m 27 #[.val (.ref x), .val (.ref b), .val (.int (0 : Int32)), .val (.int (Int32.ofNat cs.length)), .val .null, .unset] [])) rfl (hb hby d_jdk_42_m149_27)
  refine Rn.pu (g' := (mkF m 30 #[.val (.ref x), .val (.ref b), .val (.int (0 : Int32)), .val (.int (Int32.ofNat cs.length)), .val .null, .unset] [(.int zc)])) ?_ st2
  refine Rn.pu (T' := T2) (g' := (mkF m 33 #[.val (.ref x), .val (.ref b), .val (.int (0 : Int32)), .val (.int (Int32.ofNat cs.length)), .val .null, .unset] [])) ?_ fun _ zk => XS.ifNo H2.here hx rfl (hb hby d_jdk_42_m149_30) rfl (z_eq_f hz0) zk
  refine Rn.pu (T' := T2) (g' := (mkF m 34 #[.val (.ref x), .val (.ref b), .val (.int (0 : Int32)), .val (.int (Int32.ofNat cs.length)), .val .null, .unset] [(.ref b)])) ?_ fun _ zk => XS.aloadN H2.here hx rfl (hb hby d_jdk_42_m149_33) rfl rfl zk
  refine Rn.pu (T' := T2) (g' := (mkF m 35 #[.val (.ref x), .val (.ref b), .val (.int (0 : Int32)), .val (.int (Int32.ofNat cs.length)), .val .null, .unset] [(.int (0 : Int32)), (.ref b)])) ?_ fun _ zk => XS.iloadN H2.here hx rfl (hb hby d_jdk_42_m149_34) rfl zk
  refine Rn.pu (T' := T2) (g' := (mkF m 36 #[.val (.ref x), .val (.ref b), .val (.int (0 : Int32)), .val (.int (Int32.ofNat cs.length)), .val .null, .unset] [(.int (Int32.ofNat cs.length)), (.int (0 : Int32)), (.ref b)])) ?_ fun _ zk => XS.iloadN H2.here hx rfl (hb hby d_jdk_42_m149_35) rfl zk
  obtain ⟨_, T3, h3, H3, ⟨d3, kd3, rfl, A3, gd3, ld3⟩, K3, st3⟩ := H2.callS (hw _ (List.mem_of_getElem? (i := 43) rfl)) (hw _ (List.mem_of_getElem? (i := 44) rfl)) (hw _ (List.mem_of_getElem? (i := 45) rfl)) (hw _ (List.mem_of_getElem? (i := 46) rfl)) (by decide) (MetN.pay (W := 0) (c_cmp3 l ⟨hw, SC0, hz0, SU2, SU3, SU4, hh7, hcw⟩ b kC dv cs h0 H2.old hn hc hbig AB) (hw _ (List.mem_of_getElem? (i := 46) rfl)) (hw _ (List.mem_of_getElem? (i := 45) rfl)) (by decide) (by decide)) (g := (mkF m 36 #[.val (.ref x), .val (.ref b), .val (.int (0 : Int32)), .val (.int (Int32.ofNat cs.length)), .val .null, .unset] [(.int (Int32.ofNat cs.length)), (.int (0 : Int32)), (.ref b)])) rfl (by rw [hml]; rfl) (argsL := [(.ref b), (.int (0 : Int32)), (.int (Int32.ofNat cs.length))]) (rest := []) (lenOf pd__ACII_AB rfl) rfl rfl (Nat.le_of_eq rfl) (hb hby d_jdk_42_m149_36) (by decide) (by decide) all0
  have zh3 := K3.1
  refine Rn.pu (g' := (mkF m 39 #[.val (.ref x), .val (.ref b), .val (.int (0 : Int32)), .val (.int (Int32.ofNat cs.length)), .val .null, .unset] [(.ref d3)])) ?_ st3
  refine Rn.pu (T' := T3) (g' := (mkF m 41 #[.val (.ref x), .val (.ref b), .val (.int (0 : Int32)), .val (.int (Int32.ofNat cs.length)), .val .null, .val (.ref d3)] [])) ?_ fun _ zk => XS.astore H3.here hx rfl (hb hby d_jdk_42_m149_39) rfl rfl (l' := #[.val (.ref x), .val (.ref b), .val (.int (0 : Int32)), .val (.int (Int32.ofNat cs.length)), .val .null, .val (.ref d3)]) rfl zk
  refine Rn.pu (T' := T3) (g' := (mkF m 42 #[.val (.ref x), .val (.ref b), .val (.int (0 : Int32)), .val (.int (Int32.ofNat cs.length)), .val .null, .val (.ref d3)] [(.ref x)])) ?_ fun _ zk => XS.aloadN H3.here hx rfl (hb hby d_jdk_42_m149_41) rfl rfl zk
  refine Rn.pu (T' := T3) (g' := (mkF m 44 #[.val (.ref x), .val (.ref b), .val (.int (0 : Int32)), .val (.int (Int32.ofNat cs.length)), .val .null, .val (.ref d3)] [(.ref d3), (.ref x)])) ?_ fun _ zk => XS.aload H3.here hx rfl (hb hby d_jdk_42_m149_42) rfl rfl zk
  refine Rn.pu (T' := T3) (g' := (mkF m 45 #[.val (.ref x), .val (.ref b), .val (.int (0 : Int32)), .val (.int (Int32.ofNat cs.length)), .val .null, .val (.ref d3)] [(.int (Int32.ofNat cs.length)), (.ref d3), (.ref x)])) ?_ fun _ zk => XS.iloadN H3.here hx rfl (hb hby d_jdk_42_m149_44) rfl zk
  obtain ⟨_, T4, h4, H4, ⟨rfl, rfl⟩, -, st4⟩ := H3.callS (hw _ (List.mem_of_getElem? (i := 50) rfl)) (hw _ (List.mem_of_getElem? (i := 51) rfl)) (hw _ (List.mem_of_getElem? (i := 45) rfl)) (hw _ (List.mem_of_getElem? (i := 52) rfl)) (by decide) (MetN.pay (W := 1) (c_codl l ⟨hw, SC0, hz0, SU2, SU3, SU4, hh7, hcw⟩ d3 kd3 _ cs h3 H3.old hn h1 A3) (hw _ (List.mem_of_getElem? (i := 52) rfl)) (hw _ (List.mem_of_getElem? (i := 45) rfl)) (by decide) (by decide)) (g := (mkF m 45 #[.val (.ref x), .val (.ref b), .val (.int (0 : Int32)), .val (.int (Int32.ofNat cs.length)), .val .null, .val (.ref d3)] [(.int (Int32.ofNat cs.length)), (.ref d3), (.ref x)])) rfl (by rw [hml]; rfl) (argsL := [(.ref d3), (.int (Int32.ofNat cs.length))]) (rest := [(.ref x)]) (lenOf pd__ABI_B rfl) rfl rfl (Nat.le_of_eq rfl) (hb hby d_jdk_42_m149_45) (by decide) (by decide) all0
  refine Rn.pu (g' := (mkF m 48 #[.val (.ref x), .val (.ref b), .val (.int (0 : Int32)), .val (.int (Int32.ofNat cs.length)), .val .null, .val (.ref d3)] [(.int (1 : Int32)), (.ref x)])) ?_ st4
  obtain ⟨T5, h5, H5, K5, W5, st5⟩ := H4.putF (host := "") (Or.inl (hw _ (List.mem_of_getElem? (i := 28) rfl))) Via.refl (G2.keep K3 nin0) (E.keep K3) (Or.inr ⟨(hw _ (List.mem_of_getElem? (i := 24) rfl)), rfl, hnm⟩) (hw _ (List.mem_of_getElem? (i := 9) rfl)) (ty := .byte) (by decide) rfl rfl (Or.inl (List.mem_singleton.mpr rfl)) (g := (mkF m 48 #[.val (.ref x), .val (.ref b), .val (.int (0 : Int32)), .val (.int (Int32.ofNat cs.length)), .val .null, .val (.ref d3)] [(.int (1 : Int32)), (.ref x)])) rfl rfl (hb hby d_jdk_42_m149_48)
  have zh5 := K5.1
  have F5_coder : Fld Z h5 x "java/lang/String" "coder" "B" (.int (1 : Int32)) := (G2.keep K3 nin0).same W5
  have E5 := (E.keep K3).keep K5
  have F5_value : Fld Z h5 x "java/lang/String" "value" "[B" .null := (G1.keep K3 nin0).other W5 (Or.inr (slot_ne (Or.inr (hw _ (List.mem_of_getElem? (i := 23) rfl))) (Or.inr (hw _ (List.mem_of_getElem? (i := 24) rfl))) (by decide) (t := (.array .byte)) (t' := .byte) (by decide) (by decide)))
  refine Rn.pu (g' := (mkF m 51 #[.val (.ref x), .val (.ref b), .val (.int (0 : Int32)), .val (.int (Int32.ofNat cs.length)), .val .null, .val (.ref d3)] [])) ?_ st5
  refine Rn.pu (T' := T5) (g' := (mkF m 52 #[.val (.ref x), .val (.ref b), .val (.int (0 : Int32)), .val (.int (Int32.ofNat cs.length)), .val .null, .val (.ref d3)] [(.ref x)])) ?_ fun _ zk => XS.aloadN H5.here hx rfl (hb hby d_jdk_42_m149_51) rfl rfl zk
  refine Rn.pu (T' := T5) (g' := (mkF m 54 #[.val (.ref x), .val (.ref b), .val (.int (0 : Int32)), .val (.int (Int32.ofNat cs.length)), .val .null, .val (.ref d3)] [(.ref d3), (.ref x)])) ?_ fun _ zk => XS.aload H5.here hx rfl (hb hby d_jdk_42_m149_52) rfl rfl zk
  obtain ⟨T6, h6, H6, K6, W6, st6⟩ := H5.putF (host := "") (Or.inl (hw _ (List.mem_of_getElem? (i := 27) rfl))) Via.refl F5_value E5 (Or.inr ⟨(hw _ (List.mem_of_getElem? (i := 23) rfl)), rfl, hnm⟩) (hw _ (List.mem_of_getElem? (i := 9) rfl)) (ty := (.array .byte)) (by decide) rfl rfl (Or.inl (List.mem_singleton.mpr rfl)) (g := (mkF m 54 #[.val (.ref x), .val (.ref b), .val (.int (0 : Int32)), .val (.int (Int32.ofNat cs.length)), .val .null, .val (.ref d3)] [(.ref d3), (.ref x)])) rfl rfl (hb hby d_jdk_42_m149_54)
  have zh6 := K6.1
  have F6_value : Fld Z h6 x "java/lang/String" "value" "[B" (.ref d3) := F5_value.same W6
  have E6 := E5.keep K6
  have F6_coder : Fld Z h6 x "java/lang/String" "coder" "B" (.int (1 : Int32)) := F5_coder.other W6 (Or.inr (slot_ne (Or.inr (hw _ (List.mem_of_getElem? (i := 24) rfl))) (Or.inr (hw _ (List.mem_of_getElem? (i := 23) rfl))) (by decide) (t := .byte) (t' := (.array .byte)) (by decide) (by decide)))
  refine Rn.pu (g' := (mkF m 57 #[.val (.ref x), .val (.ref b), .val (.int (0 : Int32)), .val (.int (Int32.ofNat cs.length)), .val .null, .val (.ref d3)] [])) ?_ st6
  exact H6.retV ends_N hlk hret (hb hby d_jdk_42_m149_57) (by decide) (by decide) (fun _ q => q) ⟨rfl, d3, ⟨hc, by omega, E6, F6_value, 1, _, _, _, F6_coder, ((A3.keep K5 (ninS (adne (by omega)) nin0)).keep K6 (ninS (adne (by omega)) nin0)), Or.inr ⟨rfl, rfl, rfl, hbig⟩⟩, by omega⟩
set_option maxRecDepth 65536 in
set_option maxHeartbeats 40000000 in
theorem c_nwu1 (l : Launch) {Z : State} {a0 : Array Value} {zc : Int32} (B : Base Z a0 zc) (x b : Addr) (kC : ClassId) (dv : Value) (cs : List Int32) (h0 : Heap) (O : Ext Z.heap h0) (hn : cs.length ≤ 511) (h1 : 0 < cs.length) (hc : ∀ c ∈ cs, ¬ c < 0 ∧ ¬ (65535 : Int32) < c) (hbig : ∃ c ∈ cs, (255 : Int32) < c) (AB : Arv Z h0 b kC .char (Int32.ofNat cs.length) (cs.map Value.int) dv) (E : Exa Z h0 x "java/lang/String") (G1 : Fld Z h0 x "java/lang/String" "value" "[B" .null) (G2 : Fld Z h0 x "java/lang/String" "coder" "B" (.int (0 : Int32))) (gx : Z.heap.size ≤ x) :
    MetN l Z (⟨"java/lang/String", "<init>", "([C)V"⟩ : MethodName) jdk_42_method_3_code 2 none [] ({ frames := 5, cells := 2, slots := 1533, locals := 74 } : Room) #[(.ref x), (.ref b)] h0 [x] (fun v h => v = none ∧ ∃ t, Str Z h x t cs ∧ h.size > t) := by
  obtain ⟨hw, SC0, hz0, SU2, SU3, SU4, hh7, hcw⟩ := B
  refine MetN.mk (plainFor_of_name pn_java_lang_String) (fun m => ef_c_nwu1 m x b) O ?_
  intro p e s m below meth c T0 hx hby hml hret hlk hnm hsh H0
  have zs : s.heap.size = h0.size := by rw [hsh]
  have lx := natlt (E).lt
  have lb := natlt (AB).lt
  have H0 := H0.weak (ws' := [x]) (fun _ q => nomatch q) (allS gx all0)
  refine Rn.pu (T' := T0) (g' := (mkF m 1 #[.val (.ref x), .val (.ref b)] [(.ref x)])) ?_ fun _ zk => XS.aloadN H0.here hx rfl (hb hby d_jdk_42_m3_0) rfl rfl zk
  refine Rn.pu (T' := T0) (g' := (mkF m 2 #[.val (.ref x), .val (.ref b)] [(.ref b), (.ref x)])) ?_ fun _ zk => XS.aloadN H0.here hx rfl (hb hby d_jdk_42_m3_1) rfl rfl zk
  refine Rn.pu (T' := T0) (g' := (mkF m 3 #[.val (.ref x), .val (.ref b)] [(.int (0 : Int32)), (.ref b), (.ref x)])) ?_ fun _ zk => XS.iconst H0.here hx rfl (hb hby d_jdk_42_m3_2) zk
  refine Rn.pu (T' := T0) (g' := (mkF m 4 #[.val (.ref x), .val (.ref b)] [(.ref b), (.int (0 : Int32)), (.ref b), (.ref x)])) ?_ fun _ zk => XS.aloadN H0.here hx rfl (hb hby d_jdk_42_m3_3) rfl rfl zk
  refine Rn.pu (g' := (mkF m 5 #[.val (.ref x), .val (.ref b)] [(.int (Int32.ofNat cs.length)), (.int (0 : Int32)), (.ref b), (.ref x)])) ?_ (H0.alen AB (g := (mkF m 4 #[.val (.ref x), .val (.ref b)] [(.ref b), (.int (0 : Int32)), (.ref b), (.ref x)])) rfl rfl (hb hby d_jdk_42_m3_4))
  refine Rn.pu (T' := T0) (g' := (mkF m 6 #[.val (.ref x), .val (.ref b)] [.null, (.int (Int32.ofNat cs.length)), (.int (0 : Int32)), (.ref b), (.ref x)])) ?_ fun _ zk => XS.aconstNull H0.here hx rfl (hb hby d_jdk_42_m3_5) zk
  obtain ⟨_, T1, h1, H1, ⟨rfl, t1, S1, lt1⟩, K1, st1⟩ := H0.callI rfl (hw _ (List.mem_of_getElem? (i := 14) rfl)) (hw _ (List.mem_of_getElem? (i := 15) rfl)) (hw _ (List.mem_of_getElem? (i := 17) rfl)) (by decide) (MetN.pay (W := 0) (c_nwu4 l ⟨hw, SC0, hz0, SU2, SU3, SU4, hh7, hcw⟩ x b kC dv cs h0 H0.old hn h1 hc hbig AB E G1 G2 gx) (hw _ (List.mem_of_getElem? (i := 17) rfl)) (hw _ (List.mem_of_getElem? (i := 10) rfl)) (by decide) (by decide)) (g := (mkF m 6 #[.val (.ref x), .val (.ref b)] [.null, (.int (Int32.ofNat cs.length)), (.int (0 : Int32)), (.ref b), (.ref x)])) rfl (by rw [hml]; rfl) (argsL := [(.ref b), (.int (0 : Int32)), (.int (Int32.ofNat cs.length)), .null]) (rest := []) (lenOf pd__ACIILjava_lang_Void__V rfl) rfl rfl (Nat.le_of_eq rfl) (hb hby d_jdk_42_m3_6) (by decide) (by decide) (allS (Or.inl (List.mem_singleton.mpr rfl)) all0)
  have zh1 := K1.1
  refine Rn.pu (g' := (mkF m 9 #[.val (.ref x), .val (.ref b)] [])) ?_ st1
  exact H1.retV ends_N hlk hret (hb hby d_jdk_42_m3_9) (by decide) (by decide) (fun _ q => q) ⟨rfl, t1, S1, by omega⟩
theorem payNewU {R : Room} {p : Program} {e : Env} {args : Array Value} {below : List Frame} (l : Launch) {Z : State} {a0 : Array Value} {zc : Int32} (B : Base Z a0 zc) {W : Nat} {x b : Addr} {kC : ClassId} {dv : Value} {cs : List Int32} {n : Nat} {N : Int32} {h : Heap} (O : Ext Z.heap h) (hl : cs.length = n) (hN : N = Int32.ofNat n) (hn : n ≤ 511) (h1 : 0 < n) (hc : ∀ c ∈ cs, ¬ c < 0 ∧ ¬ (65535 : Int32) < c) (AB : Arv Z h b kC .char N (cs.map Value.int) dv) (E : Exa Z h x "java/lang/String") (G1 : Fld Z h x "java/lang/String" "value" "[B" .null) (G2 : Fld Z h x "java/lang/String" "coder" "B" (.int (0 : Int32))) (gx : Z.heap.size ≤ x) (hfr : 6 ≤ R.frames) (hlo : W + 87 ≤ R.locals) :
    PayM l R p e below args Z (⟨"java/lang/String", "<init>", "([C)V"⟩ : MethodName) W #[.ref x, .ref b] h 2 1533 [x] (fun v h' => v = none ∧ ∃ t, Str Z h' x t cs ∧ h'.size > t) := by
  subst hl hN
  have B' := B
  obtain ⟨hw, SC0, hz0, SU2, SU3, SU4, hh7, hcw⟩ := B
  by_cases hbig : ∃ c ∈ cs, (255 : Int32) < c
  · exact ⟨2, 1533, Nat.le_refl _, Nat.le_refl _, MetN.pay (W := W) (c_nwu1 l B' x b kC dv cs h O hn h1 hc hbig AB E G1 G2 gx) (hw _ (List.mem_of_getElem? (i := 13) rfl)) (hw _ (List.mem_of_getElem? (i := 10) rfl)) hfr (by show W + (2 + 11) + 74 ≤ R.locals; omega)⟩
  · refine ⟨1, cs.length, by omega, by omega, fun s hZ => Back.mono (payNew (cs := cs) (n := cs.length) (W := W) (hws_new hw) (hw _ (List.mem_of_getElem? (i := 9) rfl)) E G1 G2 AB (SC0.ext O) hz0 rfl rfl h1 (by omega) (fun c q => ⟨(hc c q).1, fun r => hbig ⟨c, q, r⟩⟩) (by omega) (by omega) s hZ) (fun P a hp => hp) (fun P a v B hp' hq => ?_)⟩
    obtain ⟨L, ⟨⟨q1, t, -, q2, q3⟩, q4, q5⟩, hr⟩ := hq
    exact ⟨L, ⟨⟨q1, t, q3, q2⟩, q4, q5⟩, hr⟩
set_option maxRecDepth 65536 in
set_option maxHeartbeats 40000000 in
theorem c_new0 (l : Launch) {Z : State} {a0 : Array Value} {zc : Int32} (B : Base Z a0 zc) (Ts : List String) (hTs : "" ∉ Ts) (P : Vm → Prop) (hP : ∀ (U : State) (vm1 : Vm), U.Warmed39 vm1 → P U.vm → P vm1) (x b : Addr) (h0 : Heap) (O : Ext Z.heap h0) (E : Exa Z h0 x "java/lang/String") (G1 : Fld Z h0 x "java/lang/String" "value" "[B" .null) (G2 : Fld Z h0 x "java/lang/String" "coder" "B" (.int (0 : Int32))) (gx : Z.heap.size ≤ x) :
    MetW l Z (⟨"java/lang/String", "<init>", "([CIILjava/lang/Void;)V"⟩ : MethodName) jdk_42_method_149_code 6 none [] ({ frames := 1, cells := 2, slots := 4, locals := 12 } : Room) #[(.ref x), (.ref b), (.int (0 : Int32)), (.int (0 : Int32)), .null] h0 [x] ((ELg Z Ts P h0)) (fun v vm h => v = none ∧ ELg Z Ts P h vm ∧ ∃ t, Str Z h x t [] ∧ h.size > t) := by
  obtain ⟨hw, SC0, hz0, SU2, SU3, SU4, hh7, hcw⟩ := B
  refine MetW.mk (plainFor_of_name pn_java_lang_String) (fun m => ef_c_new0 m x b (0 : Int32) (0 : Int32)) O ?_
  intro p e s m below meth c T0 hx hby hml hret hlk hnm hsh H0
  have zs : s.heap.size = h0.size := by rw [hsh]
  have lx := natlt (E).lt
  refine Rn.pu (T' := T0) (g' := (mkF m 1 #[.val (.ref x), .val (.ref b), .val (.int (0 : Int32)), .val (.int (0 : Int32)), .val .null, .unset] [(.ref x)])) ?_ fun _ zk => XS.aloadN H0.here hx rfl (hb hby d_jdk_42_m149_0) rfl rfl zk
  obtain ⟨T1, H1, st1⟩ := H0.initO (hw _ (List.mem_of_getElem? (i := 18) rfl)) (hw _ (List.mem_of_getElem? (i := 19) rfl)) (hw _ (List.mem_of_getElem? (i := 20) rfl)) (g := (mkF m 1 #[.val (.ref x), .val (.ref b), .val (.int (0 : Int32)), .val (.int (0 : Int32)), .val .null, .unset] [(.ref x)])) rfl (by rw [hml]; rfl) rfl (hb hby d_jdk_42_m149_1) (by decide) (W := 0) (Nat.le_of_eq rfl) (by decide)
  refine Rn.pu (g' := (mkF m 4 #[.val (.ref x), .val (.ref b), .val (.int (0 : Int32)), .val (.int (0 : Int32)), .val .null, .unset] [])) ?_ st1
  refine Rn.pu (T' := T1) (g' := (mkF m 5 #[.val (.ref x), .val (.ref b), .val (.int (0 : Int32)), .val (.int (0 : Int32)), .val .null, .unset] [(.int (0 : Int32))])) ?_ fun _ zk => XS.iloadN H1.here hx rfl (hb hby d_jdk_42_m149_4) rfl zk
  refine Rn.pu (T' := T1) (g' := (mkF m 8 #[.val (.ref x), .val (.ref b), .val (.int (0 : Int32)), .val (.int (0 : Int32)), .val .null, .unset] [])) ?_ fun _ zk => XS.ifNo H1.here hx rfl (hb hby d_jdk_42_m149_5) rfl (z_ne_f rfl) zk
  refine Rn.pu (T' := T1) (g' := (mkF m 9 #[.val (.ref x), .val (.ref b), .val (.int (0 : Int32)), .val (.int (0 : Int32)), .val .null, .unset] [(.ref x)])) ?_ fun _ zk => XS.aloadN H1.here hx rfl (hb hby d_jdk_42_m149_8) rfl rfl zk
  obtain ⟨al, tl, T9, h9, H9, K9, S9, st9⟩ := H1.ldcE (fun _ q => q) hTs hP (hw _ (List.mem_of_getElem? (i := 21) rfl)) (hws_sa hw) hh7 hcw (g := (mkF m 9 #[.val (.ref x), .val (.ref b), .val (.int (0 : Int32)), .val (.int (0 : Int32)), .val .null, .unset] [(.ref x)])) rfl (hb hby d_jdk_42_m149_9) (by decide) (by decide)
  have zh9 := K9.1
  obtain ⟨nea, net⟩ := S9.ne_new (E.keep K9) (G1.keep K9 nin0) (hw _ (List.mem_of_getElem? (i := 9) rfl))
  have H9 := H9.weak (ws' := [x]) (fun _ q => nomatch q) (allS gx all0)
  refine Rn.pu (g' := (mkF m 11 #[.val (.ref x), .val (.ref b), .val (.int (0 : Int32)), .val (.int (0 : Int32)), .val .null, .unset] [(.ref al), (.ref x)])) ?_ st9
  obtain ⟨T2, H2, st2⟩ := H9.getF (host := "") (Or.inl (hw _ (List.mem_of_getElem? (i := 27) rfl))) Via.refl S9.fv (g := (mkF m 11 #[.val (.ref x), .val (.ref b), .val (.int (0 : Int32)), .val (.int (0 : Int32)), .val .null, .unset] [(.ref al), (.ref x)])) rfl rfl (hb hby d_jdk_42_m149_11)
  refine Rn.pu (g' := (mkF m 14 #[.val (.ref x), .val (.ref b), .val (.int (0 : Int32)), .val (.int (0 : Int32)), .val .null, .unset] [(.ref tl), (.ref x)])) ?_ st2
  obtain ⟨T3, h3, H3, K3, W3, st3⟩ := H2.putF (host := "") (Or.inl (hw _ (List.mem_of_getElem? (i := 27) rfl))) Via.refl (G1.keep K9 nin0) (E.keep K9) (Or.inr ⟨(hw _ (List.mem_of_getElem? (i := 23) rfl)), rfl, hnm⟩) (hw _ (List.mem_of_getElem? (i := 9) rfl)) (ty := (.array .byte)) (by decide) rfl rfl (Or.inl (List.mem_singleton.mpr rfl)) (g := (mkF m 14 #[.val (.ref x), .val (.ref b), .val (.int (0 : Int32)), .val (.int (0 : Int32)), .val .null, .unset] [(.ref tl), (.ref x)])) rfl rfl (hb hby d_jdk_42_m149_14)
  have zh3 := K3.1
  have F3_value : Fld Z h3 x "java/lang/String" "value" "[B" (.ref tl) := (G1.keep K9 nin0).same W3
  have E3 := (E.keep K9).keep K3
  have F3_coder : Fld Z h3 x "java/lang/String" "coder" "B" (.int (0 : Int32)) := (G2.keep K9 nin0).other W3 (Or.inr (slot_ne (Or.inr (hw _ (List.mem_of_getElem? (i := 24) rfl))) (Or.inr (hw _ (List.mem_of_getElem? (i := 23) rfl))) (by decide) (t := .byte) (t' := (.array .byte)) (by decide) (by decide)))
  refine Rn.pu (g' := (mkF m 17 #[.val (.ref x), .val (.ref b), .val (.int (0 : Int32)), .val (.int (0 : Int32)), .val .null, .unset] [])) ?_ st3
  refine Rn.pu (T' := T3) (g' := (mkF m 18 #[.val (.ref x), .val (.ref b), .val (.int (0 : Int32)), .val (.int (0 : Int32)), .val .null, .unset] [(.ref x)])) ?_ fun _ zk => XS.aloadN H3.here hx rfl (hb hby d_jdk_42_m149_17) rfl rfl zk
  refine Rn.pu (g' := (mkF m 20 #[.val (.ref x), .val (.ref b), .val (.int (0 : Int32)), .val (.int (0 : Int32)), .val .null, .unset] [(.ref al), (.ref x)])) ?_ (H3.ldcA (a := al) (fun _ q => q.2.2) (hw _ (List.mem_of_getElem? (i := 21) rfl)) (g := (mkF m 18 #[.val (.ref x), .val (.ref b), .val (.int (0 : Int32)), .val (.int (0 : Int32)), .val .null, .unset] [(.ref x)])) rfl (hb hby d_jdk_42_m149_18))
  obtain ⟨T4, H4, st4⟩ := H3.getF (host := "") (Or.inl (hw _ (List.mem_of_getElem? (i := 28) rfl))) Via.refl ((S9.fc mem0).keep K3 (ninS (adne (by omega)) nin0)) (g := (mkF m 20 #[.val (.ref x), .val (.ref b), .val (.int (0 : Int32)), .val (.int (0 : Int32)), .val .null, .unset] [(.ref al), (.ref x)])) rfl rfl (hb hby d_jdk_42_m149_20)
  refine Rn.pu (g' := (mkF m 23 #[.val (.ref x), .val (.ref b), .val (.int (0 : Int32)), .val (.int (0 : Int32)), .val .null, .unset] [(.int (0 : Int32)), (.ref x)])) ?_ st4
  obtain ⟨T5, h5, H5, K5, W5, st5⟩ := H4.putF (host := "") (Or.inl (hw _ (List.mem_of_getElem? (i := 28) rfl))) Via.refl F3_coder E3 (Or.inr ⟨(hw _ (List.mem_of_getElem? (i := 24) rfl)), rfl, hnm⟩) (hw _ (List.mem_of_getElem? (i := 9) rfl)) (ty := .byte) (by decide) rfl rfl (Or.inl (List.mem_singleton.mpr rfl)) (g := (mkF m 23 #[.val (.ref x), .val (.ref b), .val (.int (0 : Int32)), .val (.int (0 : Int32)), .val .null, .unset] [(.int (0 : Int32)), (.ref x)])) rfl rfl (hb hby d_jdk_42_m149_23)
  have zh5 := K5.1
  have F5_coder : Fld Z h5 x "java/lang/String" "coder" "B" (.int (0 : Int32)) := F3_coder.same W5
  have E5 := E3.keep K5
  have F5_value : Fld Z h5 x "java/lang/String" "value" "[B" (.ref tl) := F3_value.other W5 (Or.inr (slot_ne (Or.inr (hw _ (List.mem_of_getElem? (i := 23) rfl))) (Or.inr (hw _ (List.mem_of_getElem? (i := 24) rfl))) (by decide) (t := (.array .byte)) (t' := .byte) (by decide) (by decide)))
  refine Rn.pu (g' := (mkF m 26 #[.val (.ref x), .val (.ref b), .val (.int (0 : Int32)), .val (.int (0 : Int32)), .val .null, .unset] [])) ?_ st5
  have SE := ((S9.keep K3 (ninS (adne (by omega)) nin0) (ninS (adne (by omega)) nin0)).keep K5 (ninS (adne (by omega)) nin0) (ninS (adne (by omega)) nin0))
  have ltl := natlt (SE).ltt
  have qv := H5.vm (fun U vm1 hW q => ⟨hP _ _ hW.wide q.1, ib_stab hW q.2.1, q.2.2.stab hW.wide⟩)
  exact H5.retV ends_W hlk hret (hb hby d_jdk_42_m149_26) (by decide) (by decide) (fun _ q => q) ⟨rfl, ⟨qv.1, Or.inr ⟨qv.2.1, al, tl, qv.2.2, SE⟩⟩, tl, SE.re mem0 E5 F5_value F5_coder, ltl⟩
set_option maxRecDepth 65536 in
set_option maxHeartbeats 40000000 in
theorem c_new1 (l : Launch) {Z : State} {a0 : Array Value} {zc : Int32} (B : Base Z a0 zc) (Ts : List String) (hTs : "" ∉ Ts) (P : Vm → Prop) (hP : ∀ (U : State) (vm1 : Vm), U.Warmed39 vm1 → P U.vm → P vm1) (x b : Addr) (kB : ClassId) (dv : Value) (h0 : Heap) (O : Ext Z.heap h0) (E : Exa Z h0 x "java/lang/String") (G1 : Fld Z h0 x "java/lang/String" "value" "[B" .null) (G2 : Fld Z h0 x "java/lang/String" "coder" "B" (.int (0 : Int32))) (gx : Z.heap.size ≤ x) (AB : Arv Z h0 b kB .char (0 : Int32) [] dv) :
    MetW l Z (⟨"java/lang/String", "<init>", "([C)V"⟩ : MethodName) jdk_42_method_3_code 2 none [] ({ frames := 2, cells := 2, slots := 4, locals := 29 } : Room) #[(.ref x), (.ref b)] h0 [x] ((ELg Z Ts P h0)) (fun v vm h => v = none ∧ ELg Z Ts P h vm ∧ ∃ t, Str Z h x t [] ∧ h.size > t) := by
  obtain ⟨hw, SC0, hz0, SU2, SU3, SU4, hh7, hcw⟩ := B
  refine MetW.mk (plainFor_of_name pn_java_lang_String) (fun m => ef_c_new1 m x b) O ?_
  intro p e s m below meth c T0 hx hby hml hret hlk hnm hsh H0
  have zs : s.heap.size = h0.size := by rw [hsh]
  have lx := natlt (E).lt
  have H0 := H0.weak (ws' := [x]) (fun _ q => nomatch q) (allS gx all0)
  refine Rn.pu (T' := T0) (g' := (mkF m 1 #[.val (.ref x), .val (.ref b)] [(.ref x)])) ?_ fun _ zk => XS.aloadN H0.here hx rfl (hb hby d_jdk_42_m3_0) rfl rfl zk
  refine Rn.pu (T' := T0) (g' := (mkF m 2 #[.val (.ref x), .val (.ref b)] [(.ref b), (.ref x)])) ?_ fun _ zk => XS.aloadN H0.here hx rfl (hb hby d_jdk_42_m3_1) rfl rfl zk
  refine Rn.pu (T' := T0) (g' := (mkF m 3 #[.val (.ref x), .val (.ref b)] [(.int (0 : Int32)), (.ref b), (.ref x)])) ?_ fun _ zk => XS.iconst H0.here hx rfl (hb hby d_jdk_42_m3_2) zk
  refine Rn.pu (T' := T0) (g' := (mkF m 4 #[.val (.ref x), .val (.ref b)] [(.ref b), (.int (0 : Int32)), (.ref b), (.ref x)])) ?_ fun _ zk => XS.aloadN H0.here hx rfl (hb hby d_jdk_42_m3_3) rfl rfl zk
  refine Rn.pu (g' := (mkF m 5 #[.val (.ref x), .val (.ref b)] [(.int (0 : Int32)), (.int (0 : Int32)), (.ref b), (.ref x)])) ?_ (H0.alen AB (g := (mkF m 4 #[.val (.ref x), .val (.ref b)] [(.ref b), (.int (0 : Int32)), (.ref b), (.ref x)])) rfl rfl (hb hby d_jdk_42_m3_4))
  refine Rn.pu (T' := T0) (g' := (mkF m 6 #[.val (.ref x), .val (.ref b)] [.null, (.int (0 : Int32)), (.int (0 : Int32)), (.ref b), (.ref x)])) ?_ fun _ zk => XS.aconstNull H0.here hx rfl (hb hby d_jdk_42_m3_5) zk
  obtain ⟨_, T1, h1, H1, ⟨rfl, V1, t1, S1, lt1⟩, K1, st1⟩ := H0.callIW rfl (hw _ (List.mem_of_getElem? (i := 14) rfl)) (hw _ (List.mem_of_getElem? (i := 15) rfl)) (hw _ (List.mem_of_getElem? (i := 17) rfl)) (by decide) (MetW.pay (W := 0) (c_new0 l ⟨hw, SC0, hz0, SU2, SU3, SU4, hh7, hcw⟩ Ts hTs P hP x b h0 H0.old E G1 G2 gx) (hw _ (List.mem_of_getElem? (i := 17) rfl)) (hw _ (List.mem_of_getElem? (i := 10) rfl)) (by decide) (by decide)) (g := (mkF m 6 #[.val (.ref x), .val (.ref b)] [.null, (.int (0 : Int32)), (.int (0 : Int32)), (.ref b), (.ref x)])) rfl (by rw [hml]; rfl) (argsL := [(.ref b), (.int (0 : Int32)), (.int (0 : Int32)), .null]) (rest := []) (lenOf pd__ACIILjava_lang_Void__V rfl) rfl rfl (Nat.le_of_eq rfl) (hb hby d_jdk_42_m3_6) (by decide) (by decide) (allS (Or.inl (List.mem_singleton.mpr rfl)) all0) (fun U vm1 hV hW => ELg.stab hP hW hV)
  have zh1 := K1.1
  have H1 := H1.reV (V' := (ELg Z Ts P h1)) (fun v hv => by rw [hv]; exact V1)
  refine Rn.pu (g' := (mkF m 9 #[.val (.ref x), .val (.ref b)] [])) ?_ st1
  exact H1.retV ends_W hlk hret (hb hby d_jdk_42_m3_9) (by decide) (by decide) (fun _ q => q) ⟨rfl, H1.vm (fun U vm1 hW q => ELg.stab hP hW q), t1, S1, lt1⟩
set_option maxRecDepth 65536 in
set_option maxHeartbeats 40000000 in
theorem c_cp4 (l : Launch) {Z : State} {a0 : Array Value} {zc : Int32} (B : Base Z a0 zc) (d : Addr) (kB : ClassId) (cs : List Int32) (h0 : Heap) (O : Ext Z.heap h0) (h1 : 0 < cs.length) (hn : cs.length ≤ 511) (hc : ∀ c ∈ cs, ¬ c < 0 ∧ ¬ (65535 : Int32) < c) (AD : Arv Z h0 d kB .byte (Int32.ofNat (2 * cs.length)) (StrChars.Road.wideBytes cs) (.int 0)) :
    MetN l Z (⟨"java/lang/StringUTF16", "codePointCount", "([BIIZ)I"⟩ : MethodName) jdk_52_method_11_code 6 (some .int) [] ({ frames := 1, cells := 0, slots := 0, locals := 13 } : Room) #[(.ref d), (.int (0 : Int32)), (.int (Int32.ofNat cs.length)), (.int (0 : Int32))] h0 [] (fun v h => v = some (.int (Int32.ofNat (cs.length - own_pairs cs))) ∧ h0 = h) := by
  obtain ⟨hw, SC0, hz0, SU2, SU3, SU4, hh7, hcw⟩ := B
  refine MetN.mk (plainFor_of_name pn_java_lang_StringUTF16) (fun m => ef_c_cp4 m d (0 : Int32) (Int32.ofNat cs.length) (0 : Int32)) O ?_
  intro p e s m below meth c T0 hx hby hml hret hlk hnm hsh H0
  have zs : s.heap.size = h0.size := by rw [hsh]
  obtain ⟨T1, H1, st1⟩ := H0.getS (host := "") (Or.inl (hw _ (List.mem_of_getElem? (i := 99) rfl))) Via.refl (SU2.ext H0.old) (g := (mkF m 0 #[.val (.ref d), .val (.int (0 : Int32)), .val (.int (Int32.ofNat cs.length)), .val (.int (0 : Int32)), .unset, .unset] [])) rfl (hb hby d_jdk_52_m11_0)
  refine Rn.pu (g' := (mkF m 3 #[.val (.ref d), .val (.int (0 : Int32)), .val (.int (Int32.ofNat cs.length)), .val (.int (0 : Int32)), .unset, .unset] [(.int (1 : Int32))])) ?_ st1
  refine Rn.pu (T' := T1) (g' := (mkF m 19 #[.val (.ref d), .val (.int (0 : Int32)), .val (.int (Int32.ofNat cs.length)), .val (.int (0 : Int32)), .unset, .unset] [])) ?_ fun _ zk => XS.ifYes H1.here hx rfl (pc0 := 3) (pc' := 19) rfl (hb hby d_jdk_52_m11_3) rfl (z_ne_t (by decide)) (by decide) (by decide) zk
  refine Rn.pu (T' := T1) (g' := (mkF m 20 #[.val (.ref d), .val (.int (0 : Int32)), .val (.int (Int32.ofNat cs.length)), .val (.int (0 : Int32)), .unset, .unset] [(.int (Int32.ofNat cs.length))])) ?_ fun _ zk => XS.iloadN H1.here hx rfl (hb hby d_jdk_52_m11_19) rfl zk
  refine Rn.pu (T' := T1) (g' := (mkF m 21 #[.val (.ref d), .val (.int (0 : Int32)), .val (.int (Int32.ofNat cs.length)), .val (.int (0 : Int32)), .unset, .unset] [(.int (0 : Int32)), (.int (Int32.ofNat cs.length))])) ?_ fun _ zk => XS.iloadN H1.here hx rfl (hb hby d_jdk_52_m11_20) rfl zk
  refine Rn.pu (T' := T1) (g' := (mkF m 22 #[.val (.ref d), .val (.int (0 : Int32)), .val (.int (Int32.ofNat cs.length)), .val (.int (0 : Int32)), .unset, .unset] [(.int ((Int32.ofNat cs.length) - (0 : Int32)))])) ?_ fun _ zk => XS.isub H1.here hx rfl (hb hby d_jdk_52_m11_21) rfl zk
  rw [Int32.sub_zero]
  refine Rn.pu (T' := T1) (g' := (mkF m 24 #[.val (.ref d), .val (.int (0 : Int32)), .val (.int (Int32.ofNat cs.length)), .val (.int (0 : Int32)), .val (.int (Int32.ofNat cs.length)), .unset] [])) ?_ fun _ zk => XS.istore H1.here hx rfl (hb hby d_jdk_52_m11_22) rfl (l' := #[.val (.ref d), .val (.int (0 : Int32)), .val (.int (Int32.ofNat cs.length)), .val (.int (0 : Int32)), .val (.int (Int32.ofNat cs.length)), .unset]) rfl zk
  refine Rn.pu (T' := T1) (g' := (mkF m 25 #[.val (.ref d), .val (.int (0 : Int32)), .val (.int (Int32.ofNat cs.length)), .val (.int (0 : Int32)), .val (.int (Int32.ofNat cs.length)), .unset] [(.int (0 : Int32))])) ?_ fun _ zk => XS.iloadN H1.here hx rfl (hb hby d_jdk_52_m11_24) rfl zk
  refine Rn.pu (T' := T1) (g' := (mkF m 27 #[.val (.ref d), .val (.int (0 : Int32)), .val (.int (Int32.ofNat cs.length)), .val (.int (0 : Int32)), .val (.int (Int32.ofNat cs.length)), .val (.int (0 : Int32))] [])) ?_ fun _ zk => XS.istore H1.here hx rfl (hb hby d_jdk_52_m11_25) rfl (l' := #[.val (.ref d), .val (.int (0 : Int32)), .val (.int (Int32.ofNat cs.length)), .val (.int (0 : Int32)), .val (.int (Int32.ofNat cs.length)), .val (.int (0 : Int32))]) rfl zk
  refine Rn.pu (T' := T1) (g' := (mkF m 28 #[.val (.ref d), .val (.int (0 : Int32)), .val (.int (Int32.ofNat cs.length)), .val (.int (0 : Int32)), .val (.int (Int32.ofNat cs.length)), .val (.int (0 : Int32))] [(.int (0 : Int32))])) ?_ fun _ zk => XS.iloadN H1.here hx rfl (hb hby d_jdk_52_m11_27) rfl zk
  refine Rn.pu (T' := T1) (g' := (mkF m 44 #[.val (.ref d), .val (.int (0 : Int32)), .val (.int (Int32.ofNat cs.length)), .val (.int (0 : Int32)), .val (.int (Int32.ofNat cs.length)), .val (.int (0 : Int32))] [])) ?_ fun _ zk => XS.ifYes H1.here hx rfl (pc0 := 28) (pc' := 44) rfl (hb hby d_jdk_52_m11_28) rfl (z_eq_t rfl) (by decide) (by decide) zk
  have LP : ∀ (k i c1 : Nat) (T : State), i + k = cs.length → c1 = cs.length - own_pairs cs + own_pairs (cs.drop i) → Hs p l e ({ frames := 1, cells := 0, slots := 0, locals := 13 } : Room) s m #[(.ref d), (.int (0 : Int32)), (.int (Int32.ofNat cs.length)), (.int (0 : Int32))] below meth c Z "java/lang/StringUTF16" [] (fun v => v = s.vm) T h0 0 0 → Rn p e below s FrameEnd [] (({ frames := 1, cells := 0, slots := 0, locals := 13 } : Room)).cells (({ frames := 1, cells := 0, slots := 0, locals := 13 } : Room)).slots (fun v _ h => v = some (.int (Int32.ofNat (cs.length - own_pairs cs))) ∧ h0 = h) T (mkF m 44 #[.val (.ref d), .val (.int 0), .val (.int (Int32.ofNat cs.length)), .val (.int 0), .val (.int (Int32.ofNat c1)), .val (.int (Int32.ofNat i))] []) := by
    intro k
    induction k using Nat.strongRecOn with
    | ind k ih =>
      intro i c1 T hi hc1 HL
      have hpl := own_pairs_le cs
      have hc2 : c1 ≤ 8000 := by have := own_pairs_le (cs.drop i); rw [List.length_drop] at this; omega
      refine Rn.pu (T' := T) (g' := (mkF m 46 #[.val (.ref d), .val (.int (0 : Int32)), .val (.int (Int32.ofNat cs.length)), .val (.int (0 : Int32)), .val (.int (Int32.ofNat c1)), .val (.int (Int32.ofNat i))] [(.int (Int32.ofNat i))])) ?_ fun _ zk => XS.iload HL.here hx rfl (hb hby d_jdk_52_m11_44) rfl zk
      refine Rn.pu (T' := T) (g' := (mkF m 47 #[.val (.ref d), .val (.int (0 : Int32)), .val (.int (Int32.ofNat cs.length)), .val (.int (0 : Int32)), .val (.int (Int32.ofNat c1)), .val (.int (Int32.ofNat i))] [(.int (Int32.ofNat cs.length)), (.int (Int32.ofNat i))])) ?_ fun _ zk => XS.iloadN HL.here hx rfl (hb hby d_jdk_52_m11_46) rfl zk
      refine Rn.pu (T' := T) (g' := (mkF m 48 #[.val (.ref d), .val (.int (0 : Int32)), .val (.int (Int32.ofNat cs.length)), .val (.int (0 : Int32)), .val (.int (Int32.ofNat c1)), .val (.int (Int32.ofNat i))] [(.int (1 : Int32)), (.int (Int32.ofNat cs.length)), (.int (Int32.ofNat i))])) ?_ fun _ zk => XS.iconst HL.here hx rfl (hb hby d_jdk_52_m11_47) zk
      refine Rn.pu (T' := T) (g' := (mkF m 49 #[.val (.ref d), .val (.int (0 : Int32)), .val (.int (Int32.ofNat cs.length)), .val (.int (0 : Int32)), .val (.int (Int32.ofNat c1)), .val (.int (Int32.ofNat i))] [(.int ((Int32.ofNat cs.length) - (1 : Int32))), (.int (Int32.ofNat i))])) ?_ fun _ zk => XS.isub HL.here hx rfl (hb hby d_jdk_52_m11_48) rfl zk
      rw [own_pred h1]
      by_cases hlt : i < cs.length - 1
      ·
        have hst := own_pairs_step (cs := cs) (i := i) (by omega)
        refine Rn.pu (T' := T) (g' := (mkF m 52 #[.val (.ref d), .val (.int (0 : Int32)), .val (.int (Int32.ofNat cs.length)), .val (.int (0 : Int32)), .val (.int (Int32.ofNat c1)), .val (.int (Int32.ofNat i))] [])) ?_ fun _ zk => XS.icmpNo HL.here hx rfl (hb hby d_jdk_52_m11_49) rfl (c_ge_f (u_lt hlt (by omega))) zk
        refine Rn.pu (T' := T) (g' := (mkF m 53 #[.val (.ref d), .val (.int (0 : Int32)), .val (.int (Int32.ofNat cs.length)), .val (.int (0 : Int32)), .val (.int (Int32.ofNat c1)), .val (.int (Int32.ofNat i))] [(.ref d)])) ?_ fun _ zk => XS.aloadN HL.here hx rfl (hb hby d_jdk_52_m11_52) rfl rfl zk
        refine Rn.pu (T' := T) (g' := (mkF m 55 #[.val (.ref d), .val (.int (0 : Int32)), .val (.int (Int32.ofNat cs.length)), .val (.int (0 : Int32)), .val (.int (Int32.ofNat c1)), .val (.int (Int32.ofNat i))] [(.int (Int32.ofNat i)), (.ref d)])) ?_ fun _ zk => XS.iload HL.here hx rfl (hb hby d_jdk_52_m11_53) rfl zk
        refine Rn.pu (T' := T) (g' := (mkF m 58 #[.val (.ref d), .val (.int (0 : Int32)), .val (.int (Int32.ofNat cs.length)), .val (.int (0 : Int32)), .val (.int (Int32.ofNat c1)), .val (.int ((Int32.ofNat i) + (1 : Int32)))] [(.int (Int32.ofNat i)), (.ref d)])) ?_ fun _ zk => XS.iinc HL.here hx rfl (hb hby d_jdk_52_m11_55) rfl (l' := #[.val (.ref d), .val (.int (0 : Int32)), .val (.int (Int32.ofNat cs.length)), .val (.int (0 : Int32)), .val (.int (Int32.ofNat c1)), .val (.int ((Int32.ofNat i) + (1 : Int32)))]) rfl zk
        rw [u_succ]
        obtain ⟨_, T2, h2, H2, ⟨rfl, rfl⟩, -, st2⟩ := HL.callS (hw _ (List.mem_of_getElem? (i := 102) rfl)) (hw _ (List.mem_of_getElem? (i := 103) rfl)) (hw _ (List.mem_of_getElem? (i := 45) rfl)) (hw _ (List.mem_of_getElem? (i := 104) rfl)) (by decide) (MetN.pay (W := 0) (c_getc l ⟨hw, SC0, hz0, SU2, SU3, SU4, hh7, hcw⟩ d kB cs i h0 HL.old (by omega) hn hc AD) (hw _ (List.mem_of_getElem? (i := 104) rfl)) (hw _ (List.mem_of_getElem? (i := 45) rfl)) (by decide) (by decide)) (g := (mkF m 58 #[.val (.ref d), .val (.int (0 : Int32)), .val (.int (Int32.ofNat cs.length)), .val (.int (0 : Int32)), .val (.int (Int32.ofNat c1)), .val (.int (Int32.ofNat (i + 1)))] [(.int (Int32.ofNat i)), (.ref d)])) rfl (by rw [hml]; rfl) (argsL := [(.ref d), (.int (Int32.ofNat i))]) (rest := []) (lenOf pd__ABI_C rfl) rfl rfl (Nat.le_of_eq rfl) (hb hby d_jdk_52_m11_58) (by decide) (by decide) all0
        refine Rn.pu (g' := (mkF m 61 #[.val (.ref d), .val (.int (0 : Int32)), .val (.int (Int32.ofNat cs.length)), .val (.int (0 : Int32)), .val (.int (Int32.ofNat c1)), .val (.int (Int32.ofNat (i + 1)))] [(.int (cs.getD i 0))])) ?_ st2
        obtain ⟨_, T3, h3, H3, ⟨rfl, rfl⟩, -, st3⟩ := H2.callS (hw _ (List.mem_of_getElem? (i := 111) rfl)) (hw _ (List.mem_of_getElem? (i := 112) rfl)) (hw _ (List.mem_of_getElem? (i := 113) rfl)) (hw _ (List.mem_of_getElem? (i := 114) rfl)) (by decide) (MetN.pay (W := 0) (c_chi l ⟨hw, SC0, hz0, SU2, SU3, SU4, hh7, hcw⟩ (cs.getD i 0) h0 H2.old) (hw _ (List.mem_of_getElem? (i := 114) rfl)) (hw _ (List.mem_of_getElem? (i := 113) rfl)) (by decide) (by decide)) (g := (mkF m 61 #[.val (.ref d), .val (.int (0 : Int32)), .val (.int (Int32.ofNat cs.length)), .val (.int (0 : Int32)), .val (.int (Int32.ofNat c1)), .val (.int (Int32.ofNat (i + 1)))] [(.int (cs.getD i 0))])) rfl (by rw [hml]; rfl) (argsL := [(.int (cs.getD i 0))]) (rest := []) (lenOf pd__C_Z rfl) rfl rfl (Nat.le_of_eq rfl) (hb hby d_jdk_52_m11_61) (by decide) (by decide) all0
        refine Rn.pu (g' := (mkF m 64 #[.val (.ref d), .val (.int (0 : Int32)), .val (.int (Int32.ofNat cs.length)), .val (.int (0 : Int32)), .val (.int (Int32.ofNat c1)), .val (.int (Int32.ofNat (i + 1)))] [(.int (own_hi (cs.getD i 0)))])) ?_ st3
        by_cases b64_4 : (own_hi (cs.getD i 0)) = 0
        ·
          refine Rn.pu (T' := T3) (g' := (mkF m 44 #[.val (.ref d), .val (.int (0 : Int32)), .val (.int (Int32.ofNat cs.length)), .val (.int (0 : Int32)), .val (.int (Int32.ofNat c1)), .val (.int (Int32.ofNat (i + 1)))] [])) ?_ fun _ zk => XS.ifYes H3.here hx rfl (pc0 := 64) (pc' := 44) rfl (hb hby d_jdk_52_m11_64) rfl (z_eq_t b64_4) (by decide) (by decide) zk
          exact ih (k - 1) (by omega) (i + 1) c1 _ (by omega) (by rw [if_neg (fun r => r.1 b64_4)] at hst; omega) H3
        ·
          refine Rn.pu (T' := T3) (g' := (mkF m 67 #[.val (.ref d), .val (.int (0 : Int32)), .val (.int (Int32.ofNat cs.length)), .val (.int (0 : Int32)), .val (.int (Int32.ofNat c1)), .val (.int (Int32.ofNat (i + 1)))] [])) ?_ fun _ zk => XS.ifNo H3.here hx rfl (hb hby d_jdk_52_m11_64) rfl (z_eq_f b64_4) zk
          refine Rn.pu (T' := T3) (g' := (mkF m 68 #[.val (.ref d), .val (.int (0 : Int32)), .val (.int (Int32.ofNat cs.length)), .val (.int (0 : Int32)), .val (.int (Int32.ofNat c1)), .val (.int (Int32.ofNat (i + 1)))] [(.ref d)])) ?_ fun _ zk => XS.aloadN H3.here hx rfl (hb hby d_jdk_52_m11_67) rfl rfl zk
          refine Rn.pu (T' := T3) (g' := (mkF m 70 #[.val (.ref d), .val (.int (0 : Int32)), .val (.int (Int32.ofNat cs.length)), .val (.int (0 : Int32)), .val (.int (Int32.ofNat c1)), .val (.int (Int32.ofNat (i + 1)))] [(.int (Int32.ofNat (i + 1))), (.ref d)])) ?_ fun _ zk => XS.iload H3.here hx rfl (hb hby d_jdk_52_m11_68) rfl zk
          obtain ⟨_, T5, h5, H5, ⟨rfl, rfl⟩, -, st5⟩ := H3.callS (hw _ (List.mem_of_getElem? (i := 102) rfl)) (hw _ (List.mem_of_getElem? (i := 103) rfl)) (hw _ (List.mem_of_getElem? (i := 45) rfl)) (hw _ (List.mem_of_getElem? (i := 104) rfl)) (by decide) (MetN.pay (W := 0) (c_getc l ⟨hw, SC0, hz0, SU2, SU3, SU4, hh7, hcw⟩ d kB cs (i + 1) h0 H3.old (by omega) hn hc AD) (hw _ (List.mem_of_getElem? (i := 104) rfl)) (hw _ (List.mem_of_getElem? (i := 45) rfl)) (by decide) (by decide)) (g := (mkF m 70 #[.val (.ref d), .val (.int (0 : Int32)), .val (.int (Int32.ofNat cs.length)), .val (.int (0 : Int32)), .val (.int (Int32.ofNat c1)), .val (.int (Int32.ofNat (i + 1)))] [(.int (Int32.ofNat (i + 1))), (.ref d)])) rfl (by rw [hml]; rfl) (argsL := [(.ref d), (.int (Int32.ofNat (i + 1)))]) (rest := []) (lenOf pd__ABI_C rfl) rfl rfl (Nat.le_of_eq rfl) (hb hby d_jdk_52_m11_70) (by decide) (by decide) all0
          refine Rn.pu (g' := (mkF m 73 #[.val (.ref d), .val (.int (0 : Int32)), .val (.int (Int32.ofNat cs.length)), .val (.int (0 : Int32)), .val (.int (Int32.ofNat c1)), .val (.int (Int32.ofNat (i + 1)))] [(.int (cs.getD (i + 1) 0))])) ?_ st5
          obtain ⟨_, T6, h6, H6, ⟨rfl, rfl⟩, -, st6⟩ := H5.callS (hw _ (List.mem_of_getElem? (i := 117) rfl)) (hw _ (List.mem_of_getElem? (i := 118) rfl)) (hw _ (List.mem_of_getElem? (i := 113) rfl)) (hw _ (List.mem_of_getElem? (i := 119) rfl)) (by decide) (MetN.pay (W := 0) (c_clo l ⟨hw, SC0, hz0, SU2, SU3, SU4, hh7, hcw⟩ (cs.getD (i + 1) 0) h0 H5.old) (hw _ (List.mem_of_getElem? (i := 119) rfl)) (hw _ (List.mem_of_getElem? (i := 113) rfl)) (by decide) (by decide)) (g := (mkF m 73 #[.val (.ref d), .val (.int (0 : Int32)), .val (.int (Int32.ofNat cs.length)), .val (.int (0 : Int32)), .val (.int (Int32.ofNat c1)), .val (.int (Int32.ofNat (i + 1)))] [(.int (cs.getD (i + 1) 0))])) rfl (by rw [hml]; rfl) (argsL := [(.int (cs.getD (i + 1) 0))]) (rest := []) (lenOf pd__C_Z rfl) rfl rfl (Nat.le_of_eq rfl) (hb hby d_jdk_52_m11_73) (by decide) (by decide) all0
          refine Rn.pu (g' := (mkF m 76 #[.val (.ref d), .val (.int (0 : Int32)), .val (.int (Int32.ofNat cs.length)), .val (.int (0 : Int32)), .val (.int (Int32.ofNat c1)), .val (.int (Int32.ofNat (i + 1)))] [(.int (own_lo (cs.getD (i + 1) 0)))])) ?_ st6
          by_cases b76_7 : (own_lo (cs.getD (i + 1) 0)) = 0
          ·
            refine Rn.pu (T' := T6) (g' := (mkF m 44 #[.val (.ref d), .val (.int (0 : Int32)), .val (.int (Int32.ofNat cs.length)), .val (.int (0 : Int32)), .val (.int (Int32.ofNat c1)), .val (.int (Int32.ofNat (i + 1)))] [])) ?_ fun _ zk => XS.ifYes H6.here hx rfl (pc0 := 76) (pc' := 44) rfl (hb hby d_jdk_52_m11_76) rfl (z_eq_t b76_7) (by decide) (by decide) zk
            exact ih (k - 1) (by omega) (i + 1) c1 _ (by omega) (by rw [if_neg (fun r => r.2 b76_7)] at hst; omega) H6
          ·
            refine Rn.pu (T' := T6) (g' := (mkF m 79 #[.val (.ref d), .val (.int (0 : Int32)), .val (.int (Int32.ofNat cs.length)), .val (.int (0 : Int32)), .val (.int (Int32.ofNat c1)), .val (.int (Int32.ofNat (i + 1)))] [])) ?_ fun _ zk => XS.ifNo H6.here hx rfl (hb hby d_jdk_52_m11_76) rfl (z_eq_f b76_7) zk
            refine Rn.pu (T' := T6) (g' := (mkF m 82 #[.val (.ref d), .val (.int (0 : Int32)), .val (.int (Int32.ofNat cs.length)), .val (.int (0 : Int32)), .val (.int ((Int32.ofNat c1) + (-1 : Int32))), .val (.int (Int32.ofNat (i + 1)))] [])) ?_ fun _ zk => XS.iinc H6.here hx rfl (hb hby d_jdk_52_m11_79) rfl (l' := #[.val (.ref d), .val (.int (0 : Int32)), .val (.int (Int32.ofNat cs.length)), .val (.int (0 : Int32)), .val (.int ((Int32.ofNat c1) + (-1 : Int32))), .val (.int (Int32.ofNat (i + 1)))]) rfl zk
            refine Rn.pu (T' := T6) (g' := (mkF m 85 #[.val (.ref d), .val (.int (0 : Int32)), .val (.int (Int32.ofNat cs.length)), .val (.int (0 : Int32)), .val (.int ((Int32.ofNat c1) + (-1 : Int32))), .val (.int ((Int32.ofNat (i + 1)) + (1 : Int32)))] [])) ?_ fun _ zk => XS.iinc H6.here hx rfl (hb hby d_jdk_52_m11_82) rfl (l' := #[.val (.ref d), .val (.int (0 : Int32)), .val (.int (Int32.ofNat cs.length)), .val (.int (0 : Int32)), .val (.int ((Int32.ofNat c1) + (-1 : Int32))), .val (.int ((Int32.ofNat (i + 1)) + (1 : Int32)))]) rfl zk
            refine Rn.pu (T' := T6) (g' := (mkF m 44 #[.val (.ref d), .val (.int (0 : Int32)), .val (.int (Int32.ofNat cs.length)), .val (.int (0 : Int32)), .val (.int ((Int32.ofNat c1) + (-1 : Int32))), .val (.int ((Int32.ofNat (i + 1)) + (1 : Int32)))] [])) ?_ fun _ zk => XS.goto H6.here hx rfl (pc0 := 85) (pc' := 44) rfl (hb hby d_jdk_52_m11_85) (by decide) (by decide) zk
            rw [own_dec (by rw [if_pos ⟨b64_4, b76_7⟩] at hst; omega), u_succ]
            exact ih (k - 2) (by omega) (i + 1 + 1) (c1 - 1) _ (by omega) (by rw [if_pos ⟨b64_4, b76_7⟩] at hst; show _ = _ + own_pairs (cs.drop (i + 2)); omega) H6
      ·
        have hz := own_pairs_short (cs := cs.drop i) (by rw [List.length_drop]; omega)
        refine Rn.pu (T' := T) (g' := (mkF m 88 #[.val (.ref d), .val (.int (0 : Int32)), .val (.int (Int32.ofNat cs.length)), .val (.int (0 : Int32)), .val (.int (Int32.ofNat c1)), .val (.int (Int32.ofNat i))] [])) ?_ fun _ zk => XS.icmpYes HL.here hx rfl (pc0 := 49) (pc' := 88) rfl (hb hby d_jdk_52_m11_49) rfl (c_ge_t (own_nlt2 hlt (by omega) (by omega))) (by decide) (by decide) zk
        refine Rn.pu (T' := T) (g' := (mkF m 90 #[.val (.ref d), .val (.int (0 : Int32)), .val (.int (Int32.ofNat cs.length)), .val (.int (0 : Int32)), .val (.int (Int32.ofNat c1)), .val (.int (Int32.ofNat i))] [(.int (Int32.ofNat c1))])) ?_ fun _ zk => XS.iload HL.here hx rfl (hb hby d_jdk_52_m11_88) rfl zk
        exact HL.retI ends_N hlk hret (hb hby d_jdk_52_m11_90) (by decide) (by decide) (fun _ q => nomatch q) ⟨by rw [hc1, hz, Nat.add_zero], rfl⟩
  exact LP cs.length 0 cs.length _ (by omega) (by have := own_pairs_le cs; rw [List.drop_zero]; omega) H1
set_option maxRecDepth 65536 in
set_option maxHeartbeats 40000000 in
theorem c_cp3 (l : Launch) {Z : State} {a0 : Array Value} {zc : Int32} (B : Base Z a0 zc) (d : Addr) (kB : ClassId) (cs : List Int32) (h0 : Heap) (O : Ext Z.heap h0) (h1 : 0 < cs.length) (hn : cs.length ≤ 511) (hc : ∀ c ∈ cs, ¬ c < 0 ∧ ¬ (65535 : Int32) < c) (AD : Arv Z h0 d kB .byte (Int32.ofNat (2 * cs.length)) (StrChars.Road.wideBytes cs) (.int 0)) :
    MetN l Z (⟨"java/lang/StringUTF16", "codePointCount", "([BII)I"⟩ : MethodName) jdk_52_method_12_code 3 (some .int) [] ({ frames := 2, cells := 0, slots := 0, locals := 30 } : Room) #[(.ref d), (.int (0 : Int32)), (.int (Int32.ofNat cs.length))] h0 [] (fun v h => v = some (.int (Int32.ofNat (cs.length - own_pairs cs))) ∧ h0 = h) := by
  obtain ⟨hw, SC0, hz0, SU2, SU3, SU4, hh7, hcw⟩ := B
  refine MetN.mk (plainFor_of_name pn_java_lang_StringUTF16) (fun m => ef_c_cp3 m d (0 : Int32) (Int32.ofNat cs.length)) O ?_
  intro p e s m below meth c T0 hx hby hml hret hlk hnm hsh H0
  have zs : s.heap.size = h0.size := by rw [hsh]
  refine Rn.pu (T' := T0) (g' := (mkF m 1 #[.val (.ref d), .val (.int (0 : Int32)), .val (.int (Int32.ofNat cs.length))] [(.ref d)])) ?_ fun _ zk => XS.aloadN H0.here hx rfl (hb hby d_jdk_52_m12_0) rfl rfl zk
  refine Rn.pu (T' := T0) (g' := (mkF m 2 #[.val (.ref d), .val (.int (0 : Int32)), .val (.int (Int32.ofNat cs.length))] [(.int (0 : Int32)), (.ref d)])) ?_ fun _ zk => XS.iloadN H0.here hx rfl (hb hby d_jdk_52_m12_1) rfl zk
  refine Rn.pu (T' := T0) (g' := (mkF m 3 #[.val (.ref d), .val (.int (0 : Int32)), .val (.int (Int32.ofNat cs.length))] [(.int (Int32.ofNat cs.length)), (.int (0 : Int32)), (.ref d)])) ?_ fun _ zk => XS.iloadN H0.here hx rfl (hb hby d_jdk_52_m12_2) rfl zk
  refine Rn.pu (T' := T0) (g' := (mkF m 4 #[.val (.ref d), .val (.int (0 : Int32)), .val (.int (Int32.ofNat cs.length))] [(.int (0 : Int32)), (.int (Int32.ofNat cs.length)), (.int (0 : Int32)), (.ref d)])) ?_ fun _ zk => XS.iconst H0.here hx rfl (hb hby d_jdk_52_m12_3) zk
  obtain ⟨_, T1, h1, H1, ⟨rfl, rfl⟩, -, st1⟩ := H0.callS (hw _ (List.mem_of_getElem? (i := 108) rfl)) (hw _ (List.mem_of_getElem? (i := 109) rfl)) (hw _ (List.mem_of_getElem? (i := 45) rfl)) (hw _ (List.mem_of_getElem? (i := 110) rfl)) (by decide) (MetN.pay (W := 0) (c_cp4 l ⟨hw, SC0, hz0, SU2, SU3, SU4, hh7, hcw⟩ d kB cs h0 H0.old h1 hn hc AD) (hw _ (List.mem_of_getElem? (i := 110) rfl)) (hw _ (List.mem_of_getElem? (i := 45) rfl)) (by decide) (by decide)) (g := (mkF m 4 #[.val (.ref d), .val (.int (0 : Int32)), .val (.int (Int32.ofNat cs.length))] [(.int (0 : Int32)), (.int (Int32.ofNat cs.length)), (.int (0 : Int32)), (.ref d)])) rfl (by rw [hml]; rfl) (argsL := [(.ref d), (.int (0 : Int32)), (.int (Int32.ofNat cs.length)), (.int (0 : Int32))]) (rest := []) (lenOf pd__ABIIZ_I rfl) rfl rfl (Nat.le_of_eq rfl) (hb hby d_jdk_52_m12_4) (by decide) (by decide) all0
  refine Rn.pu (g' := (mkF m 7 #[.val (.ref d), .val (.int (0 : Int32)), .val (.int (Int32.ofNat cs.length))] [(.int (Int32.ofNat (cs.length - own_pairs cs)))])) ?_ st1
  exact H1.retI ends_N hlk hret (hb hby d_jdk_52_m12_7) (by decide) (by decide) (fun _ q => nomatch q) ⟨rfl, rfl⟩
set_option maxRecDepth 65536 in
set_option maxHeartbeats 40000000 in
theorem c_pcf (l : Launch) {Z : State} {a0 : Array Value} {zc : Int32} (B : Base Z a0 zc) (n : Nat) (h0 : Heap) (O : Ext Z.heap h0) (hn : n ≤ 8000) :
    MetN l Z (⟨"jdk/internal/util/Preconditions", "checkFromToIndex", "(IIILjava/util/function/BiFunction;)I"⟩ : MethodName) jdk_41_method_12_code 4 (some .int) [] ({ frames := 0, cells := 0, slots := 0, locals := 0 } : Room) #[(.int (0 : Int32)), (.int (Int32.ofNat n)), (.int (Int32.ofNat n)), .null] h0 [] (fun v h => v = some (.int 0) ∧ h0 = h) := by
  obtain ⟨hw, SC0, hz0, SU2, SU3, SU4, hh7, hcw⟩ := B
  refine MetN.mk (plainFor_of_name pn_jdk_internal_util_Preconditions) (fun m => ef_c_pcf m (0 : Int32) (Int32.ofNat n) (Int32.ofNat n)) O ?_
  intro p e s m below meth c T0 hx hby hml hret hlk hnm hsh H0
  have zs : s.heap.size = h0.size := by rw [hsh]
  refine Rn.pu (T' := T0) (g' := (mkF m 1 #[.val (.int (0 : Int32)), .val (.int (Int32.ofNat n)), .val (.int (Int32.ofNat n)), .val .null] [(.int (0 : Int32))])) ?_ fun _ zk => XS.iloadN H0.here hx rfl (hb hby d_jdk_41_m12_0) rfl zk
  refine Rn.pu (T' := T0) (g' := (mkF m 4 #[.val (.int (0 : Int32)), .val (.int (Int32.ofNat n)), .val (.int (Int32.ofNat n)), .val .null] [])) ?_ fun _ zk => XS.ifNo H0.here hx rfl (hb hby d_jdk_41_m12_1) rfl (z_lt_f (by decide)) zk
  refine Rn.pu (T' := T0) (g' := (mkF m 5 #[.val (.int (0 : Int32)), .val (.int (Int32.ofNat n)), .val (.int (Int32.ofNat n)), .val .null] [(.int (0 : Int32))])) ?_ fun _ zk => XS.iloadN H0.here hx rfl (hb hby d_jdk_41_m12_4) rfl zk
  refine Rn.pu (T' := T0) (g' := (mkF m 6 #[.val (.int (0 : Int32)), .val (.int (Int32.ofNat n)), .val (.int (Int32.ofNat n)), .val .null] [(.int (Int32.ofNat n)), (.int (0 : Int32))])) ?_ fun _ zk => XS.iloadN H0.here hx rfl (hb hby d_jdk_41_m12_5) rfl zk
  refine Rn.pu (T' := T0) (g' := (mkF m 9 #[.val (.int (0 : Int32)), .val (.int (Int32.ofNat n)), .val (.int (Int32.ofNat n)), .val .null] [])) ?_ fun _ zk => XS.icmpNo H0.here hx rfl (hb hby d_jdk_41_m12_6) rfl (c_gt_f (u_nn hn)) zk
  refine Rn.pu (T' := T0) (g' := (mkF m 10 #[.val (.int (0 : Int32)), .val (.int (Int32.ofNat n)), .val (.int (Int32.ofNat n)), .val .null] [(.int (Int32.ofNat n))])) ?_ fun _ zk => XS.iloadN H0.here hx rfl (hb hby d_jdk_41_m12_9) rfl zk
  refine Rn.pu (T' := T0) (g' := (mkF m 11 #[.val (.int (0 : Int32)), .val (.int (Int32.ofNat n)), .val (.int (Int32.ofNat n)), .val .null] [(.int (Int32.ofNat n)), (.int (Int32.ofNat n))])) ?_ fun _ zk => XS.iloadN H0.here hx rfl (hb hby d_jdk_41_m12_10) rfl zk
  refine Rn.pu (T' := T0) (g' := (mkF m 22 #[.val (.int (0 : Int32)), .val (.int (Int32.ofNat n)), .val (.int (Int32.ofNat n)), .val .null] [])) ?_ fun _ zk => XS.icmpYes H0.here hx rfl (pc0 := 11) (pc' := 22) rfl (hb hby d_jdk_41_m12_11) rfl (c_le_t u_nlt) (by decide) (by decide) zk
  refine Rn.pu (T' := T0) (g' := (mkF m 23 #[.val (.int (0 : Int32)), .val (.int (Int32.ofNat n)), .val (.int (Int32.ofNat n)), .val .null] [(.int (0 : Int32))])) ?_ fun _ zk => XS.iloadN H0.here hx rfl (hb hby d_jdk_41_m12_22) rfl zk
  exact H0.retI ends_N hlk hret (hb hby d_jdk_41_m12_23) (by decide) (by decide) (fun _ q => nomatch q) ⟨rfl, rfl⟩
set_option maxRecDepth 65536 in
set_option maxHeartbeats 40000000 in
theorem c_ocf (l : Launch) {Z : State} {a0 : Array Value} {zc : Int32} (B : Base Z a0 zc) (n : Nat) (h0 : Heap) (O : Ext Z.heap h0) (hn : n ≤ 8000) :
    MetN l Z (⟨"java/util/Objects", "checkFromToIndex", "(III)I"⟩ : MethodName) jdk_31_method_18_code 3 (some .int) [] ({ frames := 1, cells := 0, slots := 0, locals := 15 } : Room) #[(.int (0 : Int32)), (.int (Int32.ofNat n)), (.int (Int32.ofNat n))] h0 [] (fun v h => v = some (.int 0) ∧ h0 = h) := by
  obtain ⟨hw, SC0, hz0, SU2, SU3, SU4, hh7, hcw⟩ := B
  refine MetN.mk (plainFor_of_name pn_java_util_Objects) (fun m => ef_c_ocf m (0 : Int32) (Int32.ofNat n) (Int32.ofNat n)) O ?_
  intro p e s m below meth c T0 hx hby hml hret hlk hnm hsh H0
  have zs : s.heap.size = h0.size := by rw [hsh]
  refine Rn.pu (T' := T0) (g' := (mkF m 1 #[.val (.int (0 : Int32)), .val (.int (Int32.ofNat n)), .val (.int (Int32.ofNat n))] [(.int (0 : Int32))])) ?_ fun _ zk => XS.iloadN H0.here hx rfl (hb hby d_jdk_31_m18_0) rfl zk
  refine Rn.pu (T' := T0) (g' := (mkF m 2 #[.val (.int (0 : Int32)), .val (.int (Int32.ofNat n)), .val (.int (Int32.ofNat n))] [(.int (Int32.ofNat n)), (.int (0 : Int32))])) ?_ fun _ zk => XS.iloadN H0.here hx rfl (hb hby d_jdk_31_m18_1) rfl zk
  refine Rn.pu (T' := T0) (g' := (mkF m 3 #[.val (.int (0 : Int32)), .val (.int (Int32.ofNat n)), .val (.int (Int32.ofNat n))] [(.int (Int32.ofNat n)), (.int (Int32.ofNat n)), (.int (0 : Int32))])) ?_ fun _ zk => XS.iloadN H0.here hx rfl (hb hby d_jdk_31_m18_2) rfl zk
  refine Rn.pu (T' := T0) (g' := (mkF m 4 #[.val (.int (0 : Int32)), .val (.int (Int32.ofNat n)), .val (.int (Int32.ofNat n))] [.null, (.int (Int32.ofNat n)), (.int (Int32.ofNat n)), (.int (0 : Int32))])) ?_ fun _ zk => XS.aconstNull H0.here hx rfl (hb hby d_jdk_31_m18_3) zk
  obtain ⟨_, T1, h1, H1, ⟨rfl, rfl⟩, -, st1⟩ := H0.callS (hw _ (List.mem_of_getElem? (i := 73) rfl)) (hw _ (List.mem_of_getElem? (i := 74) rfl)) (hw _ (List.mem_of_getElem? (i := 75) rfl)) (hw _ (List.mem_of_getElem? (i := 76) rfl)) (by decide) (MetN.pay (W := 0) (c_pcf l ⟨hw, SC0, hz0, SU2, SU3, SU4, hh7, hcw⟩ n h0 H0.old hn) (hw _ (List.mem_of_getElem? (i := 76) rfl)) (hw _ (List.mem_of_getElem? (i := 75) rfl)) (by decide) (by decide)) (g := (mkF m 4 #[.val (.int (0 : Int32)), .val (.int (Int32.ofNat n)), .val (.int (Int32.ofNat n))] [.null, (.int (Int32.ofNat n)), (.int (Int32.ofNat n)), (.int (0 : Int32))])) rfl (by rw [hml]; rfl) (argsL := [(.int (0 : Int32)), (.int (Int32.ofNat n)), (.int (Int32.ofNat n)), .null]) (rest := []) (lenOf pd__IIILjava_util_function_BiFunction__I rfl) rfl rfl (Nat.le_of_eq rfl) (hb hby d_jdk_31_m18_4) (by decide) (by decide) all0
  refine Rn.pu (g' := (mkF m 7 #[.val (.int (0 : Int32)), .val (.int (Int32.ofNat n)), .val (.int (Int32.ofNat n))] [(.int (0 : Int32))])) ?_ st1
  exact H1.retI ends_N hlk hret (hb hby d_jdk_31_m18_7) (by decide) (by decide) (fun _ q => nomatch q) ⟨rfl, rfl⟩
set_option maxRecDepth 65536 in
set_option maxHeartbeats 40000000 in
theorem c_isl0 (l : Launch) {Z : State} {a0 : Array Value} {zc : Int32} (B : Base Z a0 zc) (x : Addr) (h0 : Heap) (O : Ext Z.heap h0) (G2 : Fld Z h0 x "java/lang/String" "coder" "B" (.int (0 : Int32))) :
    MetN l Z (⟨"java/lang/String", "isLatin1", "()Z"⟩ : MethodName) jdk_42_method_154_code 1 (some .boolean) [] ({ frames := 0, cells := 0, slots := 0, locals := 0 } : Room) #[(.ref x)] h0 [] (fun v h => v = some (.int 1) ∧ h0 = h) := by
  obtain ⟨hw, SC0, hz0, SU2, SU3, SU4, hh7, hcw⟩ := B
  refine MetN.mk (plainFor_of_name pn_java_lang_String) (fun m => ef_c_isl0 m x) O ?_
  intro p e s m below meth c T0 hx hby hml hret hlk hnm hsh H0
  have zs : s.heap.size = h0.size := by rw [hsh]
  obtain ⟨T1, H1, st1⟩ := H0.getS (host := "") (Or.inl (hw _ (List.mem_of_getElem? (i := 42) rfl))) Via.refl (SC0.ext H0.old) (g := (mkF m 0 #[.val (.ref x)] [])) rfl (hb hby d_jdk_42_m154_0)
  refine Rn.pu (g' := (mkF m 3 #[.val (.ref x)] [(.int zc)])) ?_ st1
  refine Rn.pu (T' := T1) (g' := (mkF m 6 #[.val (.ref x)] [])) ?_ fun _ zk => XS.ifNo H1.here hx rfl (hb hby d_jdk_42_m154_3) rfl (z_eq_f hz0) zk
  refine Rn.pu (T' := T1) (g' := (mkF m 7 #[.val (.ref x)] [(.ref x)])) ?_ fun _ zk => XS.aloadN H1.here hx rfl (hb hby d_jdk_42_m154_6) rfl rfl zk
  obtain ⟨T2, H2, st2⟩ := H1.getF (host := "") (Or.inl (hw _ (List.mem_of_getElem? (i := 28) rfl))) Via.refl G2 (g := (mkF m 7 #[.val (.ref x)] [(.ref x)])) rfl rfl (hb hby d_jdk_42_m154_7)
  refine Rn.pu (g' := (mkF m 10 #[.val (.ref x)] [(.int (0 : Int32))])) ?_ st2
  refine Rn.pu (T' := T2) (g' := (mkF m 13 #[.val (.ref x)] [])) ?_ fun _ zk => XS.ifNo H2.here hx rfl (hb hby d_jdk_42_m154_10) rfl (z_ne_f rfl) zk
  refine Rn.pu (T' := T2) (g' := (mkF m 14 #[.val (.ref x)] [(.int (1 : Int32))])) ?_ fun _ zk => XS.iconst H2.here hx rfl (hb hby d_jdk_42_m154_13) zk
  refine Rn.pu (T' := T2) (g' := (mkF m 18 #[.val (.ref x)] [(.int (1 : Int32))])) ?_ fun _ zk => XS.goto H2.here hx rfl (pc0 := 14) (pc' := 18) rfl (hb hby d_jdk_42_m154_14) (by decide) (by decide) zk
  exact H2.retS ends_N hlk (t := .boolean) hret (by simp) (hb hby d_jdk_42_m154_18) (by decide) (by decide) (fun _ q => nomatch q) ⟨rfl, rfl⟩
set_option maxRecDepth 65536 in
set_option maxHeartbeats 40000000 in
theorem c_isl1 (l : Launch) {Z : State} {a0 : Array Value} {zc : Int32} (B : Base Z a0 zc) (x : Addr) (h0 : Heap) (O : Ext Z.heap h0) (G2 : Fld Z h0 x "java/lang/String" "coder" "B" (.int (1 : Int32))) :
    MetN l Z (⟨"java/lang/String", "isLatin1", "()Z"⟩ : MethodName) jdk_42_method_154_code 1 (some .boolean) [] ({ frames := 0, cells := 0, slots := 0, locals := 0 } : Room) #[(.ref x)] h0 [] (fun v h => v = some (.int 0) ∧ h0 = h) := by
  obtain ⟨hw, SC0, hz0, SU2, SU3, SU4, hh7, hcw⟩ := B
  refine MetN.mk (plainFor_of_name pn_java_lang_String) (fun m => ef_c_isl1 m x) O ?_
  intro p e s m below meth c T0 hx hby hml hret hlk hnm hsh H0
  have zs : s.heap.size = h0.size := by rw [hsh]
  obtain ⟨T1, H1, st1⟩ := H0.getS (host := "") (Or.inl (hw _ (List.mem_of_getElem? (i := 42) rfl))) Via.refl (SC0.ext H0.old) (g := (mkF m 0 #[.val (.ref x)] [])) rfl (hb hby d_jdk_42_m154_0)
  refine Rn.pu (g' := (mkF m 3 #[.val (.ref x)] [(.int zc)])) ?_ st1
  refine Rn.pu (T' := T1) (g' := (mkF m 6 #[.val (.ref x)] [])) ?_ fun _ zk => XS.ifNo H1.here hx rfl (hb hby d_jdk_42_m154_3) rfl (z_eq_f hz0) zk
  refine Rn.pu (T' := T1) (g' := (mkF m 7 #[.val (.ref x)] [(.ref x)])) ?_ fun _ zk => XS.aloadN H1.here hx rfl (hb hby d_jdk_42_m154_6) rfl rfl zk
  obtain ⟨T2, H2, st2⟩ := H1.getF (host := "") (Or.inl (hw _ (List.mem_of_getElem? (i := 28) rfl))) Via.refl G2 (g := (mkF m 7 #[.val (.ref x)] [(.ref x)])) rfl rfl (hb hby d_jdk_42_m154_7)
  refine Rn.pu (g' := (mkF m 10 #[.val (.ref x)] [(.int (1 : Int32))])) ?_ st2
  refine Rn.pu (T' := T2) (g' := (mkF m 17 #[.val (.ref x)] [])) ?_ fun _ zk => XS.ifYes H2.here hx rfl (pc0 := 10) (pc' := 17) rfl (hb hby d_jdk_42_m154_10) rfl (z_ne_t (by decide)) (by decide) (by decide) zk
  refine Rn.pu (T' := T2) (g' := (mkF m 18 #[.val (.ref x)] [(.int (0 : Int32))])) ?_ fun _ zk => XS.iconst H2.here hx rfl (hb hby d_jdk_42_m154_17) zk
  exact H2.retS ends_N hlk (t := .boolean) hret (by simp) (hb hby d_jdk_42_m154_18) (by decide) (by decide) (fun _ q => nomatch q) ⟨rfl, rfl⟩
set_option maxRecDepth 65536 in
set_option maxHeartbeats 40000000 in
theorem c_cpc (l : Launch) {Z : State} {a0 : Array Value} {zc : Int32} (B : Base Z a0 zc) (x d : Addr) (cs : List Int32) (h0 : Heap) (O : Ext Z.heap h0) (h1 : 0 < cs.length) (hn : cs.length ≤ 511) (F : Str Z h0 x d cs) :
    MetN l Z (⟨"java/lang/String", "codePointCount", "(II)I"⟩ : MethodName) jdk_42_method_59_code 3 (some .int) [] ({ frames := 3, cells := 0, slots := 0, locals := 46 } : Room) #[(.ref x), (.int (0 : Int32)), (.int (Int32.ofNat cs.length))] h0 [] (fun v h => v = some (.int (Int32.ofNat (cs.length - own_pairs cs))) ∧ h0 = h) := by
  obtain ⟨hw, SC0, hz0, SU2, SU3, SU4, hh7, hcw⟩ := B
  refine MetN.mk (plainFor_of_name pn_java_lang_String) (fun m => ef_c_cpc m x (0 : Int32) (Int32.ofNat cs.length)) O ?_
  intro p e s m below meth c T0 hx hby hml hret hlk hnm hsh H0
  have zs : s.heap.size = h0.size := by rw [hsh]
  have F0 := F
  obtain ⟨hc, -, E, G1, cd, NZ, vs, kB, G2, AD, CO⟩ := F0
  rcases CO with ⟨rfl, rfl, rfl, hl0⟩ | ⟨rfl, rfl, rfl, -⟩
  ·
    refine Rn.pu (T' := T0) (g' := (mkF m 1 #[.val (.ref x), .val (.int (0 : Int32)), .val (.int (Int32.ofNat cs.length))] [(.int (0 : Int32))])) ?_ fun _ zk => XS.iloadN H0.here hx rfl (hb hby d_jdk_42_m59_0) rfl zk
    refine Rn.pu (T' := T0) (g' := (mkF m 2 #[.val (.ref x), .val (.int (0 : Int32)), .val (.int (Int32.ofNat cs.length))] [(.int (Int32.ofNat cs.length)), (.int (0 : Int32))])) ?_ fun _ zk => XS.iloadN H0.here hx rfl (hb hby d_jdk_42_m59_1) rfl zk
    refine Rn.pu (T' := T0) (g' := (mkF m 3 #[.val (.ref x), .val (.int (0 : Int32)), .val (.int (Int32.ofNat cs.length))] [(.ref x), (.int (Int32.ofNat cs.length)), (.int (0 : Int32))])) ?_ fun _ zk => XS.aloadN H0.here hx rfl (hb hby d_jdk_42_m59_2) rfl rfl zk
    obtain ⟨_, T1, h1, H1, ⟨rfl, rfl⟩, -, st1⟩ := H0.callV (C := "java/lang/String") (hw _ (List.mem_of_getElem? (i := 68) rfl)) (hw _ (List.mem_of_getElem? (i := 54) rfl)) (hw _ (List.mem_of_getElem? (i := 56) rfl)) (hw _ (List.mem_of_getElem? (i := 55) rfl)) (by decide) (payLen (W := 2) (hws_len hw) (hw _ (List.mem_of_getElem? (i := 9) rfl)) F (SC0.ext H0.old) hz0 (by decide) (by decide)) E (g := (mkF m 3 #[.val (.ref x), .val (.int (0 : Int32)), .val (.int (Int32.ofNat cs.length))] [(.ref x), (.int (Int32.ofNat cs.length)), (.int (0 : Int32))])) rfl (by rw [hml]; rfl) (argsL := []) (rest := [(.int (Int32.ofNat cs.length)), (.int (0 : Int32))]) (lenOf pd___I rfl) rfl rfl (Nat.le_of_eq rfl) (hb hby d_jdk_42_m59_3) (by decide) (by decide) all0
    refine Rn.pu (g' := (mkF m 6 #[.val (.ref x), .val (.int (0 : Int32)), .val (.int (Int32.ofNat cs.length))] [(.int (Int32.ofNat (cs).length)), (.int (Int32.ofNat cs.length)), (.int (0 : Int32))])) ?_ st1
    obtain ⟨_, T2, h2, H2, ⟨rfl, rfl⟩, -, st2⟩ := H1.callS (hw _ (List.mem_of_getElem? (i := 69) rfl)) (hw _ (List.mem_of_getElem? (i := 70) rfl)) (hw _ (List.mem_of_getElem? (i := 71) rfl)) (hw _ (List.mem_of_getElem? (i := 72) rfl)) (by decide) (MetN.pay (W := 0) (c_ocf l ⟨hw, SC0, hz0, SU2, SU3, SU4, hh7, hcw⟩ cs.length h0 H1.old (by omega)) (hw _ (List.mem_of_getElem? (i := 72) rfl)) (hw _ (List.mem_of_getElem? (i := 71) rfl)) (by decide) (by decide)) (g := (mkF m 6 #[.val (.ref x), .val (.int (0 : Int32)), .val (.int (Int32.ofNat cs.length))] [(.int (Int32.ofNat (cs).length)), (.int (Int32.ofNat cs.length)), (.int (0 : Int32))])) rfl (by rw [hml]; rfl) (argsL := [(.int (0 : Int32)), (.int (Int32.ofNat cs.length)), (.int (Int32.ofNat (cs).length))]) (rest := []) (lenOf pd__III_I rfl) rfl rfl (Nat.le_of_eq rfl) (hb hby d_jdk_42_m59_6) (by decide) (by decide) all0
    refine Rn.pu (g' := (mkF m 9 #[.val (.ref x), .val (.int (0 : Int32)), .val (.int (Int32.ofNat cs.length))] [(.int (0 : Int32))])) ?_ st2
    refine Rn.pu (T' := T2) (g' := (mkF m 10 #[.val (.ref x), .val (.int (0 : Int32)), .val (.int (Int32.ofNat cs.length))] [])) ?_ fun _ zk => XT.pop H2.here hx rfl (hb hby d_jdk_42_m59_9) rfl rfl zk
    refine Rn.pu (T' := T2) (g' := (mkF m 11 #[.val (.ref x), .val (.int (0 : Int32)), .val (.int (Int32.ofNat cs.length))] [(.ref x)])) ?_ fun _ zk => XS.aloadN H2.here hx rfl (hb hby d_jdk_42_m59_10) rfl rfl zk
    obtain ⟨_, T3, h3, H3, ⟨rfl, rfl⟩, -, st3⟩ := H2.callV (C := "java/lang/String") (hw _ (List.mem_of_getElem? (i := 77) rfl)) (hw _ (List.mem_of_getElem? (i := 78) rfl)) (hw _ (List.mem_of_getElem? (i := 80) rfl)) (hw _ (List.mem_of_getElem? (i := 79) rfl)) (by decide) (MetN.pay (W := 0) (c_isl0 l ⟨hw, SC0, hz0, SU2, SU3, SU4, hh7, hcw⟩ x h0 H2.old G2) (hw _ (List.mem_of_getElem? (i := 81) rfl)) (hw _ (List.mem_of_getElem? (i := 10) rfl)) (by decide) (by decide)) E (g := (mkF m 11 #[.val (.ref x), .val (.int (0 : Int32)), .val (.int (Int32.ofNat cs.length))] [(.ref x)])) rfl (by rw [hml]; rfl) (argsL := []) (rest := []) (lenOf pd___Z rfl) rfl rfl (Nat.le_of_eq rfl) (hb hby d_jdk_42_m59_11) (by decide) (by decide) all0
    refine Rn.pu (g' := (mkF m 14 #[.val (.ref x), .val (.int (0 : Int32)), .val (.int (Int32.ofNat cs.length))] [(.int (1 : Int32))])) ?_ st3
    refine Rn.pu (T' := T3) (g' := (mkF m 17 #[.val (.ref x), .val (.int (0 : Int32)), .val (.int (Int32.ofNat cs.length))] [])) ?_ fun _ zk => XS.ifNo H3.here hx rfl (hb hby d_jdk_42_m59_14) rfl (z_eq_f (by decide)) zk
    refine Rn.pu (T' := T3) (g' := (mkF m 18 #[.val (.ref x), .val (.int (0 : Int32)), .val (.int (Int32.ofNat cs.length))] [(.int (Int32.ofNat cs.length))])) ?_ fun _ zk => XS.iloadN H3.here hx rfl (hb hby d_jdk_42_m59_17) rfl zk
    refine Rn.pu (T' := T3) (g' := (mkF m 19 #[.val (.ref x), .val (.int (0 : Int32)), .val (.int (Int32.ofNat cs.length))] [(.int (0 : Int32)), (.int (Int32.ofNat cs.length))])) ?_ fun _ zk => XS.iloadN H3.here hx rfl (hb hby d_jdk_42_m59_18) rfl zk
    refine Rn.pu (T' := T3) (g' := (mkF m 20 #[.val (.ref x), .val (.int (0 : Int32)), .val (.int (Int32.ofNat cs.length))] [(.int ((Int32.ofNat cs.length) - (0 : Int32)))])) ?_ fun _ zk => XS.isub H3.here hx rfl (hb hby d_jdk_42_m59_19) rfl zk
    exact H3.retI ends_N hlk hret (hb hby d_jdk_42_m59_20) (by decide) (by decide) (fun _ q => nomatch q) ⟨by rw [Int32.sub_zero, own_pairs_lat hl0, Nat.sub_zero], rfl⟩
  ·
    refine Rn.pu (T' := T0) (g' := (mkF m 1 #[.val (.ref x), .val (.int (0 : Int32)), .val (.int (Int32.ofNat cs.length))] [(.int (0 : Int32))])) ?_ fun _ zk => XS.iloadN H0.here hx rfl (hb hby d_jdk_42_m59_0) rfl zk
    refine Rn.pu (T' := T0) (g' := (mkF m 2 #[.val (.ref x), .val (.int (0 : Int32)), .val (.int (Int32.ofNat cs.length))] [(.int (Int32.ofNat cs.length)), (.int (0 : Int32))])) ?_ fun _ zk => XS.iloadN H0.here hx rfl (hb hby d_jdk_42_m59_1) rfl zk
    refine Rn.pu (T' := T0) (g' := (mkF m 3 #[.val (.ref x), .val (.int (0 : Int32)), .val (.int (Int32.ofNat cs.length))] [(.ref x), (.int (Int32.ofNat cs.length)), (.int (0 : Int32))])) ?_ fun _ zk => XS.aloadN H0.here hx rfl (hb hby d_jdk_42_m59_2) rfl rfl zk
    obtain ⟨_, T4, h4, H4, ⟨rfl, rfl⟩, -, st4⟩ := H0.callV (C := "java/lang/String") (hw _ (List.mem_of_getElem? (i := 68) rfl)) (hw _ (List.mem_of_getElem? (i := 54) rfl)) (hw _ (List.mem_of_getElem? (i := 56) rfl)) (hw _ (List.mem_of_getElem? (i := 55) rfl)) (by decide) (payLen (W := 2) (hws_len hw) (hw _ (List.mem_of_getElem? (i := 9) rfl)) F (SC0.ext H0.old) hz0 (by decide) (by decide)) E (g := (mkF m 3 #[.val (.ref x), .val (.int (0 : Int32)), .val (.int (Int32.ofNat cs.length))] [(.ref x), (.int (Int32.ofNat cs.length)), (.int (0 : Int32))])) rfl (by rw [hml]; rfl) (argsL := []) (rest := [(.int (Int32.ofNat cs.length)), (.int (0 : Int32))]) (lenOf pd___I rfl) rfl rfl (Nat.le_of_eq rfl) (hb hby d_jdk_42_m59_3) (by decide) (by decide) all0
    refine Rn.pu (g' := (mkF m 6 #[.val (.ref x), .val (.int (0 : Int32)), .val (.int (Int32.ofNat cs.length))] [(.int (Int32.ofNat (cs).length)), (.int (Int32.ofNat cs.length)), (.int (0 : Int32))])) ?_ st4
    obtain ⟨_, T5, h5, H5, ⟨rfl, rfl⟩, -, st5⟩ := H4.callS (hw _ (List.mem_of_getElem? (i := 69) rfl)) (hw _ (List.mem_of_getElem? (i := 70) rfl)) (hw _ (List.mem_of_getElem? (i := 71) rfl)) (hw _ (List.mem_of_getElem? (i := 72) rfl)) (by decide) (MetN.pay (W := 0) (c_ocf l ⟨hw, SC0, hz0, SU2, SU3, SU4, hh7, hcw⟩ cs.length h0 H4.old (by omega)) (hw _ (List.mem_of_getElem? (i := 72) rfl)) (hw _ (List.mem_of_getElem? (i := 71) rfl)) (by decide) (by decide)) (g := (mkF m 6 #[.val (.ref x), .val (.int (0 : Int32)), .val (.int (Int32.ofNat cs.length))] [(.int (Int32.ofNat (cs).length)), (.int (Int32.ofNat cs.length)), (.int (0 : Int32))])) rfl (by rw [hml]; rfl) (argsL := [(.int (0 : Int32)), (.int (Int32.ofNat cs.length)), (.int (Int32.ofNat (cs).length))]) (rest := []) (lenOf pd__III_I rfl) rfl rfl (Nat.le_of_eq rfl) (hb hby d_jdk_42_m59_6) (by decide) (by decide) all0
    refine Rn.pu (g' := (mkF m 9 #[.val (.ref x), .val (.int (0 : Int32)), .val (.int (Int32.ofNat cs.length))] [(.int (0 : Int32))])) ?_ st5
    refine Rn.pu (T' := T5) (g' := (mkF m 10 #[.val (.ref x), .val (.int (0 : Int32)), .val (.int (Int32.ofNat cs.length))] [])) ?_ fun _ zk => XT.pop H5.here hx rfl (hb hby d_jdk_42_m59_9) rfl rfl zk
    refine Rn.pu (T' := T5) (g' := (mkF m 11 #[.val (.ref x), .val (.int (0 : Int32)), .val (.int (Int32.ofNat cs.length))] [(.ref x)])) ?_ fun _ zk => XS.aloadN H5.here hx rfl (hb hby d_jdk_42_m59_10) rfl rfl zk
    obtain ⟨_, T6, h6, H6, ⟨rfl, rfl⟩, -, st6⟩ := H5.callV (C := "java/lang/String") (hw _ (List.mem_of_getElem? (i := 77) rfl)) (hw _ (List.mem_of_getElem? (i := 78) rfl)) (hw _ (List.mem_of_getElem? (i := 80) rfl)) (hw _ (List.mem_of_getElem? (i := 79) rfl)) (by decide) (MetN.pay (W := 0) (c_isl1 l ⟨hw, SC0, hz0, SU2, SU3, SU4, hh7, hcw⟩ x h0 H5.old G2) (hw _ (List.mem_of_getElem? (i := 81) rfl)) (hw _ (List.mem_of_getElem? (i := 10) rfl)) (by decide) (by decide)) E (g := (mkF m 11 #[.val (.ref x), .val (.int (0 : Int32)), .val (.int (Int32.ofNat cs.length))] [(.ref x)])) rfl (by rw [hml]; rfl) (argsL := []) (rest := []) (lenOf pd___Z rfl) rfl rfl (Nat.le_of_eq rfl) (hb hby d_jdk_42_m59_11) (by decide) (by decide) all0
    refine Rn.pu (g' := (mkF m 14 #[.val (.ref x), .val (.int (0 : Int32)), .val (.int (Int32.ofNat cs.length))] [(.int (0 : Int32))])) ?_ st6
    refine Rn.pu (T' := T6) (g' := (mkF m 21 #[.val (.ref x), .val (.int (0 : Int32)), .val (.int (Int32.ofNat cs.length))] [])) ?_ fun _ zk => XS.ifYes H6.here hx rfl (pc0 := 14) (pc' := 21) rfl (hb hby d_jdk_42_m59_14) rfl (z_eq_t rfl) (by decide) (by decide) zk
    refine Rn.pu (T' := T6) (g' := (mkF m 22 #[.val (.ref x), .val (.int (0 : Int32)), .val (.int (Int32.ofNat cs.length))] [(.ref x)])) ?_ fun _ zk => XS.aloadN H6.here hx rfl (hb hby d_jdk_42_m59_21) rfl rfl zk
    obtain ⟨T7, H7, st7⟩ := H6.getF (host := "") (Or.inl (hw _ (List.mem_of_getElem? (i := 27) rfl))) Via.refl G1 (g := (mkF m 22 #[.val (.ref x), .val (.int (0 : Int32)), .val (.int (Int32.ofNat cs.length))] [(.ref x)])) rfl rfl (hb hby d_jdk_42_m59_22)
    refine Rn.pu (g' := (mkF m 25 #[.val (.ref x), .val (.int (0 : Int32)), .val (.int (Int32.ofNat cs.length))] [(.ref d)])) ?_ st7
    refine Rn.pu (T' := T7) (g' := (mkF m 26 #[.val (.ref x), .val (.int (0 : Int32)), .val (.int (Int32.ofNat cs.length))] [(.int (0 : Int32)), (.ref d)])) ?_ fun _ zk => XS.iloadN H7.here hx rfl (hb hby d_jdk_42_m59_25) rfl zk
    refine Rn.pu (T' := T7) (g' := (mkF m 27 #[.val (.ref x), .val (.int (0 : Int32)), .val (.int (Int32.ofNat cs.length))] [(.int (Int32.ofNat cs.length)), (.int (0 : Int32)), (.ref d)])) ?_ fun _ zk => XS.iloadN H7.here hx rfl (hb hby d_jdk_42_m59_26) rfl zk
    obtain ⟨_, T8, h8, H8, ⟨rfl, rfl⟩, -, st8⟩ := H7.callS (hw _ (List.mem_of_getElem? (i := 105) rfl)) (hw _ (List.mem_of_getElem? (i := 106) rfl)) (hw _ (List.mem_of_getElem? (i := 45) rfl)) (hw _ (List.mem_of_getElem? (i := 107) rfl)) (by decide) (MetN.pay (W := 0) (c_cp3 l ⟨hw, SC0, hz0, SU2, SU3, SU4, hh7, hcw⟩ d kB cs h0 H7.old h1 hn hc AD) (hw _ (List.mem_of_getElem? (i := 107) rfl)) (hw _ (List.mem_of_getElem? (i := 45) rfl)) (by decide) (by decide)) (g := (mkF m 27 #[.val (.ref x), .val (.int (0 : Int32)), .val (.int (Int32.ofNat cs.length))] [(.int (Int32.ofNat cs.length)), (.int (0 : Int32)), (.ref d)])) rfl (by rw [hml]; rfl) (argsL := [(.ref d), (.int (0 : Int32)), (.int (Int32.ofNat cs.length))]) (rest := []) (lenOf pd__ABII_I rfl) rfl rfl (Nat.le_of_eq rfl) (hb hby d_jdk_42_m59_27) (by decide) (by decide) all0
    refine Rn.pu (g' := (mkF m 30 #[.val (.ref x), .val (.int (0 : Int32)), .val (.int (Int32.ofNat cs.length))] [(.int (Int32.ofNat (cs.length - own_pairs cs)))])) ?_ st8
    exact H8.retI ends_N hlk hret (hb hby d_jdk_42_m59_30) (by decide) (by decide) (fun _ q => nomatch q) ⟨rfl, rfl⟩
set_option maxRecDepth 65536 in
set_option maxHeartbeats 40000000 in
theorem c_tag (l : Launch) {Z : State} {a0 : Array Value} {zc : Int32} (B : Base Z a0 zc) (x d : Addr) (cs : List Int32) (h0 : Heap) (O : Ext Z.heap h0) (hn : cs.length ≤ 511) (F : Str Z h0 x d cs) :
    MetN l Z (⟨"com/example/meticulous_attestor/meticulousattestor/model/WalletInstance", "isHardwareKeyTag", "(Ljava/lang/String;)Z"⟩ : MethodName) prog_27_method_4_code 1 (some .boolean) [] ({ frames := 4, cells := 0, slots := 0, locals := 60 } : Room) #[(.ref x)] h0 [] (fun v h => v = some (.int (own_tag cs)) ∧ h0 = h) := by
  obtain ⟨hw, SC0, hz0, SU2, SU3, SU4, hh7, hcw⟩ := B
  refine MetN.mk (plainFor_of_name pn_com_example_meticulous_attestor_meticulousattestor_model_WalletInstance) (fun m => ef_c_tag m x) O ?_
  intro p e s m below meth c T0 hx hby hml hret hlk hnm hsh H0
  have zs : s.heap.size = h0.size := by rw [hsh]
  by_cases h0l : cs.length = 0
  ·
    refine Rn.pu (T' := T0) (g' := (mkF m 1 #[.val (.ref x)] [(.ref x)])) ?_ fun _ zk => XS.aloadN H0.here hx rfl (hb hby d_prog_27_m4_0) rfl rfl zk
    obtain ⟨_, T1, h1, H1, ⟨rfl, rfl⟩, -, st1⟩ := H0.callV (C := "java/lang/String") (hw _ (List.mem_of_getElem? (i := 33) rfl)) (hw _ (List.mem_of_getElem? (i := 34) rfl)) (hw _ (List.mem_of_getElem? (i := 36) rfl)) (hw _ (List.mem_of_getElem? (i := 35) rfl)) (by decide) (payEmp (W := 0) (hws_emp hw) (hw _ (List.mem_of_getElem? (i := 9) rfl)) F (by decide) (by decide)) F.exa (g := (mkF m 1 #[.val (.ref x)] [(.ref x)])) rfl (by rw [hml]; rfl) (argsL := []) (rest := []) (lenOf pd___Z rfl) rfl rfl (Nat.le_of_eq rfl) (hb hby d_prog_27_m4_1) (by decide) (by decide) all0
    refine Rn.pu (g' := (mkF m 4 #[.val (.ref x)] [(.int (if (cs).length = 0 then 1 else 0))])) ?_ st1
    refine Rn.pu (T' := T1) (g' := (mkF m 26 #[.val (.ref x)] [])) ?_ fun _ zk => XS.ifYes H1.here hx rfl (pc0 := 4) (pc' := 26) rfl (hb hby d_prog_27_m4_4) rfl (z_ne_t (by rw [if_pos h0l]; decide)) (by decide) (by decide) zk
    refine Rn.pu (T' := T1) (g' := (mkF m 27 #[.val (.ref x)] [(.int (0 : Int32))])) ?_ fun _ zk => XS.iconst H1.here hx rfl (hb hby d_prog_27_m4_26) zk
    exact H1.retS ends_N hlk (t := .boolean) hret (by simp) (hb hby d_prog_27_m4_27) (by decide) (by decide) (fun _ q => nomatch q) ⟨by rw [own_tag, if_pos h0l]; rfl, rfl⟩
  ·
    refine Rn.pu (T' := T0) (g' := (mkF m 1 #[.val (.ref x)] [(.ref x)])) ?_ fun _ zk => XS.aloadN H0.here hx rfl (hb hby d_prog_27_m4_0) rfl rfl zk
    obtain ⟨_, T2, h2, H2, ⟨rfl, rfl⟩, -, st2⟩ := H0.callV (C := "java/lang/String") (hw _ (List.mem_of_getElem? (i := 33) rfl)) (hw _ (List.mem_of_getElem? (i := 34) rfl)) (hw _ (List.mem_of_getElem? (i := 36) rfl)) (hw _ (List.mem_of_getElem? (i := 35) rfl)) (by decide) (payEmp (W := 0) (hws_emp hw) (hw _ (List.mem_of_getElem? (i := 9) rfl)) F (by decide) (by decide)) F.exa (g := (mkF m 1 #[.val (.ref x)] [(.ref x)])) rfl (by rw [hml]; rfl) (argsL := []) (rest := []) (lenOf pd___Z rfl) rfl rfl (Nat.le_of_eq rfl) (hb hby d_prog_27_m4_1) (by decide) (by decide) all0
    refine Rn.pu (g' := (mkF m 4 #[.val (.ref x)] [(.int (if (cs).length = 0 then 1 else 0))])) ?_ st2
    refine Rn.pu (T' := T2) (g' := (mkF m 7 #[.val (.ref x)] [])) ?_ fun _ zk => XS.ifNo H2.here hx rfl (hb hby d_prog_27_m4_4) rfl (z_ne_f (if_neg h0l)) zk
    refine Rn.pu (T' := T2) (g' := (mkF m 8 #[.val (.ref x)] [(.ref x)])) ?_ fun _ zk => XS.aloadN H2.here hx rfl (hb hby d_prog_27_m4_7) rfl rfl zk
    refine Rn.pu (T' := T2) (g' := (mkF m 9 #[.val (.ref x)] [(.int (0 : Int32)), (.ref x)])) ?_ fun _ zk => XS.iconst H2.here hx rfl (hb hby d_prog_27_m4_8) zk
    refine Rn.pu (T' := T2) (g' := (mkF m 10 #[.val (.ref x)] [(.ref x), (.int (0 : Int32)), (.ref x)])) ?_ fun _ zk => XS.aloadN H2.here hx rfl (hb hby d_prog_27_m4_9) rfl rfl zk
    obtain ⟨_, T3, h3, H3, ⟨rfl, rfl⟩, -, st3⟩ := H2.callV (C := "java/lang/String") (hw _ (List.mem_of_getElem? (i := 53) rfl)) (hw _ (List.mem_of_getElem? (i := 54) rfl)) (hw _ (List.mem_of_getElem? (i := 56) rfl)) (hw _ (List.mem_of_getElem? (i := 55) rfl)) (by decide) (payLen (W := 2) (hws_len hw) (hw _ (List.mem_of_getElem? (i := 9) rfl)) F (SC0.ext H2.old) hz0 (by decide) (by decide)) F.exa (g := (mkF m 10 #[.val (.ref x)] [(.ref x), (.int (0 : Int32)), (.ref x)])) rfl (by rw [hml]; rfl) (argsL := []) (rest := [(.int (0 : Int32)), (.ref x)]) (lenOf pd___I rfl) rfl rfl (Nat.le_of_eq rfl) (hb hby d_prog_27_m4_10) (by decide) (by decide) all0
    refine Rn.pu (g' := (mkF m 13 #[.val (.ref x)] [(.int (Int32.ofNat (cs).length)), (.int (0 : Int32)), (.ref x)])) ?_ st3
    obtain ⟨_, T4, h4, H4, ⟨rfl, rfl⟩, -, st4⟩ := H3.callV (C := "java/lang/String") (hw _ (List.mem_of_getElem? (i := 63) rfl)) (hw _ (List.mem_of_getElem? (i := 64) rfl)) (hw _ (List.mem_of_getElem? (i := 66) rfl)) (hw _ (List.mem_of_getElem? (i := 65) rfl)) (by decide) (MetN.pay (W := 0) (c_cpc l ⟨hw, SC0, hz0, SU2, SU3, SU4, hh7, hcw⟩ x d cs h0 H3.old (by omega) hn F) (hw _ (List.mem_of_getElem? (i := 67) rfl)) (hw _ (List.mem_of_getElem? (i := 10) rfl)) (by decide) (by decide)) F.exa (g := (mkF m 13 #[.val (.ref x)] [(.int (Int32.ofNat (cs).length)), (.int (0 : Int32)), (.ref x)])) rfl (by rw [hml]; rfl) (argsL := [(.int (0 : Int32)), (.int (Int32.ofNat (cs).length))]) (rest := []) (lenOf pd__II_I rfl) rfl rfl (Nat.le_of_eq rfl) (hb hby d_prog_27_m4_13) (by decide) (by decide) all0
    refine Rn.pu (g' := (mkF m 16 #[.val (.ref x)] [(.int (Int32.ofNat (cs.length - own_pairs cs)))])) ?_ st4
    refine Rn.pu (T' := T4) (g' := (mkF m 19 #[.val (.ref x)] [(.int (256 : Int32)), (.int (Int32.ofNat (cs.length - own_pairs cs)))])) ?_ fun _ zk => XS.sipush H4.here hx rfl (hb hby d_prog_27_m4_16) zk
    by_cases b19_5 : (256 : Int32) < (Int32.ofNat (cs.length - own_pairs cs))
    ·
      refine Rn.pu (T' := T4) (g' := (mkF m 26 #[.val (.ref x)] [])) ?_ fun _ zk => XS.icmpYes H4.here hx rfl (pc0 := 19) (pc' := 26) rfl (hb hby d_prog_27_m4_19) rfl (c_gt_t b19_5) (by decide) (by decide) zk
      refine Rn.pu (T' := T4) (g' := (mkF m 27 #[.val (.ref x)] [(.int (0 : Int32))])) ?_ fun _ zk => XS.iconst H4.here hx rfl (hb hby d_prog_27_m4_26) zk
      exact H4.retS ends_N hlk (t := .boolean) hret (by simp) (hb hby d_prog_27_m4_27) (by decide) (by decide) (fun _ q => nomatch q) ⟨by rw [own_tag, if_neg h0l, if_pos b19_5]; rfl, rfl⟩
    ·
      refine Rn.pu (T' := T4) (g' := (mkF m 22 #[.val (.ref x)] [])) ?_ fun _ zk => XS.icmpNo H4.here hx rfl (hb hby d_prog_27_m4_19) rfl (c_gt_f b19_5) zk
      refine Rn.pu (T' := T4) (g' := (mkF m 23 #[.val (.ref x)] [(.int (1 : Int32))])) ?_ fun _ zk => XS.iconst H4.here hx rfl (hb hby d_prog_27_m4_22) zk
      refine Rn.pu (T' := T4) (g' := (mkF m 27 #[.val (.ref x)] [(.int (1 : Int32))])) ?_ fun _ zk => XS.goto H4.here hx rfl (pc0 := 23) (pc' := 27) rfl (hb hby d_prog_27_m4_23) (by decide) (by decide) zk
      exact H4.retS ends_N hlk (t := .boolean) hret (by simp) (hb hby d_prog_27_m4_27) (by decide) (by decide) (fun _ q => nomatch q) ⟨by rw [own_tag, if_neg h0l, if_neg b19_5]; rfl, rfl⟩
set_option maxRecDepth 65536 in
set_option maxHeartbeats 40000000 in
theorem c_law (l : Launch) {Z : State} {a0 : Array Value} {zc : Int32} (B : Base Z a0 zc) (p0 : Int32) (p1 : Int32) (p2 : Int32) (p3 : Int32) :
    MetW l Z x code maxLocals ret tables_1 room_1 #[(.int p0), (.int p1), (.int p2), (.int p3)] Z.heap [] ((EL Z Z.heap)) (fun v vm h => v = some (.int 1)) := by
  obtain ⟨hw, SC0, hz0, SU2, SU3, SU4, hh7, hcw⟩ := B
  refine MetW.mk (plainFor_of_name pn_com_example_meticulous_attestor_meticulousattestor_model_WalletInstanceIsHardwareKeyTagPinLaw) (fun m => ef_c_law m p0 p1 p2 p3) ⟨Nat.le_refl _, fun _ _ q => q⟩ ?_
  intro p e s m below meth c T0 hx hby hml hret hlk hnm hsh H0
  obtain ⟨h0, eh0⟩ : ∃ z, z = Z.heap := ⟨_, rfl⟩
  rw [← eh0] at H0 hsh
  have H0 : Hs p l e room_1 s m #[(.int p0), (.int p1), (.int p2), (.int p3)] below meth c Z "com/example/meticulous_attestor/meticulousattestor/model/WalletInstanceIsHardwareKeyTagPinLaw" [] ((EL Z h0)) T0 h0 0 0 := H0
  have zs : s.heap.size = h0.size := by rw [hsh]
  have H0 := H0.reV (V' := EL Z h0) (fun _ q => q)
  have zZ := H0.old.1
  refine Rn.pu (T' := T0) (g' := (mkF m 1 #[.val (.int p0), .val (.int p1), .val (.int p2), .val (.int p3), .unset, .unset, .unset, .unset, .unset, .unset, .unset] [(.int p0)])) ?_ fun _ zk => XS.iloadN H0.here hx rfl (hb hby at_0) rfl zk
  refine Rn.pu (T' := T0) (g' := (mkF m 4 #[.val (.int p0), .val (.int p1), .val (.int p2), .val (.int p3), .unset, .unset, .unset, .unset, .unset, .unset, .unset] [(.int (511 : Int32)), (.int p0)])) ?_ fun _ zk => XS.sipush H0.here hx rfl (hb hby at_1) zk
  refine Rn.pu (T' := T0) (g' := (mkF m 5 #[.val (.int p0), .val (.int p1), .val (.int p2), .val (.int p3), .unset, .unset, .unset, .unset, .unset, .unset, .unset] [(.int (p0 &&& (511 : Int32)))])) ?_ fun _ zk => XS.iand H0.here hx rfl (hb hby at_4) rfl zk
  refine Rn.pu (T' := T0) (g' := (mkF m 7 #[.val (.int p0), .val (.int p1), .val (.int p2), .val (.int p3), .val (.int (p0 &&& (511 : Int32))), .unset, .unset, .unset, .unset, .unset, .unset] [])) ?_ fun _ zk => XS.istore H0.here hx rfl (hb hby at_5) rfl (l' := #[.val (.int p0), .val (.int p1), .val (.int p2), .val (.int p3), .val (.int (p0 &&& (511 : Int32))), .unset, .unset, .unset, .unset, .unset, .unset]) rfl zk
  obtain ⟨nI, enI⟩ : ∃ z : Int32, z = (p0 &&& (511 : Int32)) := ⟨_, rfl⟩
  rw [← enI]
  have rn : nI = 0 ∨ nI = 1 ∨ ∃ n, 2 ≤ n ∧ n ≤ 511 ∧ nI = Int32.ofNat n := by rw [enI]; exact own_n _
  clear enI
  refine Rn.pu (T' := T0) (g' := (mkF m 8 #[.val (.int p0), .val (.int p1), .val (.int p2), .val (.int p3), .val (.int nI), .unset, .unset, .unset, .unset, .unset, .unset] [(.int p2)])) ?_ fun _ zk => XS.iloadN H0.here hx rfl (hb hby at_7) rfl zk
  refine Rn.pu (g' := (mkF m 10 #[.val (.int p0), .val (.int p1), .val (.int p2), .val (.int p3), .val (.int nI), .unset, .unset, .unset, .unset, .unset, .unset] [(.int (55296 : Int32)), (.int p2)])) ?_ (H0.ldcI (hw _ (List.mem_of_getElem? (i := 0) rfl)) (g := (mkF m 8 #[.val (.int p0), .val (.int p1), .val (.int p2), .val (.int p3), .val (.int nI), .unset, .unset, .unset, .unset, .unset, .unset] [(.int p2)])) rfl (hb hby at_8))
  obtain ⟨_, T1, h1, H1, ⟨r1, rfl, rr1, rfl⟩, -, st1⟩ := H0.callS (hw _ (List.mem_of_getElem? (i := 1) rfl)) (hw _ (List.mem_of_getElem? (i := 2) rfl)) (hw _ (List.mem_of_getElem? (i := 3) rfl)) (hw _ (List.mem_of_getElem? (i := 4) rfl)) (by decide) (MetN.pay (W := 0) (c_draw l ⟨hw, SC0, hz0, SU2, SU3, SU4, hh7, hcw⟩ p2 (55296 : Int32) h0 H0.old) (hw _ (List.mem_of_getElem? (i := 4) rfl)) (hw _ (List.mem_of_getElem? (i := 3) rfl)) (by decide) (by decide)) (g := (mkF m 10 #[.val (.int p0), .val (.int p1), .val (.int p2), .val (.int p3), .val (.int nI), .unset, .unset, .unset, .unset, .unset, .unset] [(.int (55296 : Int32)), (.int p2)])) rfl (by rw [hml]; rfl) (argsL := [(.int p2), (.int (55296 : Int32))]) (rest := []) (lenOf pd__II_C rfl) rfl rfl (Nat.le_of_eq rfl) (hb hby at_10) (by decide) (by decide) all0
  refine Rn.pu (g' := (mkF m 13 #[.val (.int p0), .val (.int p1), .val (.int p2), .val (.int p3), .val (.int nI), .unset, .unset, .unset, .unset, .unset, .unset] [(.int r1)])) ?_ st1
  refine Rn.pu (T' := T1) (g' := (mkF m 15 #[.val (.int p0), .val (.int p1), .val (.int p2), .val (.int p3), .val (.int nI), .val (.int r1), .unset, .unset, .unset, .unset, .unset] [])) ?_ fun _ zk => XS.istore H1.here hx rfl (hb hby at_13) rfl (l' := #[.val (.int p0), .val (.int p1), .val (.int p2), .val (.int p3), .val (.int nI), .val (.int r1), .unset, .unset, .unset, .unset, .unset]) rfl zk
  have r5 := rr1
  refine Rn.pu (T' := T1) (g' := (mkF m 16 #[.val (.int p0), .val (.int p1), .val (.int p2), .val (.int p3), .val (.int nI), .val (.int r1), .unset, .unset, .unset, .unset, .unset] [(.int p3)])) ?_ fun _ zk => XS.iloadN H1.here hx rfl (hb hby at_15) rfl zk
  refine Rn.pu (g' := (mkF m 18 #[.val (.int p0), .val (.int p1), .val (.int p2), .val (.int p3), .val (.int nI), .val (.int r1), .unset, .unset, .unset, .unset, .unset] [(.int (56320 : Int32)), (.int p3)])) ?_ (H1.ldcI (hw _ (List.mem_of_getElem? (i := 6) rfl)) (g := (mkF m 16 #[.val (.int p0), .val (.int p1), .val (.int p2), .val (.int p3), .val (.int nI), .val (.int r1), .unset, .unset, .unset, .unset, .unset] [(.int p3)])) rfl (hb hby at_16))
  obtain ⟨_, T2, h2, H2, ⟨r2, rfl, rr2, rfl⟩, -, st2⟩ := H1.callS (hw _ (List.mem_of_getElem? (i := 1) rfl)) (hw _ (List.mem_of_getElem? (i := 2) rfl)) (hw _ (List.mem_of_getElem? (i := 3) rfl)) (hw _ (List.mem_of_getElem? (i := 4) rfl)) (by decide) (MetN.pay (W := 0) (c_draw l ⟨hw, SC0, hz0, SU2, SU3, SU4, hh7, hcw⟩ p3 (56320 : Int32) h0 H1.old) (hw _ (List.mem_of_getElem? (i := 4) rfl)) (hw _ (List.mem_of_getElem? (i := 3) rfl)) (by decide) (by decide)) (g := (mkF m 18 #[.val (.int p0), .val (.int p1), .val (.int p2), .val (.int p3), .val (.int nI), .val (.int r1), .unset, .unset, .unset, .unset, .unset] [(.int (56320 : Int32)), (.int p3)])) rfl (by rw [hml]; rfl) (argsL := [(.int p3), (.int (56320 : Int32))]) (rest := []) (lenOf pd__II_C rfl) rfl rfl (Nat.le_of_eq rfl) (hb hby at_18) (by decide) (by decide) all0
  refine Rn.pu (g' := (mkF m 21 #[.val (.int p0), .val (.int p1), .val (.int p2), .val (.int p3), .val (.int nI), .val (.int r1), .unset, .unset, .unset, .unset, .unset] [(.int r2)])) ?_ st2
  refine Rn.pu (T' := T2) (g' := (mkF m 23 #[.val (.int p0), .val (.int p1), .val (.int p2), .val (.int p3), .val (.int nI), .val (.int r1), .val (.int r2), .unset, .unset, .unset, .unset] [])) ?_ fun _ zk => XS.istore H2.here hx rfl (hb hby at_21) rfl (l' := #[.val (.int p0), .val (.int p1), .val (.int p2), .val (.int p3), .val (.int nI), .val (.int r1), .val (.int r2), .unset, .unset, .unset, .unset]) rfl zk
  have r6 := rr2
  rcases rn with rfl | rfl | ⟨n, h2, h5, rfl⟩
  ·
    refine Rn.pu (T' := T2) (g' := (mkF m 25 #[.val (.int p0), .val (.int p1), .val (.int p2), .val (.int p3), .val (.int (0 : Int32)), .val (.int r1), .val (.int r2), .unset, .unset, .unset, .unset] [(.int (0 : Int32))])) ?_ fun _ zk => XS.iload H2.here hx rfl (hb hby at_23) rfl zk
    obtain ⟨a3, k3, T3, h3, e3, H3, K3, A3, st3⟩ := H2.newP (aty := .char) (hw _ (List.mem_of_getElem? (i := 7) rfl)) (g := (mkF m 25 #[.val (.int p0), .val (.int p1), .val (.int p2), .val (.int p3), .val (.int (0 : Int32)), .val (.int r1), .val (.int r2), .unset, .unset, .unset, .unset] [(.int (0 : Int32))])) rfl (hb hby at_25) rfl (by decide) (cap := 0) (by decide) (by decide) (by decide) (by decide)
    have zh3 := K3.1
    have l3 := natlt (A3).lt
    have g3 : s.heap.size ≤ a3 := by omega
    refine Rn.pu (g' := (mkF m 27 #[.val (.int p0), .val (.int p1), .val (.int p2), .val (.int p3), .val (.int (0 : Int32)), .val (.int r1), .val (.int r2), .unset, .unset, .unset, .unset] [(.ref a3)])) ?_ st3
    refine Rn.pu (T' := T3) (g' := (mkF m 29 #[.val (.int p0), .val (.int p1), .val (.int p2), .val (.int p3), .val (.int (0 : Int32)), .val (.int r1), .val (.int r2), .val (.ref a3), .unset, .unset, .unset] [])) ?_ fun _ zk => XS.astore H3.here hx rfl (hb hby at_27) rfl rfl (l' := #[.val (.int p0), .val (.int p1), .val (.int p2), .val (.int p3), .val (.int (0 : Int32)), .val (.int r1), .val (.int r2), .val (.ref a3), .unset, .unset, .unset]) rfl zk
    refine Rn.pu (T' := T3) (g' := (mkF m 31 #[.val (.int p0), .val (.int p1), .val (.int p2), .val (.int p3), .val (.int (0 : Int32)), .val (.int r1), .val (.int r2), .val (.ref a3), .unset, .unset, .unset] [(.int (0 : Int32))])) ?_ fun _ zk => XS.iload H3.here hx rfl (hb hby at_29) rfl zk
    refine Rn.pu (T' := T3) (g' := (mkF m 33 #[.val (.int p0), .val (.int p1), .val (.int p2), .val (.int p3), .val (.int (0 : Int32)), .val (.int r1), .val (.int r2), .val (.ref a3), .val (.int (0 : Int32)), .unset, .unset] [])) ?_ fun _ zk => XS.istore H3.here hx rfl (hb hby at_31) rfl (l' := #[.val (.int p0), .val (.int p1), .val (.int p2), .val (.int p3), .val (.int (0 : Int32)), .val (.int r1), .val (.int r2), .val (.ref a3), .val (.int (0 : Int32)), .unset, .unset]) rfl zk
    refine Rn.pu (T' := T3) (g' := (mkF m 35 #[.val (.int p0), .val (.int p1), .val (.int p2), .val (.int p3), .val (.int (0 : Int32)), .val (.int r1), .val (.int r2), .val (.ref a3), .val (.int (0 : Int32)), .unset, .unset] [(.int (0 : Int32))])) ?_ fun _ zk => XS.iload H3.here hx rfl (hb hby at_33) rfl zk
    refine Rn.pu (T' := T3) (g' := (mkF m 36 #[.val (.int p0), .val (.int p1), .val (.int p2), .val (.int p3), .val (.int (0 : Int32)), .val (.int r1), .val (.int r2), .val (.ref a3), .val (.int (0 : Int32)), .unset, .unset] [(.int (1 : Int32)), (.int (0 : Int32))])) ?_ fun _ zk => XS.iconst H3.here hx rfl (hb hby at_35) zk
    refine Rn.pu (T' := T3) (g' := (mkF m 45 #[.val (.int p0), .val (.int p1), .val (.int p2), .val (.int p3), .val (.int (0 : Int32)), .val (.int r1), .val (.int r2), .val (.ref a3), .val (.int (0 : Int32)), .unset, .unset] [])) ?_ fun _ zk => XS.icmpYes H3.here hx rfl (pc0 := 36) (pc' := 45) rfl (hb hby at_36) rfl (c_ne_t (by decide)) (by decide) (by decide) zk
    refine Rn.pu (T' := T3) (g' := (mkF m 47 #[.val (.int p0), .val (.int p1), .val (.int p2), .val (.int p3), .val (.int (0 : Int32)), .val (.int r1), .val (.int r2), .val (.ref a3), .val (.int (0 : Int32)), .unset, .unset] [(.int (0 : Int32))])) ?_ fun _ zk => XS.iload H3.here hx rfl (hb hby at_45) rfl zk
    refine Rn.pu (T' := T3) (g' := (mkF m 48 #[.val (.int p0), .val (.int p1), .val (.int p2), .val (.int p3), .val (.int (0 : Int32)), .val (.int r1), .val (.int r2), .val (.ref a3), .val (.int (0 : Int32)), .unset, .unset] [(.int (2 : Int32)), (.int (0 : Int32))])) ?_ fun _ zk => XS.iconst H3.here hx rfl (hb hby at_47) zk
    refine Rn.pu (T' := T3) (g' := (mkF m 100 #[.val (.int p0), .val (.int p1), .val (.int p2), .val (.int p3), .val (.int (0 : Int32)), .val (.int r1), .val (.int r2), .val (.ref a3), .val (.int (0 : Int32)), .unset, .unset] [])) ?_ fun _ zk => XS.icmpYes H3.here hx rfl (pc0 := 48) (pc' := 100) rfl (hb hby at_48) rfl (c_lt_t (by decide)) (by decide) (by decide) zk
    refine Rn.pu (T' := T3) (g' := (mkF m 102 #[.val (.int p0), .val (.int p1), .val (.int p2), .val (.int p3), .val (.int (0 : Int32)), .val (.int r1), .val (.int r2), .val (.ref a3), .val (.int (0 : Int32)), .unset, .unset] [(.int (0 : Int32))])) ?_ fun _ zk => XS.iload H3.here hx rfl (hb hby at_100) rfl zk
    refine Rn.pu (T' := T3) (g' := (mkF m 117 #[.val (.int p0), .val (.int p1), .val (.int p2), .val (.int p3), .val (.int (0 : Int32)), .val (.int r1), .val (.int r2), .val (.ref a3), .val (.int (0 : Int32)), .unset, .unset] [])) ?_ fun _ zk => XS.ifYes H3.here hx rfl (pc0 := 102) (pc' := 117) rfl (hb hby at_102) rfl (z_le_t (by decide)) (by decide) (by decide) zk
    refine Rn.pu (T' := T3) (g' := (mkF m 118 #[.val (.int p0), .val (.int p1), .val (.int p2), .val (.int p3), .val (.int (0 : Int32)), .val (.int r1), .val (.int r2), .val (.ref a3), .val (.int (0 : Int32)), .unset, .unset] [(.int (0 : Int32))])) ?_ fun _ zk => XS.iconst H3.here hx rfl (hb hby at_117) zk
    refine Rn.pu (T' := T3) (g' := (mkF m 120 #[.val (.int p0), .val (.int p1), .val (.int p2), .val (.int p3), .val (.int (0 : Int32)), .val (.int r1), .val (.int r2), .val (.ref a3), .val (.int (0 : Int32)), .val (.int (0 : Int32)), .unset] [])) ?_ fun _ zk => XS.istore H3.here hx rfl (hb hby at_118) rfl (l' := #[.val (.int p0), .val (.int p1), .val (.int p2), .val (.int p3), .val (.int (0 : Int32)), .val (.int r1), .val (.int r2), .val (.ref a3), .val (.int (0 : Int32)), .val (.int (0 : Int32)), .unset]) rfl zk
    obtain ⟨a4, T4, h4, e4, H4, K4, E4, D4, st4⟩ := H3.newO (hw _ (List.mem_of_getElem? (i := 8) rfl)) (hw _ (List.mem_of_getElem? (i := 9) rfl)) (hw _ (List.mem_of_getElem? (i := 10) rfl)) (g := (mkF m 120 #[.val (.int p0), .val (.int p1), .val (.int p2), .val (.int p3), .val (.int (0 : Int32)), .val (.int r1), .val (.int r2), .val (.ref a3), .val (.int (0 : Int32)), .val (.int (0 : Int32)), .unset] [])) rfl (hb hby at_120) (by decide) (by decide)
    have zh4 := K4.1
    have l4 := natlt (E4).lt
    have g4 : s.heap.size ≤ a4 := by omega
    have F4_value : Fld Z h4 a4 "java/lang/String" "value" "[B" .null := D4 (Or.inr (hw _ (List.mem_of_getElem? (i := 23) rfl))) (ty := (.array .byte)) (by decide)
    have F4_coder : Fld Z h4 a4 "java/lang/String" "coder" "B" (.int (0 : Int32)) := D4 (Or.inr (hw _ (List.mem_of_getElem? (i := 24) rfl))) (ty := .byte) (by decide)
    refine Rn.pu (g' := (mkF m 123 #[.val (.int p0), .val (.int p1), .val (.int p2), .val (.int p3), .val (.int (0 : Int32)), .val (.int r1), .val (.int r2), .val (.ref a3), .val (.int (0 : Int32)), .val (.int (0 : Int32)), .unset] [(.ref a4)])) ?_ st4
    refine Rn.pu (T' := T4) (g' := (mkF m 124 #[.val (.int p0), .val (.int p1), .val (.int p2), .val (.int p3), .val (.int (0 : Int32)), .val (.int r1), .val (.int r2), .val (.ref a3), .val (.int (0 : Int32)), .val (.int (0 : Int32)), .unset] [(.ref a4), (.ref a4)])) ?_ fun _ zk => XS.dup H4.here hx rfl (hb hby at_123) rfl rfl zk
    refine Rn.pu (T' := T4) (g' := (mkF m 126 #[.val (.int p0), .val (.int p1), .val (.int p2), .val (.int p3), .val (.int (0 : Int32)), .val (.int r1), .val (.int r2), .val (.ref a3), .val (.int (0 : Int32)), .val (.int (0 : Int32)), .unset] [(.ref a3), (.ref a4), (.ref a4)])) ?_ fun _ zk => XS.aload H4.here hx rfl (hb hby at_124) rfl rfl zk
    obtain ⟨_, T5, h5, H5, ⟨rfl, V5, t5, S5, lt5⟩, K5, st5⟩ := H4.callIW rfl (hw _ (List.mem_of_getElem? (i := 11) rfl)) (hw _ (List.mem_of_getElem? (i := 12) rfl)) (hw _ (List.mem_of_getElem? (i := 13) rfl)) (by decide) (MetW.pay (W := 1) (c_new1 l ⟨hw, SC0, hz0, SU2, SU3, SU4, hh7, hcw⟩ [] (by simp) (fun _ => True) (fun _ _ _ _ => trivial) a4 a3 k3 (.int 0) h4 H4.old E4 F4_value F4_coder (by have := H0.old.1; omega) (A3.keep K4 nin0)) (hw _ (List.mem_of_getElem? (i := 13) rfl)) (hw _ (List.mem_of_getElem? (i := 10) rfl)) (by decide) (by decide)) (g := (mkF m 126 #[.val (.int p0), .val (.int p1), .val (.int p2), .val (.int p3), .val (.int (0 : Int32)), .val (.int r1), .val (.int r2), .val (.ref a3), .val (.int (0 : Int32)), .val (.int (0 : Int32)), .unset] [(.ref a3), (.ref a4), (.ref a4)])) rfl (by rw [hml]; rfl) (argsL := [(.ref a3)]) (rest := [(.ref a4)]) (lenOf pd__AC_V rfl) rfl rfl (Nat.le_of_eq rfl) (hb hby at_126) (by decide) (by decide) (allS (Or.inr (by omega)) all0) (fun U vm1 hV hW => (ELg.stab (fun _ _ _ _ => trivial) hW hV).keep (((Keep.refl _ []).trans K3 all0).trans K4 all0) all0)
    have zh5 := K5.1
    have H5 := H5.reV (V' := (ELg Z [] (fun _ => True) h5)) (fun v hv => by rw [hv]; exact V5)
    have l5 := natlt (S5).lt
    refine Rn.pu (g' := (mkF m 129 #[.val (.int p0), .val (.int p1), .val (.int p2), .val (.int p3), .val (.int (0 : Int32)), .val (.int r1), .val (.int r2), .val (.ref a3), .val (.int (0 : Int32)), .val (.int (0 : Int32)), .unset] [(.ref a4)])) ?_ st5
    obtain ⟨_, T6, h6, H6, ⟨rfl, rfl⟩, -, st6⟩ := H5.callS (hw _ (List.mem_of_getElem? (i := 29) rfl)) (hw _ (List.mem_of_getElem? (i := 30) rfl)) (hw _ (List.mem_of_getElem? (i := 31) rfl)) (hw _ (List.mem_of_getElem? (i := 32) rfl)) (by decide) (MetN.pay (W := 0) (c_tag l ⟨hw, SC0, hz0, SU2, SU3, SU4, hh7, hcw⟩ a4 t5 [] h5 H5.old (by decide) S5) (hw _ (List.mem_of_getElem? (i := 32) rfl)) (hw _ (List.mem_of_getElem? (i := 31) rfl)) (by decide) (by decide)) (g := (mkF m 129 #[.val (.int p0), .val (.int p1), .val (.int p2), .val (.int p3), .val (.int (0 : Int32)), .val (.int r1), .val (.int r2), .val (.ref a3), .val (.int (0 : Int32)), .val (.int (0 : Int32)), .unset] [(.ref a4)])) rfl (by rw [hml]; rfl) (argsL := [(.ref a4)]) (rest := []) (lenOf pd__Ljava_lang_String__Z rfl) rfl rfl (Nat.le_of_eq rfl) (hb hby at_129) (by decide) (by decide) all0
    refine Rn.pu (g' := (mkF m 132 #[.val (.int p0), .val (.int p1), .val (.int p2), .val (.int p3), .val (.int (0 : Int32)), .val (.int r1), .val (.int r2), .val (.ref a3), .val (.int (0 : Int32)), .val (.int (0 : Int32)), .unset] [(.int (own_tag []))])) ?_ st6
    refine Rn.pu (T' := T6) (g' := (mkF m 134 #[.val (.int p0), .val (.int p1), .val (.int p2), .val (.int p3), .val (.int (0 : Int32)), .val (.int r1), .val (.int r2), .val (.ref a3), .val (.int (0 : Int32)), .val (.int (0 : Int32)), .val (.int (own_tag []))] [])) ?_ fun _ zk => XS.istore H6.here hx rfl (hb hby at_132) rfl (l' := #[.val (.int p0), .val (.int p1), .val (.int p2), .val (.int p3), .val (.int (0 : Int32)), .val (.int r1), .val (.int r2), .val (.ref a3), .val (.int (0 : Int32)), .val (.int (0 : Int32)), .val (.int (own_tag []))]) rfl zk
    refine Rn.pu (T' := T6) (g' := (mkF m 136 #[.val (.int p0), .val (.int p1), .val (.int p2), .val (.int p3), .val (.int (0 : Int32)), .val (.int r1), .val (.int r2), .val (.ref a3), .val (.int (0 : Int32)), .val (.int (0 : Int32)), .val (.int (own_tag []))] [(.int (own_tag []))])) ?_ fun _ zk => XS.iload H6.here hx rfl (hb hby at_134) rfl zk
    refine Rn.pu (T' := T6) (g' := (mkF m 138 #[.val (.int p0), .val (.int p1), .val (.int p2), .val (.int p3), .val (.int (0 : Int32)), .val (.int r1), .val (.int r2), .val (.ref a3), .val (.int (0 : Int32)), .val (.int (0 : Int32)), .val (.int (own_tag []))] [(.int (0 : Int32)), (.int (own_tag []))])) ?_ fun _ zk => XS.iload H6.here hx rfl (hb hby at_136) rfl zk
    refine Rn.pu (T' := T6) (g' := (mkF m 141 #[.val (.int p0), .val (.int p1), .val (.int p2), .val (.int p3), .val (.int (0 : Int32)), .val (.int r1), .val (.int r2), .val (.ref a3), .val (.int (0 : Int32)), .val (.int (0 : Int32)), .val (.int (own_tag []))] [])) ?_ fun _ zk => XS.icmpNo H6.here hx rfl (hb hby at_138) rfl (c_ne_f rfl) zk
    refine Rn.pu (T' := T6) (g' := (mkF m 142 #[.val (.int p0), .val (.int p1), .val (.int p2), .val (.int p3), .val (.int (0 : Int32)), .val (.int r1), .val (.int r2), .val (.ref a3), .val (.int (0 : Int32)), .val (.int (0 : Int32)), .val (.int (own_tag []))] [(.int (1 : Int32))])) ?_ fun _ zk => XS.iconst H6.here hx rfl (hb hby at_141) zk
    refine Rn.pu (T' := T6) (g' := (mkF m 146 #[.val (.int p0), .val (.int p1), .val (.int p2), .val (.int p3), .val (.int (0 : Int32)), .val (.int r1), .val (.int r2), .val (.ref a3), .val (.int (0 : Int32)), .val (.int (0 : Int32)), .val (.int (own_tag []))] [(.int (1 : Int32))])) ?_ fun _ zk => XS.goto H6.here hx rfl (pc0 := 142) (pc' := 146) rfl (hb hby at_142) (by decide) (by decide) zk
    exact H6.retS ends_W hlk (t := .boolean) hret (by simp) (hb hby at_146) (by decide) (by decide) (fun _ q => nomatch q) rfl
  ·
    refine Rn.pu (T' := T2) (g' := (mkF m 25 #[.val (.int p0), .val (.int p1), .val (.int p2), .val (.int p3), .val (.int (1 : Int32)), .val (.int r1), .val (.int r2), .unset, .unset, .unset, .unset] [(.int (1 : Int32))])) ?_ fun _ zk => XS.iload H2.here hx rfl (hb hby at_23) rfl zk
    obtain ⟨a7, k7, T7, h7, e7, H7, K7, A7, st7⟩ := H2.newP (aty := .char) (hw _ (List.mem_of_getElem? (i := 7) rfl)) (g := (mkF m 25 #[.val (.int p0), .val (.int p1), .val (.int p2), .val (.int p3), .val (.int (1 : Int32)), .val (.int r1), .val (.int r2), .unset, .unset, .unset, .unset] [(.int (1 : Int32))])) rfl (hb hby at_25) rfl (by decide) (cap := 1) (by decide) (by decide) (by decide) (by decide)
    have zh7 := K7.1
    have l7 := natlt (A7).lt
    have g7 : s.heap.size ≤ a7 := by omega
    refine Rn.pu (g' := (mkF m 27 #[.val (.int p0), .val (.int p1), .val (.int p2), .val (.int p3), .val (.int (1 : Int32)), .val (.int r1), .val (.int r2), .unset, .unset, .unset, .unset] [(.ref a7)])) ?_ st7
    refine Rn.pu (T' := T7) (g' := (mkF m 29 #[.val (.int p0), .val (.int p1), .val (.int p2), .val (.int p3), .val (.int (1 : Int32)), .val (.int r1), .val (.int r2), .val (.ref a7), .unset, .unset, .unset] [])) ?_ fun _ zk => XS.astore H7.here hx rfl (hb hby at_27) rfl rfl (l' := #[.val (.int p0), .val (.int p1), .val (.int p2), .val (.int p3), .val (.int (1 : Int32)), .val (.int r1), .val (.int r2), .val (.ref a7), .unset, .unset, .unset]) rfl zk
    refine Rn.pu (T' := T7) (g' := (mkF m 31 #[.val (.int p0), .val (.int p1), .val (.int p2), .val (.int p3), .val (.int (1 : Int32)), .val (.int r1), .val (.int r2), .val (.ref a7), .unset, .unset, .unset] [(.int (1 : Int32))])) ?_ fun _ zk => XS.iload H7.here hx rfl (hb hby at_29) rfl zk
    refine Rn.pu (T' := T7) (g' := (mkF m 33 #[.val (.int p0), .val (.int p1), .val (.int p2), .val (.int p3), .val (.int (1 : Int32)), .val (.int r1), .val (.int r2), .val (.ref a7), .val (.int (1 : Int32)), .unset, .unset] [])) ?_ fun _ zk => XS.istore H7.here hx rfl (hb hby at_31) rfl (l' := #[.val (.int p0), .val (.int p1), .val (.int p2), .val (.int p3), .val (.int (1 : Int32)), .val (.int r1), .val (.int r2), .val (.ref a7), .val (.int (1 : Int32)), .unset, .unset]) rfl zk
    refine Rn.pu (T' := T7) (g' := (mkF m 35 #[.val (.int p0), .val (.int p1), .val (.int p2), .val (.int p3), .val (.int (1 : Int32)), .val (.int r1), .val (.int r2), .val (.ref a7), .val (.int (1 : Int32)), .unset, .unset] [(.int (1 : Int32))])) ?_ fun _ zk => XS.iload H7.here hx rfl (hb hby at_33) rfl zk
    refine Rn.pu (T' := T7) (g' := (mkF m 36 #[.val (.int p0), .val (.int p1), .val (.int p2), .val (.int p3), .val (.int (1 : Int32)), .val (.int r1), .val (.int r2), .val (.ref a7), .val (.int (1 : Int32)), .unset, .unset] [(.int (1 : Int32)), (.int (1 : Int32))])) ?_ fun _ zk => XS.iconst H7.here hx rfl (hb hby at_35) zk
    refine Rn.pu (T' := T7) (g' := (mkF m 39 #[.val (.int p0), .val (.int p1), .val (.int p2), .val (.int p3), .val (.int (1 : Int32)), .val (.int r1), .val (.int r2), .val (.ref a7), .val (.int (1 : Int32)), .unset, .unset] [])) ?_ fun _ zk => XS.icmpNo H7.here hx rfl (hb hby at_36) rfl (c_ne_f rfl) zk
    refine Rn.pu (T' := T7) (g' := (mkF m 41 #[.val (.int p0), .val (.int p1), .val (.int p2), .val (.int p3), .val (.int (1 : Int32)), .val (.int r1), .val (.int r2), .val (.ref a7), .val (.int (1 : Int32)), .unset, .unset] [(.ref a7)])) ?_ fun _ zk => XS.aload H7.here hx rfl (hb hby at_39) rfl rfl zk
    refine Rn.pu (T' := T7) (g' := (mkF m 42 #[.val (.int p0), .val (.int p1), .val (.int p2), .val (.int p3), .val (.int (1 : Int32)), .val (.int r1), .val (.int r2), .val (.ref a7), .val (.int (1 : Int32)), .unset, .unset] [(.int (0 : Int32)), (.ref a7)])) ?_ fun _ zk => XS.iconst H7.here hx rfl (hb hby at_41) zk
    refine Rn.pu (T' := T7) (g' := (mkF m 44 #[.val (.int p0), .val (.int p1), .val (.int p2), .val (.int p3), .val (.int (1 : Int32)), .val (.int r1), .val (.int r2), .val (.ref a7), .val (.int (1 : Int32)), .unset, .unset] [(.int r1), (.int (0 : Int32)), (.ref a7)])) ?_ fun _ zk => XS.iload H7.here hx rfl (hb hby at_42) rfl zk
    obtain ⟨T8, h8, H8, K8, A8, st8⟩ := H7.stC A7 (by decide) rfl (Or.inr (by omega)) (g := (mkF m 44 #[.val (.int p0), .val (.int p1), .val (.int p2), .val (.int p3), .val (.int (1 : Int32)), .val (.int r1), .val (.int r2), .val (.ref a7), .val (.int (1 : Int32)), .unset, .unset] [(.int r1), (.int (0 : Int32)), (.ref a7)])) rfl rfl (hb hby at_44)
    have zh8 := K8.1
    refine Rn.pu (g' := (mkF m 45 #[.val (.int p0), .val (.int p1), .val (.int p2), .val (.int p3), .val (.int (1 : Int32)), .val (.int r1), .val (.int r2), .val (.ref a7), .val (.int (1 : Int32)), .unset, .unset] [])) ?_ st8
    have AC : Arv Z h8 a7 k7 .char (1 : Int32) [.int r1] (.int 0) := by have q := A8; simp only [List.nil_append, nar_id r5.1 r5.2] at q; exact q
    refine Rn.pu (T' := T8) (g' := (mkF m 47 #[.val (.int p0), .val (.int p1), .val (.int p2), .val (.int p3), .val (.int (1 : Int32)), .val (.int r1), .val (.int r2), .val (.ref a7), .val (.int (1 : Int32)), .unset, .unset] [(.int (1 : Int32))])) ?_ fun _ zk => XS.iload H8.here hx rfl (hb hby at_45) rfl zk
    refine Rn.pu (T' := T8) (g' := (mkF m 48 #[.val (.int p0), .val (.int p1), .val (.int p2), .val (.int p3), .val (.int (1 : Int32)), .val (.int r1), .val (.int r2), .val (.ref a7), .val (.int (1 : Int32)), .unset, .unset] [(.int (2 : Int32)), (.int (1 : Int32))])) ?_ fun _ zk => XS.iconst H8.here hx rfl (hb hby at_47) zk
    refine Rn.pu (T' := T8) (g' := (mkF m 100 #[.val (.int p0), .val (.int p1), .val (.int p2), .val (.int p3), .val (.int (1 : Int32)), .val (.int r1), .val (.int r2), .val (.ref a7), .val (.int (1 : Int32)), .unset, .unset] [])) ?_ fun _ zk => XS.icmpYes H8.here hx rfl (pc0 := 48) (pc' := 100) rfl (hb hby at_48) rfl (c_lt_t (by decide)) (by decide) (by decide) zk
    refine Rn.pu (T' := T8) (g' := (mkF m 102 #[.val (.int p0), .val (.int p1), .val (.int p2), .val (.int p3), .val (.int (1 : Int32)), .val (.int r1), .val (.int r2), .val (.ref a7), .val (.int (1 : Int32)), .unset, .unset] [(.int (1 : Int32))])) ?_ fun _ zk => XS.iload H8.here hx rfl (hb hby at_100) rfl zk
    refine Rn.pu (T' := T8) (g' := (mkF m 105 #[.val (.int p0), .val (.int p1), .val (.int p2), .val (.int p3), .val (.int (1 : Int32)), .val (.int r1), .val (.int r2), .val (.ref a7), .val (.int (1 : Int32)), .unset, .unset] [])) ?_ fun _ zk => XS.ifNo H8.here hx rfl (hb hby at_102) rfl (z_le_f (by decide)) zk
    refine Rn.pu (T' := T8) (g' := (mkF m 107 #[.val (.int p0), .val (.int p1), .val (.int p2), .val (.int p3), .val (.int (1 : Int32)), .val (.int r1), .val (.int r2), .val (.ref a7), .val (.int (1 : Int32)), .unset, .unset] [(.int (1 : Int32))])) ?_ fun _ zk => XS.iload H8.here hx rfl (hb hby at_105) rfl zk
    refine Rn.pu (T' := T8) (g' := (mkF m 110 #[.val (.int p0), .val (.int p1), .val (.int p2), .val (.int p3), .val (.int (1 : Int32)), .val (.int r1), .val (.int r2), .val (.ref a7), .val (.int (1 : Int32)), .unset, .unset] [(.int (256 : Int32)), (.int (1 : Int32))])) ?_ fun _ zk => XS.sipush H8.here hx rfl (hb hby at_107) zk
    refine Rn.pu (T' := T8) (g' := (mkF m 113 #[.val (.int p0), .val (.int p1), .val (.int p2), .val (.int p3), .val (.int (1 : Int32)), .val (.int r1), .val (.int r2), .val (.ref a7), .val (.int (1 : Int32)), .unset, .unset] [])) ?_ fun _ zk => XS.icmpNo H8.here hx rfl (hb hby at_110) rfl (c_gt_f (by decide)) zk
    refine Rn.pu (T' := T8) (g' := (mkF m 114 #[.val (.int p0), .val (.int p1), .val (.int p2), .val (.int p3), .val (.int (1 : Int32)), .val (.int r1), .val (.int r2), .val (.ref a7), .val (.int (1 : Int32)), .unset, .unset] [(.int (1 : Int32))])) ?_ fun _ zk => XS.iconst H8.here hx rfl (hb hby at_113) zk
    refine Rn.pu (T' := T8) (g' := (mkF m 118 #[.val (.int p0), .val (.int p1), .val (.int p2), .val (.int p3), .val (.int (1 : Int32)), .val (.int r1), .val (.int r2), .val (.ref a7), .val (.int (1 : Int32)), .unset, .unset] [(.int (1 : Int32))])) ?_ fun _ zk => XS.goto H8.here hx rfl (pc0 := 114) (pc' := 118) rfl (hb hby at_114) (by decide) (by decide) zk
    refine Rn.pu (T' := T8) (g' := (mkF m 120 #[.val (.int p0), .val (.int p1), .val (.int p2), .val (.int p3), .val (.int (1 : Int32)), .val (.int r1), .val (.int r2), .val (.ref a7), .val (.int (1 : Int32)), .val (.int (1 : Int32)), .unset] [])) ?_ fun _ zk => XS.istore H8.here hx rfl (hb hby at_118) rfl (l' := #[.val (.int p0), .val (.int p1), .val (.int p2), .val (.int p3), .val (.int (1 : Int32)), .val (.int r1), .val (.int r2), .val (.ref a7), .val (.int (1 : Int32)), .val (.int (1 : Int32)), .unset]) rfl zk
    obtain ⟨a9, T9, h9, e9, H9, K9, E9, D9, st9⟩ := H8.newO (hw _ (List.mem_of_getElem? (i := 8) rfl)) (hw _ (List.mem_of_getElem? (i := 9) rfl)) (hw _ (List.mem_of_getElem? (i := 10) rfl)) (g := (mkF m 120 #[.val (.int p0), .val (.int p1), .val (.int p2), .val (.int p3), .val (.int (1 : Int32)), .val (.int r1), .val (.int r2), .val (.ref a7), .val (.int (1 : Int32)), .val (.int (1 : Int32)), .unset] [])) rfl (hb hby at_120) (by decide) (by decide)
    have zh9 := K9.1
    have l9 := natlt (E9).lt
    have g9 : s.heap.size ≤ a9 := by omega
    have F9_value : Fld Z h9 a9 "java/lang/String" "value" "[B" .null := D9 (Or.inr (hw _ (List.mem_of_getElem? (i := 23) rfl))) (ty := (.array .byte)) (by decide)
    have F9_coder : Fld Z h9 a9 "java/lang/String" "coder" "B" (.int (0 : Int32)) := D9 (Or.inr (hw _ (List.mem_of_getElem? (i := 24) rfl))) (ty := .byte) (by decide)
    refine Rn.pu (g' := (mkF m 123 #[.val (.int p0), .val (.int p1), .val (.int p2), .val (.int p3), .val (.int (1 : Int32)), .val (.int r1), .val (.int r2), .val (.ref a7), .val (.int (1 : Int32)), .val (.int (1 : Int32)), .unset] [(.ref a9)])) ?_ st9
    refine Rn.pu (T' := T9) (g' := (mkF m 124 #[.val (.int p0), .val (.int p1), .val (.int p2), .val (.int p3), .val (.int (1 : Int32)), .val (.int r1), .val (.int r2), .val (.ref a7), .val (.int (1 : Int32)), .val (.int (1 : Int32)), .unset] [(.ref a9), (.ref a9)])) ?_ fun _ zk => XS.dup H9.here hx rfl (hb hby at_123) rfl rfl zk
    refine Rn.pu (T' := T9) (g' := (mkF m 126 #[.val (.int p0), .val (.int p1), .val (.int p2), .val (.int p3), .val (.int (1 : Int32)), .val (.int r1), .val (.int r2), .val (.ref a7), .val (.int (1 : Int32)), .val (.int (1 : Int32)), .unset] [(.ref a7), (.ref a9), (.ref a9)])) ?_ fun _ zk => XS.aload H9.here hx rfl (hb hby at_124) rfl rfl zk
    obtain ⟨_, T10, h10, H10, ⟨rfl, t10, S10, lt10⟩, K10, st10⟩ := H9.callIm rfl (hw _ (List.mem_of_getElem? (i := 11) rfl)) (hw _ (List.mem_of_getElem? (i := 12) rfl)) (hw _ (List.mem_of_getElem? (i := 13) rfl)) (by decide) (payNewU (cs := [r1]) (n := 1) (W := 1) l ⟨hw, SC0, hz0, SU2, SU3, SU4, hh7, hcw⟩ H9.old rfl rfl (by decide) (by decide) (mem2 rr1 mem0) (AC.keep K9 nin0) E9 F9_value F9_coder (by have := H0.old.1; omega) (by decide) (by decide)) (g := (mkF m 126 #[.val (.int p0), .val (.int p1), .val (.int p2), .val (.int p3), .val (.int (1 : Int32)), .val (.int r1), .val (.int r2), .val (.ref a7), .val (.int (1 : Int32)), .val (.int (1 : Int32)), .unset] [(.ref a7), (.ref a9), (.ref a9)])) rfl (by rw [hml]; rfl) (argsL := [(.ref a7)]) (rest := [(.ref a9)]) (lenOf pd__AC_V rfl) rfl rfl (Nat.le_of_eq rfl) (hb hby at_126) (by decide) (by decide) (allS (Or.inr (by omega)) all0)
    have zh10 := K10.1
    have l10 := natlt (S10).lt
    refine Rn.pu (g' := (mkF m 129 #[.val (.int p0), .val (.int p1), .val (.int p2), .val (.int p3), .val (.int (1 : Int32)), .val (.int r1), .val (.int r2), .val (.ref a7), .val (.int (1 : Int32)), .val (.int (1 : Int32)), .unset] [(.ref a9)])) ?_ st10
    obtain ⟨_, T11, h11, H11, ⟨rfl, rfl⟩, -, st11⟩ := H10.callS (hw _ (List.mem_of_getElem? (i := 29) rfl)) (hw _ (List.mem_of_getElem? (i := 30) rfl)) (hw _ (List.mem_of_getElem? (i := 31) rfl)) (hw _ (List.mem_of_getElem? (i := 32) rfl)) (by decide) (MetN.pay (W := 0) (c_tag l ⟨hw, SC0, hz0, SU2, SU3, SU4, hh7, hcw⟩ a9 t10 [r1] h10 H10.old (by simp) S10) (hw _ (List.mem_of_getElem? (i := 32) rfl)) (hw _ (List.mem_of_getElem? (i := 31) rfl)) (by decide) (by decide)) (g := (mkF m 129 #[.val (.int p0), .val (.int p1), .val (.int p2), .val (.int p3), .val (.int (1 : Int32)), .val (.int r1), .val (.int r2), .val (.ref a7), .val (.int (1 : Int32)), .val (.int (1 : Int32)), .unset] [(.ref a9)])) rfl (by rw [hml]; rfl) (argsL := [(.ref a9)]) (rest := []) (lenOf pd__Ljava_lang_String__Z rfl) rfl rfl (Nat.le_of_eq rfl) (hb hby at_129) (by decide) (by decide) all0
    refine Rn.pu (g' := (mkF m 132 #[.val (.int p0), .val (.int p1), .val (.int p2), .val (.int p3), .val (.int (1 : Int32)), .val (.int r1), .val (.int r2), .val (.ref a7), .val (.int (1 : Int32)), .val (.int (1 : Int32)), .unset] [(.int (own_tag [r1]))])) ?_ st11
    refine Rn.pu (T' := T11) (g' := (mkF m 134 #[.val (.int p0), .val (.int p1), .val (.int p2), .val (.int p3), .val (.int (1 : Int32)), .val (.int r1), .val (.int r2), .val (.ref a7), .val (.int (1 : Int32)), .val (.int (1 : Int32)), .val (.int (own_tag [r1]))] [])) ?_ fun _ zk => XS.istore H11.here hx rfl (hb hby at_132) rfl (l' := #[.val (.int p0), .val (.int p1), .val (.int p2), .val (.int p3), .val (.int (1 : Int32)), .val (.int r1), .val (.int r2), .val (.ref a7), .val (.int (1 : Int32)), .val (.int (1 : Int32)), .val (.int (own_tag [r1]))]) rfl zk
    refine Rn.pu (T' := T11) (g' := (mkF m 136 #[.val (.int p0), .val (.int p1), .val (.int p2), .val (.int p3), .val (.int (1 : Int32)), .val (.int r1), .val (.int r2), .val (.ref a7), .val (.int (1 : Int32)), .val (.int (1 : Int32)), .val (.int (own_tag [r1]))] [(.int (own_tag [r1]))])) ?_ fun _ zk => XS.iload H11.here hx rfl (hb hby at_134) rfl zk
    refine Rn.pu (T' := T11) (g' := (mkF m 138 #[.val (.int p0), .val (.int p1), .val (.int p2), .val (.int p3), .val (.int (1 : Int32)), .val (.int r1), .val (.int r2), .val (.ref a7), .val (.int (1 : Int32)), .val (.int (1 : Int32)), .val (.int (own_tag [r1]))] [(.int (1 : Int32)), (.int (own_tag [r1]))])) ?_ fun _ zk => XS.iload H11.here hx rfl (hb hby at_136) rfl zk
    refine Rn.pu (T' := T11) (g' := (mkF m 141 #[.val (.int p0), .val (.int p1), .val (.int p2), .val (.int p3), .val (.int (1 : Int32)), .val (.int r1), .val (.int r2), .val (.ref a7), .val (.int (1 : Int32)), .val (.int (1 : Int32)), .val (.int (own_tag [r1]))] [])) ?_ fun _ zk => XS.icmpNo H11.here hx rfl (hb hby at_138) rfl (c_ne_f own_tag1) zk
    refine Rn.pu (T' := T11) (g' := (mkF m 142 #[.val (.int p0), .val (.int p1), .val (.int p2), .val (.int p3), .val (.int (1 : Int32)), .val (.int r1), .val (.int r2), .val (.ref a7), .val (.int (1 : Int32)), .val (.int (1 : Int32)), .val (.int (own_tag [r1]))] [(.int (1 : Int32))])) ?_ fun _ zk => XS.iconst H11.here hx rfl (hb hby at_141) zk
    refine Rn.pu (T' := T11) (g' := (mkF m 146 #[.val (.int p0), .val (.int p1), .val (.int p2), .val (.int p3), .val (.int (1 : Int32)), .val (.int r1), .val (.int r2), .val (.ref a7), .val (.int (1 : Int32)), .val (.int (1 : Int32)), .val (.int (own_tag [r1]))] [(.int (1 : Int32))])) ?_ fun _ zk => XS.goto H11.here hx rfl (pc0 := 142) (pc' := 146) rfl (hb hby at_142) (by decide) (by decide) zk
    exact H11.retS ends_W hlk (t := .boolean) hret (by simp) (hb hby at_146) (by decide) (by decide) (fun _ q => nomatch q) rfl
  ·
    refine Rn.pu (T' := T2) (g' := (mkF m 25 #[.val (.int p0), .val (.int p1), .val (.int p2), .val (.int p3), .val (.int (Int32.ofNat n)), .val (.int r1), .val (.int r2), .unset, .unset, .unset, .unset] [(.int (Int32.ofNat n))])) ?_ fun _ zk => XS.iload H2.here hx rfl (hb hby at_23) rfl zk
    obtain ⟨a12, k12, T12, h12, e12, H12, K12, A12, st12⟩ := H2.newP (aty := .char) (hw _ (List.mem_of_getElem? (i := 7) rfl)) (g := (mkF m 25 #[.val (.int p0), .val (.int p1), .val (.int p2), .val (.int p3), .val (.int (Int32.ofNat n)), .val (.int r1), .val (.int r2), .unset, .unset, .unset, .unset] [(.int (Int32.ofNat n))])) rfl (hb hby at_25) rfl (u_nn (by omega)) (cap := 511) (by rw [u_cl (by omega)]; omega) (by decide) (by decide) (by decide)
    have zh12 := K12.1
    have l12 := natlt (A12).lt
    have g12 : s.heap.size ≤ a12 := by omega
    refine Rn.pu (g' := (mkF m 27 #[.val (.int p0), .val (.int p1), .val (.int p2), .val (.int p3), .val (.int (Int32.ofNat n)), .val (.int r1), .val (.int r2), .unset, .unset, .unset, .unset] [(.ref a12)])) ?_ st12
    refine Rn.pu (T' := T12) (g' := (mkF m 29 #[.val (.int p0), .val (.int p1), .val (.int p2), .val (.int p3), .val (.int (Int32.ofNat n)), .val (.int r1), .val (.int r2), .val (.ref a12), .unset, .unset, .unset] [])) ?_ fun _ zk => XS.astore H12.here hx rfl (hb hby at_27) rfl rfl (l' := #[.val (.int p0), .val (.int p1), .val (.int p2), .val (.int p3), .val (.int (Int32.ofNat n)), .val (.int r1), .val (.int r2), .val (.ref a12), .unset, .unset, .unset]) rfl zk
    refine Rn.pu (T' := T12) (g' := (mkF m 31 #[.val (.int p0), .val (.int p1), .val (.int p2), .val (.int p3), .val (.int (Int32.ofNat n)), .val (.int r1), .val (.int r2), .val (.ref a12), .unset, .unset, .unset] [(.int (Int32.ofNat n))])) ?_ fun _ zk => XS.iload H12.here hx rfl (hb hby at_29) rfl zk
    refine Rn.pu (T' := T12) (g' := (mkF m 33 #[.val (.int p0), .val (.int p1), .val (.int p2), .val (.int p3), .val (.int (Int32.ofNat n)), .val (.int r1), .val (.int r2), .val (.ref a12), .val (.int (Int32.ofNat n)), .unset, .unset] [])) ?_ fun _ zk => XS.istore H12.here hx rfl (hb hby at_31) rfl (l' := #[.val (.int p0), .val (.int p1), .val (.int p2), .val (.int p3), .val (.int (Int32.ofNat n)), .val (.int r1), .val (.int r2), .val (.ref a12), .val (.int (Int32.ofNat n)), .unset, .unset]) rfl zk
    refine Rn.pu (T' := T12) (g' := (mkF m 35 #[.val (.int p0), .val (.int p1), .val (.int p2), .val (.int p3), .val (.int (Int32.ofNat n)), .val (.int r1), .val (.int r2), .val (.ref a12), .val (.int (Int32.ofNat n)), .unset, .unset] [(.int (Int32.ofNat n))])) ?_ fun _ zk => XS.iload H12.here hx rfl (hb hby at_33) rfl zk
    refine Rn.pu (T' := T12) (g' := (mkF m 36 #[.val (.int p0), .val (.int p1), .val (.int p2), .val (.int p3), .val (.int (Int32.ofNat n)), .val (.int r1), .val (.int r2), .val (.ref a12), .val (.int (Int32.ofNat n)), .unset, .unset] [(.int (1 : Int32)), (.int (Int32.ofNat n))])) ?_ fun _ zk => XS.iconst H12.here hx rfl (hb hby at_35) zk
    refine Rn.pu (T' := T12) (g' := (mkF m 45 #[.val (.int p0), .val (.int p1), .val (.int p2), .val (.int p3), .val (.int (Int32.ofNat n)), .val (.int r1), .val (.int r2), .val (.ref a12), .val (.int (Int32.ofNat n)), .unset, .unset] [])) ?_ fun _ zk => XS.icmpYes H12.here hx rfl (pc0 := 36) (pc' := 45) rfl (hb hby at_36) rfl (c_ne_t (u_ne (n := 1) (by omega) (by omega) (by omega))) (by decide) (by decide) zk
    refine Rn.pu (T' := T12) (g' := (mkF m 47 #[.val (.int p0), .val (.int p1), .val (.int p2), .val (.int p3), .val (.int (Int32.ofNat n)), .val (.int r1), .val (.int r2), .val (.ref a12), .val (.int (Int32.ofNat n)), .unset, .unset] [(.int (Int32.ofNat n))])) ?_ fun _ zk => XS.iload H12.here hx rfl (hb hby at_45) rfl zk
    refine Rn.pu (T' := T12) (g' := (mkF m 48 #[.val (.int p0), .val (.int p1), .val (.int p2), .val (.int p3), .val (.int (Int32.ofNat n)), .val (.int r1), .val (.int r2), .val (.ref a12), .val (.int (Int32.ofNat n)), .unset, .unset] [(.int (2 : Int32)), (.int (Int32.ofNat n))])) ?_ fun _ zk => XS.iconst H12.here hx rfl (hb hby at_47) zk
    refine Rn.pu (T' := T12) (g' := (mkF m 51 #[.val (.int p0), .val (.int p1), .val (.int p2), .val (.int p3), .val (.int (Int32.ofNat n)), .val (.int r1), .val (.int r2), .val (.ref a12), .val (.int (Int32.ofNat n)), .unset, .unset] [])) ?_ fun _ zk => XS.icmpNo H12.here hx rfl (hb hby at_48) rfl (c_lt_f (own_nlt2 (n := 2) (by omega) (by omega) (by omega))) zk
    refine Rn.pu (T' := T12) (g' := (mkF m 52 #[.val (.int p0), .val (.int p1), .val (.int p2), .val (.int p3), .val (.int (Int32.ofNat n)), .val (.int r1), .val (.int r2), .val (.ref a12), .val (.int (Int32.ofNat n)), .unset, .unset] [(.int p1)])) ?_ fun _ zk => XS.iloadN H12.here hx rfl (hb hby at_51) rfl zk
    refine Rn.pu (g' := (mkF m 54 #[.val (.int p0), .val (.int p1), .val (.int p2), .val (.int p3), .val (.int (Int32.ofNat n)), .val (.int r1), .val (.int r2), .val (.ref a12), .val (.int (Int32.ofNat n)), .unset, .unset] [(.int (2147483647 : Int32)), (.int p1)])) ?_ (H12.ldcI (hw _ (List.mem_of_getElem? (i := 38) rfl)) (g := (mkF m 52 #[.val (.int p0), .val (.int p1), .val (.int p2), .val (.int p3), .val (.int (Int32.ofNat n)), .val (.int r1), .val (.int r2), .val (.ref a12), .val (.int (Int32.ofNat n)), .unset, .unset] [(.int p1)])) rfl (hb hby at_52))
    refine Rn.pu (T' := T12) (g' := (mkF m 55 #[.val (.int p0), .val (.int p1), .val (.int p2), .val (.int p3), .val (.int (Int32.ofNat n)), .val (.int r1), .val (.int r2), .val (.ref a12), .val (.int (Int32.ofNat n)), .unset, .unset] [(.int (p1 &&& (2147483647 : Int32)))])) ?_ fun _ zk => XS.iand H12.here hx rfl (hb hby at_54) rfl zk
    refine Rn.pu (T' := T12) (g' := (mkF m 57 #[.val (.int p0), .val (.int p1), .val (.int p2), .val (.int p3), .val (.int (Int32.ofNat n)), .val (.int r1), .val (.int r2), .val (.ref a12), .val (.int (Int32.ofNat n)), .unset, .unset] [(.int (Int32.ofNat n)), (.int (p1 &&& (2147483647 : Int32)))])) ?_ fun _ zk => XS.iload H12.here hx rfl (hb hby at_55) rfl zk
    refine Rn.pu (T' := T12) (g' := (mkF m 58 #[.val (.int p0), .val (.int p1), .val (.int p2), .val (.int p3), .val (.int (Int32.ofNat n)), .val (.int r1), .val (.int r2), .val (.ref a12), .val (.int (Int32.ofNat n)), .unset, .unset] [(.int (1 : Int32)), (.int (Int32.ofNat n)), (.int (p1 &&& (2147483647 : Int32)))])) ?_ fun _ zk => XS.iconst H12.here hx rfl (hb hby at_57) zk
    refine Rn.pu (T' := T12) (g' := (mkF m 59 #[.val (.int p0), .val (.int p1), .val (.int p2), .val (.int p3), .val (.int (Int32.ofNat n)), .val (.int r1), .val (.int r2), .val (.ref a12), .val (.int (Int32.ofNat n)), .unset, .unset] [(.int ((Int32.ofNat n) - (1 : Int32))), (.int (p1 &&& (2147483647 : Int32)))])) ?_ fun _ zk => XS.isub H12.here hx rfl (hb hby at_58) rfl zk
    refine Rn.pu (T' := T12) (g' := (mkF m 60 #[.val (.int p0), .val (.int p1), .val (.int p2), .val (.int p3), .val (.int (Int32.ofNat n)), .val (.int r1), .val (.int r2), .val (.ref a12), .val (.int (Int32.ofNat n)), .unset, .unset] [(.int ((p1 &&& (2147483647 : Int32)) % ((Int32.ofNat n) - (1 : Int32))))])) ?_ fun _ zk => iremH H12 hx rfl (hb hby at_59) rfl (own_m1 h2 h5) zk
    refine Rn.pu (T' := T12) (g' := (mkF m 62 #[.val (.int p0), .val (.int p1), .val (.int p2), .val (.int p3), .val (.int (Int32.ofNat n)), .val (.int r1), .val (.int r2), .val (.ref a12), .val (.int (Int32.ofNat n)), .val (.int ((p1 &&& (2147483647 : Int32)) % ((Int32.ofNat n) - (1 : Int32)))), .unset] [])) ?_ fun _ zk => XS.istore H12.here hx rfl (hb hby at_60) rfl (l' := #[.val (.int p0), .val (.int p1), .val (.int p2), .val (.int p3), .val (.int (Int32.ofNat n)), .val (.int r1), .val (.int r2), .val (.ref a12), .val (.int (Int32.ofNat n)), .val (.int ((p1 &&& (2147483647 : Int32)) % ((Int32.ofNat n) - (1 : Int32)))), .unset]) rfl zk
    obtain ⟨rI, erI⟩ : ∃ z : Int32, z = ((p1 &&& (2147483647 : Int32)) % ((Int32.ofNat n) - (1 : Int32))) := ⟨_, rfl⟩
    rw [← erI]
    obtain ⟨k, hk, hkr⟩ : ∃ k, k + 1 < n ∧ rI = Int32.ofNat k := by rw [erI]; exact own_rem h2 h5 _
    clear erI
    subst hkr
    have AP : Arv Z h12 a12 k12 .char (Int32.ofNat n) ((List.replicate n (0 : Int32)).map Value.int) (.int 0) := by have q := A12.pad (pad_rep [] (.int 0) n); rw [List.nil_append] at q; rw [List.map_replicate]; exact q
    refine Rn.pu (T' := T12) (g' := (mkF m 64 #[.val (.int p0), .val (.int p1), .val (.int p2), .val (.int p3), .val (.int (Int32.ofNat n)), .val (.int r1), .val (.int r2), .val (.ref a12), .val (.int (Int32.ofNat n)), .val (.int (Int32.ofNat k)), .unset] [(.ref a12)])) ?_ fun _ zk => XS.aload H12.here hx rfl (hb hby at_62) rfl rfl zk
    refine Rn.pu (T' := T12) (g' := (mkF m 66 #[.val (.int p0), .val (.int p1), .val (.int p2), .val (.int p3), .val (.int (Int32.ofNat n)), .val (.int r1), .val (.int r2), .val (.ref a12), .val (.int (Int32.ofNat n)), .val (.int (Int32.ofNat k)), .unset] [(.int (Int32.ofNat k)), (.ref a12)])) ?_ fun _ zk => XS.iload H12.here hx rfl (hb hby at_64) rfl zk
    refine Rn.pu (T' := T12) (g' := (mkF m 68 #[.val (.int p0), .val (.int p1), .val (.int p2), .val (.int p3), .val (.int (Int32.ofNat n)), .val (.int r1), .val (.int r2), .val (.ref a12), .val (.int (Int32.ofNat n)), .val (.int (Int32.ofNat k)), .unset] [(.int r1), (.int (Int32.ofNat k)), (.ref a12)])) ?_ fun _ zk => XS.iload H12.here hx rfl (hb hby at_66) rfl zk
    obtain ⟨T13, h13, H13, K13, A13, st13⟩ := H12.stCi AP ⟨u_nn (by omega), u_lt (by omega) (by omega)⟩ (i := k) (u_cl (by omega)) (by simp; omega) (Or.inr (by omega)) (g := (mkF m 68 #[.val (.int p0), .val (.int p1), .val (.int p2), .val (.int p3), .val (.int (Int32.ofNat n)), .val (.int r1), .val (.int r2), .val (.ref a12), .val (.int (Int32.ofNat n)), .val (.int (Int32.ofNat k)), .unset] [(.int r1), (.int (Int32.ofNat k)), (.ref a12)])) rfl rfl (hb hby at_68)
    have zh13 := K13.1
    refine Rn.pu (g' := (mkF m 69 #[.val (.int p0), .val (.int p1), .val (.int p2), .val (.int p3), .val (.int (Int32.ofNat n)), .val (.int r1), .val (.int r2), .val (.ref a12), .val (.int (Int32.ofNat n)), .val (.int (Int32.ofNat k)), .unset] [])) ?_ st13
    refine Rn.pu (T' := T13) (g' := (mkF m 71 #[.val (.int p0), .val (.int p1), .val (.int p2), .val (.int p3), .val (.int (Int32.ofNat n)), .val (.int r1), .val (.int r2), .val (.ref a12), .val (.int (Int32.ofNat n)), .val (.int (Int32.ofNat k)), .unset] [(.ref a12)])) ?_ fun _ zk => XS.aload H13.here hx rfl (hb hby at_69) rfl rfl zk
    refine Rn.pu (T' := T13) (g' := (mkF m 73 #[.val (.int p0), .val (.int p1), .val (.int p2), .val (.int p3), .val (.int (Int32.ofNat n)), .val (.int r1), .val (.int r2), .val (.ref a12), .val (.int (Int32.ofNat n)), .val (.int (Int32.ofNat k)), .unset] [(.int (Int32.ofNat k)), (.ref a12)])) ?_ fun _ zk => XS.iload H13.here hx rfl (hb hby at_71) rfl zk
    refine Rn.pu (T' := T13) (g' := (mkF m 74 #[.val (.int p0), .val (.int p1), .val (.int p2), .val (.int p3), .val (.int (Int32.ofNat n)), .val (.int r1), .val (.int r2), .val (.ref a12), .val (.int (Int32.ofNat n)), .val (.int (Int32.ofNat k)), .unset] [(.int (1 : Int32)), (.int (Int32.ofNat k)), (.ref a12)])) ?_ fun _ zk => XS.iconst H13.here hx rfl (hb hby at_73) zk
    refine Rn.pu (T' := T13) (g' := (mkF m 75 #[.val (.int p0), .val (.int p1), .val (.int p2), .val (.int p3), .val (.int (Int32.ofNat n)), .val (.int r1), .val (.int r2), .val (.ref a12), .val (.int (Int32.ofNat n)), .val (.int (Int32.ofNat k)), .unset] [(.int ((Int32.ofNat k) + (1 : Int32))), (.ref a12)])) ?_ fun _ zk => XS.iadd H13.here hx rfl (hb hby at_74) rfl zk
    rw [u_succ]
    refine Rn.pu (T' := T13) (g' := (mkF m 77 #[.val (.int p0), .val (.int p1), .val (.int p2), .val (.int p3), .val (.int (Int32.ofNat n)), .val (.int r1), .val (.int r2), .val (.ref a12), .val (.int (Int32.ofNat n)), .val (.int (Int32.ofNat k)), .unset] [(.int r2), (.int (Int32.ofNat (k + 1))), (.ref a12)])) ?_ fun _ zk => XS.iload H13.here hx rfl (hb hby at_75) rfl zk
    obtain ⟨T14, h14, H14, K14, A14, st14⟩ := H13.stCi A13 ⟨u_nn (by omega), u_lt (by omega) (by omega)⟩ (i := (k + 1)) (u_cl (by omega)) (by simp; omega) (Or.inr (by omega)) (g := (mkF m 77 #[.val (.int p0), .val (.int p1), .val (.int p2), .val (.int p3), .val (.int (Int32.ofNat n)), .val (.int r1), .val (.int r2), .val (.ref a12), .val (.int (Int32.ofNat n)), .val (.int (Int32.ofNat k)), .unset] [(.int r2), (.int (Int32.ofNat (k + 1))), (.ref a12)])) rfl rfl (hb hby at_77)
    have zh14 := K14.1
    refine Rn.pu (g' := (mkF m 78 #[.val (.int p0), .val (.int p1), .val (.int p2), .val (.int p3), .val (.int (Int32.ofNat n)), .val (.int r1), .val (.int r2), .val (.ref a12), .val (.int (Int32.ofNat n)), .val (.int (Int32.ofNat k)), .unset] [])) ?_ st14
    have AC : Arv Z h14 a12 k12 .char (Int32.ofNat n) ((own_cs n k r1 r2).map Value.int) (.int 0) := by have q := A14; rw [nar_id r5.1 r5.2, nar_id r6.1 r6.2] at q; rw [own_cs_eq hk]; simpa only [List.map_set] using q
    have J120 : ∀ (TJ120 : State) (o8 : Slot) (w9 : Int32), Hs p l e room_1 s m #[(.int p0), (.int p1), (.int p2), (.int p3)] below meth c Z "com/example/meticulous_attestor/meticulousattestor/model/WalletInstanceIsHardwareKeyTagPinLaw" [] (EL Z h0) TJ120 h14 1 511 → w9 = own_tag (own_cs n k r1 r2) → Rn p e below s ReturnedEndW [] (room_1).cells (room_1).slots (fun v vm h => v = some (.int 1)) TJ120 (mkF m 120 #[.val (.int p0), .val (.int p1), .val (.int p2), .val (.int p3), .val (.int (Int32.ofNat n)), .val (.int r1), .val (.int r2), .val (.ref a12), o8, .val (.int w9), .unset] []) := by
      intro TJ120 o8 w9 HJ120 yJ120
      obtain ⟨a15, T15, h15, e15, H15, K15, E15, D15, st15⟩ := HJ120.newO (hw _ (List.mem_of_getElem? (i := 8) rfl)) (hw _ (List.mem_of_getElem? (i := 9) rfl)) (hw _ (List.mem_of_getElem? (i := 10) rfl)) (g := (mkF m 120 #[.val (.int p0), .val (.int p1), .val (.int p2), .val (.int p3), .val (.int (Int32.ofNat n)), .val (.int r1), .val (.int r2), .val (.ref a12), o8, .val (.int w9), .unset] [])) rfl (hb hby at_120) (by decide) (by decide)
      have zh15 := K15.1
      have l15 := natlt (E15).lt
      have g15 : s.heap.size ≤ a15 := by omega
      have F15_value : Fld Z h15 a15 "java/lang/String" "value" "[B" .null := D15 (Or.inr (hw _ (List.mem_of_getElem? (i := 23) rfl))) (ty := (.array .byte)) (by decide)
      have F15_coder : Fld Z h15 a15 "java/lang/String" "coder" "B" (.int (0 : Int32)) := D15 (Or.inr (hw _ (List.mem_of_getElem? (i := 24) rfl))) (ty := .byte) (by decide)
      refine Rn.pu (g' := (mkF m 123 #[.val (.int p0), .val (.int p1), .val (.int p2), .val (.int p3), .val (.int (Int32.ofNat n)), .val (.int r1), .val (.int r2), .val (.ref a12), o8, .val (.int w9), .unset] [(.ref a15)])) ?_ st15
      refine Rn.pu (T' := T15) (g' := (mkF m 124 #[.val (.int p0), .val (.int p1), .val (.int p2), .val (.int p3), .val (.int (Int32.ofNat n)), .val (.int r1), .val (.int r2), .val (.ref a12), o8, .val (.int w9), .unset] [(.ref a15), (.ref a15)])) ?_ fun _ zk => XS.dup H15.here hx rfl (hb hby at_123) rfl rfl zk
      refine Rn.pu (T' := T15) (g' := (mkF m 126 #[.val (.int p0), .val (.int p1), .val (.int p2), .val (.int p3), .val (.int (Int32.ofNat n)), .val (.int r1), .val (.int r2), .val (.ref a12), o8, .val (.int w9), .unset] [(.ref a12), (.ref a15), (.ref a15)])) ?_ fun _ zk => XS.aload H15.here hx rfl (hb hby at_124) rfl rfl zk
      obtain ⟨_, T16, h16, H16, ⟨rfl, t16, S16, lt16⟩, K16, st16⟩ := H15.callIm rfl (hw _ (List.mem_of_getElem? (i := 11) rfl)) (hw _ (List.mem_of_getElem? (i := 12) rfl)) (hw _ (List.mem_of_getElem? (i := 13) rfl)) (by decide) (payNewU (cs := (own_cs n k r1 r2)) (n := n) (W := 1) l ⟨hw, SC0, hz0, SU2, SU3, SU4, hh7, hcw⟩ H15.old (own_cs_len hk) rfl h5 (by omega) (own_cs_c16 r5 r6) (AC.keep K15 nin0) E15 F15_value F15_coder (by have := H0.old.1; omega) (by decide) (by decide)) (g := (mkF m 126 #[.val (.int p0), .val (.int p1), .val (.int p2), .val (.int p3), .val (.int (Int32.ofNat n)), .val (.int r1), .val (.int r2), .val (.ref a12), o8, .val (.int w9), .unset] [(.ref a12), (.ref a15), (.ref a15)])) rfl (by rw [hml]; rfl) (argsL := [(.ref a12)]) (rest := [(.ref a15)]) (lenOf pd__AC_V rfl) rfl rfl (Nat.le_of_eq rfl) (hb hby at_126) (by decide) (by decide) (allS (Or.inr (by omega)) all0)
      have zh16 := K16.1
      have l16 := natlt (S16).lt
      refine Rn.pu (g' := (mkF m 129 #[.val (.int p0), .val (.int p1), .val (.int p2), .val (.int p3), .val (.int (Int32.ofNat n)), .val (.int r1), .val (.int r2), .val (.ref a12), o8, .val (.int w9), .unset] [(.ref a15)])) ?_ st16
      obtain ⟨_, T17, h17, H17, ⟨rfl, rfl⟩, -, st17⟩ := H16.callS (hw _ (List.mem_of_getElem? (i := 29) rfl)) (hw _ (List.mem_of_getElem? (i := 30) rfl)) (hw _ (List.mem_of_getElem? (i := 31) rfl)) (hw _ (List.mem_of_getElem? (i := 32) rfl)) (by decide) (MetN.pay (W := 0) (c_tag l ⟨hw, SC0, hz0, SU2, SU3, SU4, hh7, hcw⟩ a15 t16 (own_cs n k r1 r2) h16 H16.old (by rw [own_cs_len hk]; exact h5) S16) (hw _ (List.mem_of_getElem? (i := 32) rfl)) (hw _ (List.mem_of_getElem? (i := 31) rfl)) (by decide) (by decide)) (g := (mkF m 129 #[.val (.int p0), .val (.int p1), .val (.int p2), .val (.int p3), .val (.int (Int32.ofNat n)), .val (.int r1), .val (.int r2), .val (.ref a12), o8, .val (.int w9), .unset] [(.ref a15)])) rfl (by rw [hml]; rfl) (argsL := [(.ref a15)]) (rest := []) (lenOf pd__Ljava_lang_String__Z rfl) rfl rfl (Nat.le_of_eq rfl) (hb hby at_129) (by decide) (by decide) all0
      refine Rn.pu (g' := (mkF m 132 #[.val (.int p0), .val (.int p1), .val (.int p2), .val (.int p3), .val (.int (Int32.ofNat n)), .val (.int r1), .val (.int r2), .val (.ref a12), o8, .val (.int w9), .unset] [(.int (own_tag (own_cs n k r1 r2)))])) ?_ st17
      refine Rn.pu (T' := T17) (g' := (mkF m 134 #[.val (.int p0), .val (.int p1), .val (.int p2), .val (.int p3), .val (.int (Int32.ofNat n)), .val (.int r1), .val (.int r2), .val (.ref a12), o8, .val (.int w9), .val (.int (own_tag (own_cs n k r1 r2)))] [])) ?_ fun _ zk => XS.istore H17.here hx rfl (hb hby at_132) rfl (l' := #[.val (.int p0), .val (.int p1), .val (.int p2), .val (.int p3), .val (.int (Int32.ofNat n)), .val (.int r1), .val (.int r2), .val (.ref a12), o8, .val (.int w9), .val (.int (own_tag (own_cs n k r1 r2)))]) rfl zk
      refine Rn.pu (T' := T17) (g' := (mkF m 136 #[.val (.int p0), .val (.int p1), .val (.int p2), .val (.int p3), .val (.int (Int32.ofNat n)), .val (.int r1), .val (.int r2), .val (.ref a12), o8, .val (.int w9), .val (.int (own_tag (own_cs n k r1 r2)))] [(.int (own_tag (own_cs n k r1 r2)))])) ?_ fun _ zk => XS.iload H17.here hx rfl (hb hby at_134) rfl zk
      refine Rn.pu (T' := T17) (g' := (mkF m 138 #[.val (.int p0), .val (.int p1), .val (.int p2), .val (.int p3), .val (.int (Int32.ofNat n)), .val (.int r1), .val (.int r2), .val (.ref a12), o8, .val (.int w9), .val (.int (own_tag (own_cs n k r1 r2)))] [(.int w9), (.int (own_tag (own_cs n k r1 r2)))])) ?_ fun _ zk => XS.iload H17.here hx rfl (hb hby at_136) rfl zk
      refine Rn.pu (T' := T17) (g' := (mkF m 141 #[.val (.int p0), .val (.int p1), .val (.int p2), .val (.int p3), .val (.int (Int32.ofNat n)), .val (.int r1), .val (.int r2), .val (.ref a12), o8, .val (.int w9), .val (.int (own_tag (own_cs n k r1 r2)))] [])) ?_ fun _ zk => XS.icmpNo H17.here hx rfl (hb hby at_138) rfl (c_ne_f yJ120.symm) zk
      refine Rn.pu (T' := T17) (g' := (mkF m 142 #[.val (.int p0), .val (.int p1), .val (.int p2), .val (.int p3), .val (.int (Int32.ofNat n)), .val (.int r1), .val (.int r2), .val (.ref a12), o8, .val (.int w9), .val (.int (own_tag (own_cs n k r1 r2)))] [(.int (1 : Int32))])) ?_ fun _ zk => XS.iconst H17.here hx rfl (hb hby at_141) zk
      refine Rn.pu (T' := T17) (g' := (mkF m 146 #[.val (.int p0), .val (.int p1), .val (.int p2), .val (.int p3), .val (.int (Int32.ofNat n)), .val (.int r1), .val (.int r2), .val (.ref a12), o8, .val (.int w9), .val (.int (own_tag (own_cs n k r1 r2)))] [(.int (1 : Int32))])) ?_ fun _ zk => XS.goto H17.here hx rfl (pc0 := 142) (pc' := 146) rfl (hb hby at_142) (by decide) (by decide) zk
      exact H17.retS ends_W hlk (t := .boolean) hret (by simp) (hb hby at_146) (by decide) (by decide) (fun _ q => nomatch q) rfl
    refine Rn.pu (T' := T14) (g' := (mkF m 80 #[.val (.int p0), .val (.int p1), .val (.int p2), .val (.int p3), .val (.int (Int32.ofNat n)), .val (.int r1), .val (.int r2), .val (.ref a12), .val (.int (Int32.ofNat n)), .val (.int (Int32.ofNat k)), .unset] [(.int r1)])) ?_ fun _ zk => XS.iload H14.here hx rfl (hb hby at_78) rfl zk
    obtain ⟨_, T18, h18, H18, ⟨rfl, rfl⟩, -, st18⟩ := H14.callS (hw _ (List.mem_of_getElem? (i := 39) rfl)) (hw _ (List.mem_of_getElem? (i := 40) rfl)) (hw _ (List.mem_of_getElem? (i := 3) rfl)) (hw _ (List.mem_of_getElem? (i := 41) rfl)) (by decide) (MetN.pay (W := 0) (c_ishi l ⟨hw, SC0, hz0, SU2, SU3, SU4, hh7, hcw⟩ r1 h14 H14.old) (hw _ (List.mem_of_getElem? (i := 41) rfl)) (hw _ (List.mem_of_getElem? (i := 3) rfl)) (by decide) (by decide)) (g := (mkF m 80 #[.val (.int p0), .val (.int p1), .val (.int p2), .val (.int p3), .val (.int (Int32.ofNat n)), .val (.int r1), .val (.int r2), .val (.ref a12), .val (.int (Int32.ofNat n)), .val (.int (Int32.ofNat k)), .unset] [(.int r1)])) rfl (by rw [hml]; rfl) (argsL := [(.int r1)]) (rest := []) (lenOf pd__C_Z rfl) rfl rfl (Nat.le_of_eq rfl) (hb hby at_80) (by decide) (by decide) all0
    refine Rn.pu (g' := (mkF m 83 #[.val (.int p0), .val (.int p1), .val (.int p2), .val (.int p3), .val (.int (Int32.ofNat n)), .val (.int r1), .val (.int r2), .val (.ref a12), .val (.int (Int32.ofNat n)), .val (.int (Int32.ofNat k)), .unset] [(.int (own_hi r1))])) ?_ st18
    by_cases b83_19 : (own_hi r1) = 0
    ·
      refine Rn.pu (T' := T18) (g' := (mkF m 100 #[.val (.int p0), .val (.int p1), .val (.int p2), .val (.int p3), .val (.int (Int32.ofNat n)), .val (.int r1), .val (.int r2), .val (.ref a12), .val (.int (Int32.ofNat n)), .val (.int (Int32.ofNat k)), .unset] [])) ?_ fun _ zk => XS.ifYes H18.here hx rfl (pc0 := 83) (pc' := 100) rfl (hb hby at_83) rfl (z_eq_t b83_19) (by decide) (by decide) zk
      refine Rn.pu (T' := T18) (g' := (mkF m 102 #[.val (.int p0), .val (.int p1), .val (.int p2), .val (.int p3), .val (.int (Int32.ofNat n)), .val (.int r1), .val (.int r2), .val (.ref a12), .val (.int (Int32.ofNat n)), .val (.int (Int32.ofNat k)), .unset] [(.int (Int32.ofNat n))])) ?_ fun _ zk => XS.iload H18.here hx rfl (hb hby at_100) rfl zk
      refine Rn.pu (T' := T18) (g' := (mkF m 105 #[.val (.int p0), .val (.int p1), .val (.int p2), .val (.int p3), .val (.int (Int32.ofNat n)), .val (.int r1), .val (.int r2), .val (.ref a12), .val (.int (Int32.ofNat n)), .val (.int (Int32.ofNat k)), .unset] [])) ?_ fun _ zk => XS.ifNo H18.here hx rfl (hb hby at_102) rfl (z_le_f (u_lt (i := 0) (by omega) (by omega))) zk
      refine Rn.pu (T' := T18) (g' := (mkF m 107 #[.val (.int p0), .val (.int p1), .val (.int p2), .val (.int p3), .val (.int (Int32.ofNat n)), .val (.int r1), .val (.int r2), .val (.ref a12), .val (.int (Int32.ofNat n)), .val (.int (Int32.ofNat k)), .unset] [(.int (Int32.ofNat n))])) ?_ fun _ zk => XS.iload H18.here hx rfl (hb hby at_105) rfl zk
      refine Rn.pu (T' := T18) (g' := (mkF m 110 #[.val (.int p0), .val (.int p1), .val (.int p2), .val (.int p3), .val (.int (Int32.ofNat n)), .val (.int r1), .val (.int r2), .val (.ref a12), .val (.int (Int32.ofNat n)), .val (.int (Int32.ofNat k)), .unset] [(.int (256 : Int32)), (.int (Int32.ofNat n))])) ?_ fun _ zk => XS.sipush H18.here hx rfl (hb hby at_107) zk
      by_cases b110_20 : (256 : Int32) < (Int32.ofNat n)
      ·
        refine Rn.pu (T' := T18) (g' := (mkF m 117 #[.val (.int p0), .val (.int p1), .val (.int p2), .val (.int p3), .val (.int (Int32.ofNat n)), .val (.int r1), .val (.int r2), .val (.ref a12), .val (.int (Int32.ofNat n)), .val (.int (Int32.ofNat k)), .unset] [])) ?_ fun _ zk => XS.icmpYes H18.here hx rfl (pc0 := 110) (pc' := 117) rfl (hb hby at_110) rfl (c_gt_t b110_20) (by decide) (by decide) zk
        refine Rn.pu (T' := T18) (g' := (mkF m 118 #[.val (.int p0), .val (.int p1), .val (.int p2), .val (.int p3), .val (.int (Int32.ofNat n)), .val (.int r1), .val (.int r2), .val (.ref a12), .val (.int (Int32.ofNat n)), .val (.int (Int32.ofNat k)), .unset] [(.int (0 : Int32))])) ?_ fun _ zk => XS.iconst H18.here hx rfl (hb hby at_117) zk
        refine Rn.pu (T' := T18) (g' := (mkF m 120 #[.val (.int p0), .val (.int p1), .val (.int p2), .val (.int p3), .val (.int (Int32.ofNat n)), .val (.int r1), .val (.int r2), .val (.ref a12), .val (.int (Int32.ofNat n)), .val (.int (0 : Int32)), .unset] [])) ?_ fun _ zk => XS.istore H18.here hx rfl (hb hby at_118) rfl (l' := #[.val (.int p0), .val (.int p1), .val (.int p2), .val (.int p3), .val (.int (Int32.ofNat n)), .val (.int r1), .val (.int r2), .val (.ref a12), .val (.int (Int32.ofNat n)), .val (.int (0 : Int32)), .unset]) rfl zk
        exact J120 _ _ _ H18 ((own_res0 hk h5 (Or.inl b83_19)).1 b110_20).symm
      ·
        refine Rn.pu (T' := T18) (g' := (mkF m 113 #[.val (.int p0), .val (.int p1), .val (.int p2), .val (.int p3), .val (.int (Int32.ofNat n)), .val (.int r1), .val (.int r2), .val (.ref a12), .val (.int (Int32.ofNat n)), .val (.int (Int32.ofNat k)), .unset] [])) ?_ fun _ zk => XS.icmpNo H18.here hx rfl (hb hby at_110) rfl (c_gt_f b110_20) zk
        refine Rn.pu (T' := T18) (g' := (mkF m 114 #[.val (.int p0), .val (.int p1), .val (.int p2), .val (.int p3), .val (.int (Int32.ofNat n)), .val (.int r1), .val (.int r2), .val (.ref a12), .val (.int (Int32.ofNat n)), .val (.int (Int32.ofNat k)), .unset] [(.int (1 : Int32))])) ?_ fun _ zk => XS.iconst H18.here hx rfl (hb hby at_113) zk
        refine Rn.pu (T' := T18) (g' := (mkF m 118 #[.val (.int p0), .val (.int p1), .val (.int p2), .val (.int p3), .val (.int (Int32.ofNat n)), .val (.int r1), .val (.int r2), .val (.ref a12), .val (.int (Int32.ofNat n)), .val (.int (Int32.ofNat k)), .unset] [(.int (1 : Int32))])) ?_ fun _ zk => XS.goto H18.here hx rfl (pc0 := 114) (pc' := 118) rfl (hb hby at_114) (by decide) (by decide) zk
        refine Rn.pu (T' := T18) (g' := (mkF m 120 #[.val (.int p0), .val (.int p1), .val (.int p2), .val (.int p3), .val (.int (Int32.ofNat n)), .val (.int r1), .val (.int r2), .val (.ref a12), .val (.int (Int32.ofNat n)), .val (.int (1 : Int32)), .unset] [])) ?_ fun _ zk => XS.istore H18.here hx rfl (hb hby at_118) rfl (l' := #[.val (.int p0), .val (.int p1), .val (.int p2), .val (.int p3), .val (.int (Int32.ofNat n)), .val (.int r1), .val (.int r2), .val (.ref a12), .val (.int (Int32.ofNat n)), .val (.int (1 : Int32)), .unset]) rfl zk
        exact J120 _ _ _ H18 ((own_res0 hk h5 (Or.inl b83_19)).2 b110_20).symm
    ·
      refine Rn.pu (T' := T18) (g' := (mkF m 86 #[.val (.int p0), .val (.int p1), .val (.int p2), .val (.int p3), .val (.int (Int32.ofNat n)), .val (.int r1), .val (.int r2), .val (.ref a12), .val (.int (Int32.ofNat n)), .val (.int (Int32.ofNat k)), .unset] [])) ?_ fun _ zk => XS.ifNo H18.here hx rfl (hb hby at_83) rfl (z_eq_f b83_19) zk
      refine Rn.pu (T' := T18) (g' := (mkF m 88 #[.val (.int p0), .val (.int p1), .val (.int p2), .val (.int p3), .val (.int (Int32.ofNat n)), .val (.int r1), .val (.int r2), .val (.ref a12), .val (.int (Int32.ofNat n)), .val (.int (Int32.ofNat k)), .unset] [(.int r2)])) ?_ fun _ zk => XS.iload H18.here hx rfl (hb hby at_86) rfl zk
      obtain ⟨_, T21, h21, H21, ⟨rfl, rfl⟩, -, st21⟩ := H18.callS (hw _ (List.mem_of_getElem? (i := 83) rfl)) (hw _ (List.mem_of_getElem? (i := 84) rfl)) (hw _ (List.mem_of_getElem? (i := 3) rfl)) (hw _ (List.mem_of_getElem? (i := 85) rfl)) (by decide) (MetN.pay (W := 0) (c_islo l ⟨hw, SC0, hz0, SU2, SU3, SU4, hh7, hcw⟩ r2 h14 H18.old) (hw _ (List.mem_of_getElem? (i := 85) rfl)) (hw _ (List.mem_of_getElem? (i := 3) rfl)) (by decide) (by decide)) (g := (mkF m 88 #[.val (.int p0), .val (.int p1), .val (.int p2), .val (.int p3), .val (.int (Int32.ofNat n)), .val (.int r1), .val (.int r2), .val (.ref a12), .val (.int (Int32.ofNat n)), .val (.int (Int32.ofNat k)), .unset] [(.int r2)])) rfl (by rw [hml]; rfl) (argsL := [(.int r2)]) (rest := []) (lenOf pd__C_Z rfl) rfl rfl (Nat.le_of_eq rfl) (hb hby at_88) (by decide) (by decide) all0
      refine Rn.pu (g' := (mkF m 91 #[.val (.int p0), .val (.int p1), .val (.int p2), .val (.int p3), .val (.int (Int32.ofNat n)), .val (.int r1), .val (.int r2), .val (.ref a12), .val (.int (Int32.ofNat n)), .val (.int (Int32.ofNat k)), .unset] [(.int (own_lo r2))])) ?_ st21
      by_cases b91_22 : (own_lo r2) = 0
      ·
        refine Rn.pu (T' := T21) (g' := (mkF m 100 #[.val (.int p0), .val (.int p1), .val (.int p2), .val (.int p3), .val (.int (Int32.ofNat n)), .val (.int r1), .val (.int r2), .val (.ref a12), .val (.int (Int32.ofNat n)), .val (.int (Int32.ofNat k)), .unset] [])) ?_ fun _ zk => XS.ifYes H21.here hx rfl (pc0 := 91) (pc' := 100) rfl (hb hby at_91) rfl (z_eq_t b91_22) (by decide) (by decide) zk
        refine Rn.pu (T' := T21) (g' := (mkF m 102 #[.val (.int p0), .val (.int p1), .val (.int p2), .val (.int p3), .val (.int (Int32.ofNat n)), .val (.int r1), .val (.int r2), .val (.ref a12), .val (.int (Int32.ofNat n)), .val (.int (Int32.ofNat k)), .unset] [(.int (Int32.ofNat n))])) ?_ fun _ zk => XS.iload H21.here hx rfl (hb hby at_100) rfl zk
        refine Rn.pu (T' := T21) (g' := (mkF m 105 #[.val (.int p0), .val (.int p1), .val (.int p2), .val (.int p3), .val (.int (Int32.ofNat n)), .val (.int r1), .val (.int r2), .val (.ref a12), .val (.int (Int32.ofNat n)), .val (.int (Int32.ofNat k)), .unset] [])) ?_ fun _ zk => XS.ifNo H21.here hx rfl (hb hby at_102) rfl (z_le_f (u_lt (i := 0) (by omega) (by omega))) zk
        refine Rn.pu (T' := T21) (g' := (mkF m 107 #[.val (.int p0), .val (.int p1), .val (.int p2), .val (.int p3), .val (.int (Int32.ofNat n)), .val (.int r1), .val (.int r2), .val (.ref a12), .val (.int (Int32.ofNat n)), .val (.int (Int32.ofNat k)), .unset] [(.int (Int32.ofNat n))])) ?_ fun _ zk => XS.iload H21.here hx rfl (hb hby at_105) rfl zk
        refine Rn.pu (T' := T21) (g' := (mkF m 110 #[.val (.int p0), .val (.int p1), .val (.int p2), .val (.int p3), .val (.int (Int32.ofNat n)), .val (.int r1), .val (.int r2), .val (.ref a12), .val (.int (Int32.ofNat n)), .val (.int (Int32.ofNat k)), .unset] [(.int (256 : Int32)), (.int (Int32.ofNat n))])) ?_ fun _ zk => XS.sipush H21.here hx rfl (hb hby at_107) zk
        by_cases b110_23 : (256 : Int32) < (Int32.ofNat n)
        ·
          refine Rn.pu (T' := T21) (g' := (mkF m 117 #[.val (.int p0), .val (.int p1), .val (.int p2), .val (.int p3), .val (.int (Int32.ofNat n)), .val (.int r1), .val (.int r2), .val (.ref a12), .val (.int (Int32.ofNat n)), .val (.int (Int32.ofNat k)), .unset] [])) ?_ fun _ zk => XS.icmpYes H21.here hx rfl (pc0 := 110) (pc' := 117) rfl (hb hby at_110) rfl (c_gt_t b110_23) (by decide) (by decide) zk
          refine Rn.pu (T' := T21) (g' := (mkF m 118 #[.val (.int p0), .val (.int p1), .val (.int p2), .val (.int p3), .val (.int (Int32.ofNat n)), .val (.int r1), .val (.int r2), .val (.ref a12), .val (.int (Int32.ofNat n)), .val (.int (Int32.ofNat k)), .unset] [(.int (0 : Int32))])) ?_ fun _ zk => XS.iconst H21.here hx rfl (hb hby at_117) zk
          refine Rn.pu (T' := T21) (g' := (mkF m 120 #[.val (.int p0), .val (.int p1), .val (.int p2), .val (.int p3), .val (.int (Int32.ofNat n)), .val (.int r1), .val (.int r2), .val (.ref a12), .val (.int (Int32.ofNat n)), .val (.int (0 : Int32)), .unset] [])) ?_ fun _ zk => XS.istore H21.here hx rfl (hb hby at_118) rfl (l' := #[.val (.int p0), .val (.int p1), .val (.int p2), .val (.int p3), .val (.int (Int32.ofNat n)), .val (.int r1), .val (.int r2), .val (.ref a12), .val (.int (Int32.ofNat n)), .val (.int (0 : Int32)), .unset]) rfl zk
          exact J120 _ _ _ H21 ((own_res0 hk h5 (Or.inr b91_22)).1 b110_23).symm
        ·
          refine Rn.pu (T' := T21) (g' := (mkF m 113 #[.val (.int p0), .val (.int p1), .val (.int p2), .val (.int p3), .val (.int (Int32.ofNat n)), .val (.int r1), .val (.int r2), .val (.ref a12), .val (.int (Int32.ofNat n)), .val (.int (Int32.ofNat k)), .unset] [])) ?_ fun _ zk => XS.icmpNo H21.here hx rfl (hb hby at_110) rfl (c_gt_f b110_23) zk
          refine Rn.pu (T' := T21) (g' := (mkF m 114 #[.val (.int p0), .val (.int p1), .val (.int p2), .val (.int p3), .val (.int (Int32.ofNat n)), .val (.int r1), .val (.int r2), .val (.ref a12), .val (.int (Int32.ofNat n)), .val (.int (Int32.ofNat k)), .unset] [(.int (1 : Int32))])) ?_ fun _ zk => XS.iconst H21.here hx rfl (hb hby at_113) zk
          refine Rn.pu (T' := T21) (g' := (mkF m 118 #[.val (.int p0), .val (.int p1), .val (.int p2), .val (.int p3), .val (.int (Int32.ofNat n)), .val (.int r1), .val (.int r2), .val (.ref a12), .val (.int (Int32.ofNat n)), .val (.int (Int32.ofNat k)), .unset] [(.int (1 : Int32))])) ?_ fun _ zk => XS.goto H21.here hx rfl (pc0 := 114) (pc' := 118) rfl (hb hby at_114) (by decide) (by decide) zk
          refine Rn.pu (T' := T21) (g' := (mkF m 120 #[.val (.int p0), .val (.int p1), .val (.int p2), .val (.int p3), .val (.int (Int32.ofNat n)), .val (.int r1), .val (.int r2), .val (.ref a12), .val (.int (Int32.ofNat n)), .val (.int (1 : Int32)), .unset] [])) ?_ fun _ zk => XS.istore H21.here hx rfl (hb hby at_118) rfl (l' := #[.val (.int p0), .val (.int p1), .val (.int p2), .val (.int p3), .val (.int (Int32.ofNat n)), .val (.int r1), .val (.int r2), .val (.ref a12), .val (.int (Int32.ofNat n)), .val (.int (1 : Int32)), .unset]) rfl zk
          exact J120 _ _ _ H21 ((own_res0 hk h5 (Or.inr b91_22)).2 b110_23).symm
      ·
        refine Rn.pu (T' := T21) (g' := (mkF m 94 #[.val (.int p0), .val (.int p1), .val (.int p2), .val (.int p3), .val (.int (Int32.ofNat n)), .val (.int r1), .val (.int r2), .val (.ref a12), .val (.int (Int32.ofNat n)), .val (.int (Int32.ofNat k)), .unset] [])) ?_ fun _ zk => XS.ifNo H21.here hx rfl (hb hby at_91) rfl (z_eq_f b91_22) zk
        refine Rn.pu (T' := T21) (g' := (mkF m 96 #[.val (.int p0), .val (.int p1), .val (.int p2), .val (.int p3), .val (.int (Int32.ofNat n)), .val (.int r1), .val (.int r2), .val (.ref a12), .val (.int (Int32.ofNat n)), .val (.int (Int32.ofNat k)), .unset] [(.int (Int32.ofNat n))])) ?_ fun _ zk => XS.iload H21.here hx rfl (hb hby at_94) rfl zk
        refine Rn.pu (T' := T21) (g' := (mkF m 97 #[.val (.int p0), .val (.int p1), .val (.int p2), .val (.int p3), .val (.int (Int32.ofNat n)), .val (.int r1), .val (.int r2), .val (.ref a12), .val (.int (Int32.ofNat n)), .val (.int (Int32.ofNat k)), .unset] [(.int (1 : Int32)), (.int (Int32.ofNat n))])) ?_ fun _ zk => XS.iconst H21.here hx rfl (hb hby at_96) zk
        refine Rn.pu (T' := T21) (g' := (mkF m 98 #[.val (.int p0), .val (.int p1), .val (.int p2), .val (.int p3), .val (.int (Int32.ofNat n)), .val (.int r1), .val (.int r2), .val (.ref a12), .val (.int (Int32.ofNat n)), .val (.int (Int32.ofNat k)), .unset] [(.int ((Int32.ofNat n) - (1 : Int32)))])) ?_ fun _ zk => XS.isub H21.here hx rfl (hb hby at_97) rfl zk
        refine Rn.pu (T' := T21) (g' := (mkF m 100 #[.val (.int p0), .val (.int p1), .val (.int p2), .val (.int p3), .val (.int (Int32.ofNat n)), .val (.int r1), .val (.int r2), .val (.ref a12), .val (.int ((Int32.ofNat n) - (1 : Int32))), .val (.int (Int32.ofNat k)), .unset] [])) ?_ fun _ zk => XS.istore H21.here hx rfl (hb hby at_98) rfl (l' := #[.val (.int p0), .val (.int p1), .val (.int p2), .val (.int p3), .val (.int (Int32.ofNat n)), .val (.int r1), .val (.int r2), .val (.ref a12), .val (.int ((Int32.ofNat n) - (1 : Int32))), .val (.int (Int32.ofNat k)), .unset]) rfl zk
        refine Rn.pu (T' := T21) (g' := (mkF m 102 #[.val (.int p0), .val (.int p1), .val (.int p2), .val (.int p3), .val (.int (Int32.ofNat n)), .val (.int r1), .val (.int r2), .val (.ref a12), .val (.int ((Int32.ofNat n) - (1 : Int32))), .val (.int (Int32.ofNat k)), .unset] [(.int (Int32.ofNat n))])) ?_ fun _ zk => XS.iload H21.here hx rfl (hb hby at_100) rfl zk
        refine Rn.pu (T' := T21) (g' := (mkF m 105 #[.val (.int p0), .val (.int p1), .val (.int p2), .val (.int p3), .val (.int (Int32.ofNat n)), .val (.int r1), .val (.int r2), .val (.ref a12), .val (.int ((Int32.ofNat n) - (1 : Int32))), .val (.int (Int32.ofNat k)), .unset] [])) ?_ fun _ zk => XS.ifNo H21.here hx rfl (hb hby at_102) rfl (z_le_f (u_lt (i := 0) (by omega) (by omega))) zk
        refine Rn.pu (T' := T21) (g' := (mkF m 107 #[.val (.int p0), .val (.int p1), .val (.int p2), .val (.int p3), .val (.int (Int32.ofNat n)), .val (.int r1), .val (.int r2), .val (.ref a12), .val (.int ((Int32.ofNat n) - (1 : Int32))), .val (.int (Int32.ofNat k)), .unset] [(.int ((Int32.ofNat n) - (1 : Int32)))])) ?_ fun _ zk => XS.iload H21.here hx rfl (hb hby at_105) rfl zk
        refine Rn.pu (T' := T21) (g' := (mkF m 110 #[.val (.int p0), .val (.int p1), .val (.int p2), .val (.int p3), .val (.int (Int32.ofNat n)), .val (.int r1), .val (.int r2), .val (.ref a12), .val (.int ((Int32.ofNat n) - (1 : Int32))), .val (.int (Int32.ofNat k)), .unset] [(.int (256 : Int32)), (.int ((Int32.ofNat n) - (1 : Int32)))])) ?_ fun _ zk => XS.sipush H21.here hx rfl (hb hby at_107) zk
        by_cases b110_24 : (256 : Int32) < ((Int32.ofNat n) - (1 : Int32))
        ·
          refine Rn.pu (T' := T21) (g' := (mkF m 117 #[.val (.int p0), .val (.int p1), .val (.int p2), .val (.int p3), .val (.int (Int32.ofNat n)), .val (.int r1), .val (.int r2), .val (.ref a12), .val (.int ((Int32.ofNat n) - (1 : Int32))), .val (.int (Int32.ofNat k)), .unset] [])) ?_ fun _ zk => XS.icmpYes H21.here hx rfl (pc0 := 110) (pc' := 117) rfl (hb hby at_110) rfl (c_gt_t b110_24) (by decide) (by decide) zk
          refine Rn.pu (T' := T21) (g' := (mkF m 118 #[.val (.int p0), .val (.int p1), .val (.int p2), .val (.int p3), .val (.int (Int32.ofNat n)), .val (.int r1), .val (.int r2), .val (.ref a12), .val (.int ((Int32.ofNat n) - (1 : Int32))), .val (.int (Int32.ofNat k)), .unset] [(.int (0 : Int32))])) ?_ fun _ zk => XS.iconst H21.here hx rfl (hb hby at_117) zk
          refine Rn.pu (T' := T21) (g' := (mkF m 120 #[.val (.int p0), .val (.int p1), .val (.int p2), .val (.int p3), .val (.int (Int32.ofNat n)), .val (.int r1), .val (.int r2), .val (.ref a12), .val (.int ((Int32.ofNat n) - (1 : Int32))), .val (.int (0 : Int32)), .unset] [])) ?_ fun _ zk => XS.istore H21.here hx rfl (hb hby at_118) rfl (l' := #[.val (.int p0), .val (.int p1), .val (.int p2), .val (.int p3), .val (.int (Int32.ofNat n)), .val (.int r1), .val (.int r2), .val (.ref a12), .val (.int ((Int32.ofNat n) - (1 : Int32))), .val (.int (0 : Int32)), .unset]) rfl zk
          exact J120 _ _ _ H21 ((own_res1 hk h5 b83_19 b91_22).1 b110_24).symm
        ·
          refine Rn.pu (T' := T21) (g' := (mkF m 113 #[.val (.int p0), .val (.int p1), .val (.int p2), .val (.int p3), .val (.int (Int32.ofNat n)), .val (.int r1), .val (.int r2), .val (.ref a12), .val (.int ((Int32.ofNat n) - (1 : Int32))), .val (.int (Int32.ofNat k)), .unset] [])) ?_ fun _ zk => XS.icmpNo H21.here hx rfl (hb hby at_110) rfl (c_gt_f b110_24) zk
          refine Rn.pu (T' := T21) (g' := (mkF m 114 #[.val (.int p0), .val (.int p1), .val (.int p2), .val (.int p3), .val (.int (Int32.ofNat n)), .val (.int r1), .val (.int r2), .val (.ref a12), .val (.int ((Int32.ofNat n) - (1 : Int32))), .val (.int (Int32.ofNat k)), .unset] [(.int (1 : Int32))])) ?_ fun _ zk => XS.iconst H21.here hx rfl (hb hby at_113) zk
          refine Rn.pu (T' := T21) (g' := (mkF m 118 #[.val (.int p0), .val (.int p1), .val (.int p2), .val (.int p3), .val (.int (Int32.ofNat n)), .val (.int r1), .val (.int r2), .val (.ref a12), .val (.int ((Int32.ofNat n) - (1 : Int32))), .val (.int (Int32.ofNat k)), .unset] [(.int (1 : Int32))])) ?_ fun _ zk => XS.goto H21.here hx rfl (pc0 := 114) (pc' := 118) rfl (hb hby at_114) (by decide) (by decide) zk
          refine Rn.pu (T' := T21) (g' := (mkF m 120 #[.val (.int p0), .val (.int p1), .val (.int p2), .val (.int p3), .val (.int (Int32.ofNat n)), .val (.int r1), .val (.int r2), .val (.ref a12), .val (.int ((Int32.ofNat n) - (1 : Int32))), .val (.int (1 : Int32)), .unset] [])) ?_ fun _ zk => XS.istore H21.here hx rfl (hb hby at_118) rfl (l' := #[.val (.int p0), .val (.int p1), .val (.int p2), .val (.int p3), .val (.int (Int32.ofNat n)), .val (.int r1), .val (.int r2), .val (.ref a12), .val (.int ((Int32.ofNat n) - (1 : Int32))), .val (.int (1 : Int32)), .unset]) rfl zk
          exact J120 _ _ _ H21 ((own_res1 hk h5 b83_19 b91_22).2 b110_24).symm
set_option maxRecDepth 65536 in
set_option maxHeartbeats 40000000 in
theorem comes_1 {Post : Tables → Env → Array Value → State → Outcome → State → Prop} (hpost : ∀ tb e args s v u, (limb_1_1.after args s (.returned v) u = true ∧ limb_1_2.after args s (.returned v) u = true ∧ True) → ReturnedEndW s (.returned v) u (Jvm.fieldLocs frame_1_writes args s ++ Jvm.arrayLocs frame_1_arrays args s ++ Jvm.staticLocs frame_1_statics s) 24 5248 → Post tb e args s (.returned v) u) :
    ArmFor flags0 classFile x code maxLocals ret World_1 tables_1 room_1 Calls_1 rest_1 Pre_1 Post := by
  intro l hfl _ _ p e ha hc hk s m args below hf hA hF happ hP
  obtain ⟨hcalls, hrest, hpre⟩ := hP
  obtain ⟨-, -, -, hnamed, -, -, -, hat⟩ := (Spec.applies_iff hf).mp happ
  obtain ⟨hg, hn⟩ := and_e (Cond.before_iff.mp (show (Jvm.Cond.and given_1 narrow_1).before args s = true from hpre))
  obtain ⟨hcount, g0⟩ := and_e hg
  obtain ⟨i0, g1⟩ := and_e g0
  obtain ⟨i1, g2⟩ := and_e g1
  obtain ⟨i2, g3⟩ := and_e g2
  obtain ⟨w0, w1, w2, w3, rfl⟩ : ∃ w0 w1 w2 w3 : Value, args = #[w0, w1, w2, w3] := by
    have hs : args.size = 4 := by simpa [Cond.value, given_1] using hcount
    obtain ⟨L⟩ := args
    match L, hs with
    | [w0, w1, w2, w3], _ => exact ⟨w0, w1, w2, w3, rfl⟩
  have hw := fun d (hd : d ∈ tables_1) => atoms_spec (ws := Jvm.Cond.code x code maxLocals ret :: tables_1) hat d (List.mem_cons_of_mem _ hd)
  obtain ⟨hsets, hown0⟩ := atoms_of _ (rest_1_c_eq ▸ (show rest_1_c.before _ s = true from hrest))
  have hfit : Fit s := fun {y c} hc i hi => by
    obtain ⟨ha, rfl⟩ := Array.getElem?_eq_some_iff.mp hc
    have q := List.all_eq_true.mp ((Array.all_eq_true_iff_forall_mem.mp hF) _ (Array.getElem_mem ha)) i (List.mem_range.mpr hi)
    simpa [Array.getElem?_eq_getElem hi] using q
  obtain ⟨p0, ep0⟩ := is_v i0
  obtain rfl : w0 = (.int p0) := Option.some.inj ep0
  obtain ⟨p1, ep1⟩ := is_v i1
  obtain rfl : w1 = (.int p1) := Option.some.inj ep1
  obtain ⟨p2, ep2⟩ := is_v i2
  obtain rfl : w2 = (.int p2) := Option.some.inj ep2
  obtain ⟨p3, ep3⟩ := is_v g3
  obtain rfl : w3 = (.int p3) := Option.some.inj ep3
  obtain ⟨zc, ezc⟩ := is_v (Cond.before_iff.mp (hsets _ (List.mem_of_getElem? (i := 1) rfl)))
  have SC0 : Sta s s.heap "java/lang/String" "COMPACT_STRINGS" "Z" (.int zc) := Sta.start ezc (Or.inl (hsets _ (List.mem_of_getElem? (i := 0) rfl)))
  have hz0 : ¬ (zc = (0 : Int32)) := gotF (Cond.eq_ints ezc (Term.int_eval (0))) (not_v (Cond.before_iff.mp (hsets _ (List.mem_of_getElem? (i := 2) rfl))))
  obtain ⟨fm, efm, rf1⟩ := isR_v (Cond.before_iff.mp (hsets _ (List.mem_of_getElem? (i := 8) rfl)))
  have SF1 : Sta s s.heap "jdk/internal/util/Preconditions" "SIOOBE_FORMATTER" "Ljava/util/function/BiFunction;" fm := Sta.start efm (Or.inl (hsets _ (List.mem_of_getElem? (i := 7) rfl)))
  have SU2 : Sta s s.heap "java/lang/StringUTF16" "$assertionsDisabled" "Z" (.int 1) := Sta.start (ev_int (Cond.before_iff.mp (hsets _ (List.mem_of_getElem? (i := 12) rfl)))) (Or.inl (hsets _ (List.mem_of_getElem? (i := 11) rfl)))
  have SU3 : Sta s s.heap "java/lang/StringUTF16" "HI_BYTE_SHIFT" "I" (.int 0) := Sta.start (ev_int (Cond.before_iff.mp (hsets _ (List.mem_of_getElem? (i := 15) rfl)))) (Or.inl (hsets _ (List.mem_of_getElem? (i := 14) rfl)))
  have SU4 : Sta s s.heap "java/lang/StringUTF16" "LO_BYTE_SHIFT" "I" (.int 8) := Sta.start (ev_int (Cond.before_iff.mp (hsets _ (List.mem_of_getElem? (i := 18) rfl)))) (Or.inl (hsets _ (List.mem_of_getElem? (i := 17) rfl)))
  have hh7 : Jvm.Lit.constHeld s "java/lang/String" 7 := hcalls.1 ("java/lang/String", 7) (by simp [consts_1])
  have hcw : Jvm.Lit.compactW.before _ s = true := hsets _ (List.mem_of_getElem? (i := 2) rfl)
  obtain ⟨n, o, h1, h2, h3, _, L, rfl, ⟨rfl, N, -⟩, hq⟩ := c_law l (Z := s) ⟨hw, SC0, hz0, SU2, SU3, SU4, hh7, hcw⟩ p0 p1 p2 p3 p e ha hc hk s m _ below hf ((Spec.applies_iff_loose hf).mp happ).1 ⟨rfl, State.Warmed39.refl s, rfl, trivial, Or.inl IB.start⟩ trivial
  have N' : ∀ y ∈ L, s.heap.size ≤ y.base := fun y hy => (N y hy).elim (fun q => nomatch q) id
  refine ⟨n, _, h1, h2, h3, hpost _ _ _ _ _ _ ⟨Cond.after_iff.mpr rfl, Cond.after_iff.mpr (eq_i res_at (Term.int_eval (1)) rfl), trivial⟩ ⟨hq.1, hq.2.1, hq.2.2.1, (hq.2.2.2.sift fun y hy => Or.inr (N' y hy)).mono (by decide) (by decide)⟩⟩
theorem main_1_1 : Claimed_1_1 := comes_1 fun _ _ _ _ _ _ h hF => ⟨h.1, hF⟩
theorem main_1_2 : Claimed_1_2 := comes_1 fun _ _ _ _ _ _ h hF => ⟨h.2.1, hF⟩
end Jvm.Pilot.@@N@@
namespace Jvm.Pilot.@@N@@
open Jvm Jvm.ClassFile Sem Op Lib Jvm.Free Jvm.Stand Jvm.Pilot.@@N@@.Jvm.D
/-! MADE BY PROGRAM (witnessworld.py) out of the Statement's table words and the real class files: 22 classes; the members and pool entries that the words name. The judged class is class 1, her method 4. -/
namespace start1
open Jvm.ClassFile
def u (s : String) : CpInfo := .utf8 (stringToUtf16 s)
/-- a pool by its gaps: so many unusable entries, then the entry; so many at the end -/
def gap : Nat → List CpInfo → List CpInfo
  | 0, r => r
  | n + 1, r => .unusable :: gap n r
def poolList (es : List (Nat × CpInfo)) (last : Nat) : List CpInfo := es.foldr (fun e r => gap e.1 (e.2 :: r)) (gap last [])
def pool (es : List (Nat × CpInfo)) (last : Nat) : Array CpInfo := ⟨poolList es last⟩
def fileOf (pool : Array CpInfo) (this : Nat) (attrs : Array Attribute := #[]) (ms : Array MethodInfo := #[]) (fl : Nat := 33) (sup : Nat := 0) (ifs : Array Nat := #[]) (fds : Array FieldInfo := #[]) : ClassFile where
  minorVersion := 0
  majorVersion := 65
  constantPool := pool
  accessFlags := fl
  thisClass := this
  superClass := sup
  interfaces := ifs
  fields := fds
  methods := ms
  attributes := attrs
def plain (name : String) (sup : Option ClassId) : Class where
  name := name
  kind := .ordinary
  loader := none
  accessFlags := 33
  super := sup
  interfaces := #[]
  cf := none
  fields := #[]
  methods := #[]
  instanceTypes := #[]
  staticTypes := #[]
  resolved := #[]
  callSites := []
  init := .initialized
  statics := none
  mirror := none

def pool0 : Array CpInfo := pool [(5, u "<init>"), (0, u "()V"), (1, .class_ 10), (1, u "java/lang/Object")] 113

def k0c0 : Code := { maxStack := 0, maxLocals := 1, code := object_method_1_code, exceptionTable := #[], attributes := #[] }
def k0m0 : Method := { name := "<init>", desc := "()V", sig := { parameters := [], returnType := none }, accessFlags := 1, code := some k0c0 }
/-- java/lang/Object -/
def k0 : Class := { plain "java/lang/Object" none with
  accessFlags := 33
  interfaces := #[]
  cf := some (fileOf pool0 8 #[] #[{ accessFlags := 1, nameIndex := 5, descriptorIndex := 6, attributes := #[] }] 33 0 #[] #[])
  fields := #[]
  methods := #[k0m0]
  instanceTypes := #[]
  staticTypes := #[]
  resolved := Array.replicate 124 none
  statics := none }

def pool1 : Array CpInfo := pool [(2, .class_ 4), (1, u "java/lang/Object"), (0, u "<init>"), (0, u "()V"), (0, .integer 65535), (0, .integer 55296), (0, .integer 56319), (0, .integer 56320), (0, .integer 57343), (0, .methodref 13 14), (0, .class_ 15), (0, .nameAndType 16 17), (0, u "com/example/meticulous_attestor/meticulousattestor/model/WalletInstanceIsHardwareKeyTagPinLaw"), (0, u "draw"), (0, u "(II)C"), (0, .integer 2147483647), (0, .methodref 13 20), (0, .nameAndType 21 22), (0, u "isHigh"), (0, u "(C)Z"), (0, .methodref 13 24), (0, .nameAndType 25 22), (0, u "isLow"), (0, .class_ 27), (0, u "java/lang/String"), (0, .methodref 26 29), (0, .nameAndType 5 30), (0, u "([C)V"), (0, .methodref 32 33), (0, .class_ 34), (0, .nameAndType 35 36), (0, u "com/example/meticulous_attestor/meticulousattestor/model/WalletInstance"), (0, u "isHardwareKeyTag"), (0, u "(Ljava/lang/String;)Z"), (3, u "law"), (0, u "(IIII)Z")] 4

def k1m0 : Method := { name := "<init>", desc := "()V", sig := { parameters := [], returnType := none }, accessFlags := 1, code := none }
def k1c1 : Code := { maxStack := 3, maxLocals := 2, code := method_2_code, exceptionTable := #[], attributes := #[] }
def k1m1 : Method := { name := "draw", desc := "(II)C", sig := { parameters := [.int, .int], returnType := some .char }, accessFlags := 10, code := some k1c1 }
def k1c2 : Code := { maxStack := 2, maxLocals := 1, code := method_3_code, exceptionTable := #[], attributes := #[] }
def k1m2 : Method := { name := "isHigh", desc := "(C)Z", sig := { parameters := [.char], returnType := some .boolean }, accessFlags := 10, code := some k1c2 }
def k1c3 : Code := { maxStack := 2, maxLocals := 1, code := method_4_code, exceptionTable := #[], attributes := #[] }
def k1m3 : Method := { name := "isLow", desc := "(C)Z", sig := { parameters := [.char], returnType := some .boolean }, accessFlags := 10, code := some k1c3 }
def k1c4 : Code := { maxStack := 3, maxLocals := 11, code := code, exceptionTable := #[], attributes := #[] }
def k1m4 : Method := { name := "law", desc := "(IIII)Z", sig := { parameters := [.int, .int, .int, .int], returnType := some .boolean }, accessFlags := 9, code := some k1c4 }
/-- com/example/meticulous_attestor/meticulousattestor/model/WalletInstanceIsHardwareKeyTagPinLaw -/
def k1 : Class := { plain "com/example/meticulous_attestor/meticulousattestor/model/WalletInstanceIsHardwareKeyTagPinLaw" (some 0) with
  accessFlags := 49
  interfaces := #[]
  cf := some (fileOf pool1 13 #[] #[{ accessFlags := 1, nameIndex := 5, descriptorIndex := 6, attributes := #[] }, { accessFlags := 10, nameIndex := 16, descriptorIndex := 17, attributes := #[] }, { accessFlags := 10, nameIndex := 21, descriptorIndex := 22, attributes := #[] }, { accessFlags := 10, nameIndex := 25, descriptorIndex := 22, attributes := #[] }, { accessFlags := 9, nameIndex := 40, descriptorIndex := 41, attributes := #[] }] 49 2 #[] #[])
  fields := #[]
  methods := #[k1m0, k1m1, k1m2, k1m3, k1m4]
  instanceTypes := #[]
  staticTypes := #[]
  resolved := Array.replicate 46 none
  statics := none }

def pool2 : Array CpInfo := pool [(1, .class_ 2), (0, u "java/io/Serializable"), (0, .class_ 4), (0, u "java/lang/Object")] 2

/-- java/io/Serializable -/
def k2 : Class := { plain "java/io/Serializable" (some 0) with
  accessFlags := 1537
  interfaces := #[]
  cf := some (fileOf pool2 1 #[] #[] 1537 3 #[] #[])
  fields := #[]
  methods := #[]
  instanceTypes := #[]
  staticTypes := #[]
  resolved := Array.replicate 7 none
  statics := none }

def pool3 : Array CpInfo := pool [(1, .class_ 2), (0, u "java/lang/Comparable"), (0, .class_ 4), (0, u "java/lang/Object")] 7

/-- java/lang/Comparable -/
def k3 : Class := { plain "java/lang/Comparable" (some 0) with
  accessFlags := 1537
  interfaces := #[]
  cf := some (fileOf pool3 1 #[] #[] 1537 3 #[] #[])
  fields := #[]
  methods := #[]
  instanceTypes := #[]
  staticTypes := #[]
  resolved := Array.replicate 12 none
  statics := none }

def pool4 : Array CpInfo := pool [(2, .class_ 4), (1, u "java/lang/CharSequence"), (42, .class_ 48), (0, u "java/lang/CharSequence$1CodePointIterator"), (10, .class_ 60), (0, u "java/lang/CharSequence$1CharIterator"), (5, .class_ 67), (0, u "java/lang/Object")] 63

/-- java/lang/CharSequence -/
def k4 : Class := { plain "java/lang/CharSequence" (some 0) with
  accessFlags := 1537
  interfaces := #[]
  cf := some (fileOf pool4 2 #[.nestMembers #[47, 59]] #[] 1537 66 #[] #[])
  fields := #[]
  methods := #[]
  instanceTypes := #[]
  staticTypes := #[]
  resolved := Array.replicate 131 none
  statics := none }

def pool5 : Array CpInfo := pool [(1, .class_ 2), (0, u "java/lang/constant/Constable"), (0, .class_ 4), (0, u "java/lang/Object")] 6

/-- java/lang/constant/Constable -/
def k5 : Class := { plain "java/lang/constant/Constable" (some 0) with
  accessFlags := 1537
  interfaces := #[]
  cf := some (fileOf pool5 1 #[] #[] 1537 3 #[] #[])
  fields := #[]
  methods := #[]
  instanceTypes := #[]
  staticTypes := #[]
  resolved := Array.replicate 11 none
  statics := none }

def pool6 : Array CpInfo := pool [(1, .class_ 2), (0, u "java/lang/constant/ConstantDesc"), (0, .class_ 4), (0, u "java/lang/Object")] 32

/-- java/lang/constant/ConstantDesc -/
def k6 : Class := { plain "java/lang/constant/ConstantDesc" (some 0) with
  accessFlags := 1537
  interfaces := #[]
  cf := some (fileOf pool6 1 #[] #[] 1537 3 #[] #[])
  fields := #[]
  methods := #[]
  instanceTypes := #[]
  staticTypes := #[]
  resolved := Array.replicate 37 none
  statics := none }

def pool7 : Array CpInfo := pool [(1, .methodref 2 3), (0, .class_ 4), (0, .nameAndType 5 6), (0, u "java/lang/Object"), (0, u "<init>"), (0, u "()V"), (0, .string 8), (0, u ""), (0, .fieldref 10 11), (0, .class_ 12), (0, .nameAndType 13 14), (0, u "java/lang/String"), (0, u "value"), (0, u "[B"), (0, .fieldref 10 16), (0, .nameAndType 17 18), (0, u "coder"), (0, u "B"), (2, u "hash"), (0, u "I"), (2, u "hashIsZero"), (0, u "Z"), (0, .methodref 10 28), (0, .nameAndType 5 29), (0, u "([CIILjava/lang/Void;)V"), (7, u "(III)I"), (0, .fieldref 10 39), (0, .nameAndType 40 26), (0, u "COMPACT_STRINGS"), (1, .class_ 44), (1, u "java/lang/StringUTF16"), (0, u "compress"), (1, .methodref 42 48), (0, .nameAndType 49 50), (0, u "coderFromArrayLen"), (0, u "([BI)B"), (28, .class_ 81), (1, u "java/util/Objects"), (15, u "([BII)I"), (44, u "()Z"), (34, .methodref 42 178), (0, .nameAndType 45 179), (0, u "([CII)[B"), (154, u "()I"), (0, .methodref 10 336), (0, .nameAndType 17 337), (0, u "()B"), (154, .methodref 10 493), (0, .nameAndType 494 142), (0, u "isLatin1"), (10, .methodref 10 506), (0, .nameAndType 507 334), (0, u "length"), (3, .methodref 79 512), (0, .nameAndType 513 37), (0, u "checkFromToIndex"), (0, .methodref 42 515), (0, .nameAndType 516 97), (0, u "codePointCount"), (58, .class_ 576), (0, u "java/lang/CharSequence"), (22, u "CASE_INSENSITIVE_ORDER"), (0, u "Ljava/util/Comparator;"), (35, u "(II)I"), (55, u "isEmpty"), (317, u "([C)V"), (90, u "serialPersistentFields"), (0, u "[Ljava/io/ObjectStreamField;"), (0, .class_ 1104), (0, u "java/lang/String$CaseInsensitiveComparator"), (1, .class_ 1107), (0, u "java/io/Serializable"), (0, .class_ 1109), (0, u "java/lang/Comparable"), (0, .class_ 1111), (0, u "java/lang/constant/Constable"), (0, .class_ 1113), (0, u "java/lang/constant/ConstantDesc"), (2, u "serialVersionUID"), (0, u "J"), (3, u "REPL"), (0, u "C"), (2, u "LATIN1"), (1, u "UTF16")] 323

def k7m0 : Method := { name := "<init>", desc := "()V", sig := { parameters := [], returnType := none }, accessFlags := 1, code := none }
def k7c1 : Code := { maxStack := 5, maxLocals := 2, code := jdk_42_method_3_code, exceptionTable := #[], attributes := #[] }
def k7m1 : Method := { name := "<init>", desc := "([C)V", sig := { parameters := [(.array .char)], returnType := none }, accessFlags := 1, code := some k7c1 }
def k7c2 : Code := { maxStack := 2, maxLocals := 1, code := jdk_42_method_54_code, exceptionTable := #[], attributes := #[] }
def k7m2 : Method := { name := "length", desc := "()I", sig := { parameters := [], returnType := some .int }, accessFlags := 1, code := some k7c2 }
def k7c3 : Code := { maxStack := 1, maxLocals := 1, code := jdk_42_method_55_code, exceptionTable := #[], attributes := #[] }
def k7m3 : Method := { name := "isEmpty", desc := "()Z", sig := { parameters := [], returnType := some .boolean }, accessFlags := 1, code := some k7c3 }
def k7c4 : Code := { maxStack := 3, maxLocals := 3, code := jdk_42_method_59_code, exceptionTable := #[], attributes := #[] }
def k7m4 : Method := { name := "codePointCount", desc := "(II)I", sig := { parameters := [.int, .int], returnType := some .int }, accessFlags := 1, code := some k7c4 }
def k7c5 : Code := { maxStack := 4, maxLocals := 6, code := jdk_42_method_149_code, exceptionTable := #[], attributes := #[] }
def k7m5 : Method := { name := "<init>", desc := "([CIILjava/lang/Void;)V", sig := { parameters := [(.array .char), .int, .int, (.object "java/lang/Void")], returnType := none }, accessFlags := 2, code := some k7c5 }
def k7c6 : Code := { maxStack := 1, maxLocals := 1, code := jdk_42_method_152_code, exceptionTable := #[], attributes := #[] }
def k7m6 : Method := { name := "coder", desc := "()B", sig := { parameters := [], returnType := some .byte }, accessFlags := 0, code := some k7c6 }
def k7c7 : Code := { maxStack := 1, maxLocals := 1, code := jdk_42_method_154_code, exceptionTable := #[], attributes := #[] }
def k7m7 : Method := { name := "isLatin1", desc := "()Z", sig := { parameters := [], returnType := some .boolean }, accessFlags := 0, code := some k7c7 }
/-- java/lang/String -/
def k7 : Class := { plain "java/lang/String" (some 0) with
  accessFlags := 49
  interfaces := #[2, 3, 4, 5, 6]
  cf := some (fileOf pool7 10 #[.nestMembers #[1103]] #[{ accessFlags := 1, nameIndex := 5, descriptorIndex := 6, attributes := #[] }, { accessFlags := 1, nameIndex := 5, descriptorIndex := 1010, attributes := #[] }, { accessFlags := 1, nameIndex := 507, descriptorIndex := 334, attributes := #[] }, { accessFlags := 1, nameIndex := 692, descriptorIndex := 142, attributes := #[] }, { accessFlags := 1, nameIndex := 516, descriptorIndex := 636, attributes := #[] }, { accessFlags := 2, nameIndex := 5, descriptorIndex := 29, attributes := #[] }, { accessFlags := 0, nameIndex := 17, descriptorIndex := 337, attributes := #[] }, { accessFlags := 0, nameIndex := 494, descriptorIndex := 142, attributes := #[] }] 49 2 #[1106, 1108, 575, 1110, 1112] #[{ accessFlags := 18, nameIndex := 13, descriptorIndex := 14, attributes := #[] }, { accessFlags := 18, nameIndex := 17, descriptorIndex := 18, attributes := #[] }, { accessFlags := 2, nameIndex := 21, descriptorIndex := 22, attributes := #[] }, { accessFlags := 2, nameIndex := 25, descriptorIndex := 26, attributes := #[] }, { accessFlags := 26, nameIndex := 1116, descriptorIndex := 1117, attributes := #[] }, { accessFlags := 24, nameIndex := 40, descriptorIndex := 26, attributes := #[] }, { accessFlags := 26, nameIndex := 1101, descriptorIndex := 1102, attributes := #[] }, { accessFlags := 26, nameIndex := 1121, descriptorIndex := 1122, attributes := #[] }, { accessFlags := 25, nameIndex := 599, descriptorIndex := 600, attributes := #[] }, { accessFlags := 24, nameIndex := 1125, descriptorIndex := 18, attributes := #[] }, { accessFlags := 24, nameIndex := 1127, descriptorIndex := 18, attributes := #[] }])
  fields := #[{ name := "value", type := (.array .byte), accessFlags := 18, slot := 0, constantValue := 0 }, { name := "coder", type := .byte, accessFlags := 18, slot := 1, constantValue := 0 }, { name := "hash", type := .int, accessFlags := 2, slot := 2, constantValue := 0 }, { name := "hashIsZero", type := .boolean, accessFlags := 2, slot := 3, constantValue := 0 }, { name := "serialVersionUID", type := .long, accessFlags := 26, slot := 0, constantValue := 0 }, { name := "COMPACT_STRINGS", type := .boolean, accessFlags := 24, slot := 1, constantValue := 0 }, { name := "serialPersistentFields", type := (.array (.object "java/io/ObjectStreamField")), accessFlags := 26, slot := 2, constantValue := 0 }, { name := "REPL", type := .char, accessFlags := 26, slot := 3, constantValue := 0 }, { name := "CASE_INSENSITIVE_ORDER", type := (.object "java/util/Comparator"), accessFlags := 25, slot := 4, constantValue := 0 }, { name := "LATIN1", type := .byte, accessFlags := 24, slot := 5, constantValue := 0 }, { name := "UTF16", type := .byte, accessFlags := 24, slot := 6, constantValue := 0 }]
  methods := #[k7m0, k7m1, k7m2, k7m3, k7m4, k7m5, k7m6, k7m7]
  instanceTypes := #[(.array .byte), .byte, .int, .boolean]
  staticTypes := #[.long, .boolean, (.array (.object "java/io/ObjectStreamField")), .char, (.object "java/util/Comparator"), .byte, .byte]
  resolved := Array.replicate 1451 none
  statics := some 0 }

def pool8 : Array CpInfo := pool [(2, .class_ 4), (1, u "java/lang/Object"), (3, u "hardwareKeyTag"), (6, .class_ 16), (0, u "java/lang/String"), (1, .class_ 20), (1, u "com/example/meticulous_attestor/meticulousattestor/model/WalletInstance"), (0, u "Ljava/lang/String;"), (2, u "platform"), (0, u "Lcom/example/meticulous_attestor/meticulousattestor/model/Platform;"), (1, u "hardwareKey"), (4, u "Ljava/security/interfaces/ECPublicKey;"), (2, u "counter"), (0, u "J"), (1, u "registeredAt"), (4, u "Ljava/time/Instant;"), (2, u "revocation"), (0, u "Lcom/example/meticulous_attestor/meticulousattestor/model/Revocation;"), (11, .methodref 15 60), (0, .nameAndType 61 62), (0, u "isEmpty"), (0, u "()Z"), (0, .methodref 15 64), (0, .nameAndType 65 66), (0, u "length"), (0, u "()I"), (0, .methodref 15 68), (0, .nameAndType 69 70), (0, u "codePointCount"), (0, u "(II)I"), (9, u "MAX_TAG_LENGTH"), (0, u "I"), (8, u "isHardwareKeyTag"), (0, u "(Ljava/lang/String;)Z")] 22

def k8c0 : Code := { maxStack := 3, maxLocals := 1, code := prog_27_method_4_code, exceptionTable := #[], attributes := #[] }
def k8m0 : Method := { name := "isHardwareKeyTag", desc := "(Ljava/lang/String;)Z", sig := { parameters := [(.object "java/lang/String")], returnType := some .boolean }, accessFlags := 9, code := some k8c0 }
/-- com/example/meticulous_attestor/meticulousattestor/model/WalletInstance -/
def k8 : Class := { plain "com/example/meticulous_attestor/meticulousattestor/model/WalletInstance" (some 0) with
  accessFlags := 49
  interfaces := #[]
  cf := some (fileOf pool8 18 #[] #[{ accessFlags := 9, nameIndex := 90, descriptorIndex := 91, attributes := #[] }] 49 2 #[] #[{ accessFlags := 25, nameIndex := 80, descriptorIndex := 81, attributes := #[] }, { accessFlags := 18, nameIndex := 8, descriptorIndex := 21, attributes := #[] }, { accessFlags := 18, nameIndex := 24, descriptorIndex := 25, attributes := #[] }, { accessFlags := 18, nameIndex := 27, descriptorIndex := 32, attributes := #[] }, { accessFlags := 18, nameIndex := 35, descriptorIndex := 36, attributes := #[] }, { accessFlags := 18, nameIndex := 38, descriptorIndex := 43, attributes := #[] }, { accessFlags := 18, nameIndex := 46, descriptorIndex := 47, attributes := #[] }])
  fields := #[{ name := "MAX_TAG_LENGTH", type := .int, accessFlags := 25, slot := 0, constantValue := 0 }, { name := "hardwareKeyTag", type := (.object "java/lang/String"), accessFlags := 18, slot := 0, constantValue := 0 }, { name := "platform", type := (.object "com/example/meticulous_attestor/meticulousattestor/model/Platform"), accessFlags := 18, slot := 1, constantValue := 0 }, { name := "hardwareKey", type := (.object "java/security/interfaces/ECPublicKey"), accessFlags := 18, slot := 2, constantValue := 0 }, { name := "counter", type := .long, accessFlags := 18, slot := 3, constantValue := 0 }, { name := "registeredAt", type := (.object "java/time/Instant"), accessFlags := 18, slot := 4, constantValue := 0 }, { name := "revocation", type := (.object "com/example/meticulous_attestor/meticulousattestor/model/Revocation"), accessFlags := 18, slot := 5, constantValue := 0 }]
  methods := #[k8m0]
  instanceTypes := #[(.object "java/lang/String"), (.object "com/example/meticulous_attestor/meticulousattestor/model/Platform"), (.object "java/security/interfaces/ECPublicKey"), .long, (.object "java/time/Instant"), (.object "com/example/meticulous_attestor/meticulousattestor/model/Revocation")]
  staticTypes := #[.int]
  resolved := Array.replicate 114 none
  statics := none }

def pool9 : Array CpInfo := pool [(6, .class_ 8), (1, u "java/lang/Object"), (0, u "<init>"), (0, u "()V"), (0, .methodref 12 13), (0, .class_ 14), (0, .nameAndType 15 16), (0, u "java/lang/StringUTF16"), (0, u "newBytesLength"), (0, u "(I)I"), (3, .integer 1073741823), (23, .fieldref 12 45), (0, .nameAndType 46 47), (0, u "$assertionsDisabled"), (0, u "Z"), (11, .fieldref 12 60), (0, .nameAndType 61 62), (0, u "HI_BYTE_SHIFT"), (0, u "I"), (0, .fieldref 12 64), (0, .nameAndType 65 62), (0, u "LO_BYTE_SHIFT"), (5, .methodref 12 72), (0, .nameAndType 73 74), (0, u "getChar"), (0, u "([BI)C"), (0, .methodref 76 77), (0, .class_ 78), (0, .nameAndType 79 80), (0, u "java/lang/Character"), (0, u "isHighSurrogate"), (0, u "(C)Z"), (0, .methodref 76 82), (0, .nameAndType 83 80), (0, u "isLowSurrogate"), (7, u "([BIIZ)I"), (8, .methodref 12 101), (0, .nameAndType 102 91), (0, u "codePointCount"), (4, .methodref 12 108), (0, .nameAndType 109 110), (0, u "newBytesFor"), (0, u "(I)[B"), (0, .methodref 12 112), (0, .nameAndType 113 114), (0, u "putChar"), (0, u "([BII)V"), (0, .methodref 12 116), (0, .nameAndType 117 118), (0, u "compress"), (0, u "([CI[BII)I"), (0, .methodref 12 120), (0, .nameAndType 121 122), (0, u "toBytes"), (0, u "([CII)[B"), (127, u "([BII)I"), (10, u "coderFromArrayLen"), (0, u "([BI)B"), (106, .class_ 371), (1, u "java/lang/StringUTF16$LinesSpliterator"), (58, u "MAX_LENGTH"), (196, .class_ 628), (0, u "java/lang/StringUTF16$CodePointsSpliterator"), (0, .class_ 630), (0, u "java/lang/StringUTF16$CharsSpliterator")] 4

def k9m0 : Method := { name := "<init>", desc := "()V", sig := { parameters := [], returnType := none }, accessFlags := 0, code := none }
def k9c1 : Code := { maxStack := 1, maxLocals := 1, code := jdk_52_method_2_code, exceptionTable := #[], attributes := #[] }
def k9m1 : Method := { name := "newBytesFor", desc := "(I)[B", sig := { parameters := [.int], returnType := some (.array .byte) }, accessFlags := 9, code := some k9c1 }
def k9c2 : Code := { maxStack := 4, maxLocals := 1, code := jdk_52_method_3_code, exceptionTable := #[], attributes := #[] }
def k9m2 : Method := { name := "newBytesLength", desc := "(I)I", sig := { parameters := [.int], returnType := some .int }, accessFlags := 9, code := some k9c2 }
def k9c3 : Code := { maxStack := 4, maxLocals := 3, code := jdk_52_method_4_code, exceptionTable := #[], attributes := #[] }
def k9m3 : Method := { name := "putChar", desc := "([BII)V", sig := { parameters := [(.array .byte), .int, .int], returnType := none }, accessFlags := 8, code := some k9c3 }
def k9c4 : Code := { maxStack := 3, maxLocals := 2, code := jdk_52_method_5_code, exceptionTable := #[], attributes := #[] }
def k9m4 : Method := { name := "getChar", desc := "([BI)C", sig := { parameters := [(.array .byte), .int], returnType := some .char }, accessFlags := 8, code := some k9c4 }
def k9c5 : Code := { maxStack := 3, maxLocals := 6, code := jdk_52_method_11_code, exceptionTable := #[], attributes := #[] }
def k9m5 : Method := { name := "codePointCount", desc := "([BIIZ)I", sig := { parameters := [(.array .byte), .int, .int, .boolean], returnType := some .int }, accessFlags := 10, code := some k9c5 }
def k9c6 : Code := { maxStack := 4, maxLocals := 3, code := jdk_52_method_12_code, exceptionTable := #[], attributes := #[] }
def k9m6 : Method := { name := "codePointCount", desc := "([BII)I", sig := { parameters := [(.array .byte), .int, .int], returnType := some .int }, accessFlags := 9, code := some k9c6 }
def k9c7 : Code := { maxStack := 4, maxLocals := 5, code := jdk_52_method_14_code, exceptionTable := #[], attributes := #[] }
def k9m7 : Method := { name := "toBytes", desc := "([CII)[B", sig := { parameters := [(.array .char), .int, .int], returnType := some (.array .byte) }, accessFlags := 9, code := some k9c7 }
def k9c8 : Code := { maxStack := 2, maxLocals := 2, code := jdk_52_method_15_code, exceptionTable := #[], attributes := #[] }
def k9m8 : Method := { name := "coderFromArrayLen", desc := "([BI)B", sig := { parameters := [(.array .byte), .int], returnType := some .byte }, accessFlags := 8, code := some k9c8 }
def k9c9 : Code := { maxStack := 5, maxLocals := 6, code := jdk_52_method_16_code, exceptionTable := #[], attributes := #[] }
def k9m9 : Method := { name := "compress", desc := "([CII)[B", sig := { parameters := [(.array .char), .int, .int], returnType := some (.array .byte) }, accessFlags := 9, code := some k9c9 }
def k9c10 : Code := { maxStack := 3, maxLocals := 7, code := jdk_52_method_21_code, exceptionTable := #[], attributes := #[] }
def k9m10 : Method := { name := "compress", desc := "([CI[BII)I", sig := { parameters := [(.array .char), .int, (.array .byte), .int, .int], returnType := some .int }, accessFlags := 9, code := some k9c10 }
/-- java/lang/StringUTF16 -/
def k9 : Class := { plain "java/lang/StringUTF16" (some 0) with
  accessFlags := 48
  interfaces := #[]
  cf := some (fileOf pool9 12 #[.nestMembers #[627, 629, 369]] #[{ accessFlags := 0, nameIndex := 9, descriptorIndex := 10, attributes := #[] }, { accessFlags := 9, nameIndex := 109, descriptorIndex := 110, attributes := #[] }, { accessFlags := 9, nameIndex := 15, descriptorIndex := 16, attributes := #[] }, { accessFlags := 8, nameIndex := 113, descriptorIndex := 114, attributes := #[] }, { accessFlags := 8, nameIndex := 73, descriptorIndex := 74, attributes := #[] }, { accessFlags := 10, nameIndex := 102, descriptorIndex := 91, attributes := #[] }, { accessFlags := 9, nameIndex := 102, descriptorIndex := 250, attributes := #[] }, { accessFlags := 9, nameIndex := 121, descriptorIndex := 122, attributes := #[] }, { accessFlags := 8, nameIndex := 261, descriptorIndex := 262, attributes := #[] }, { accessFlags := 9, nameIndex := 117, descriptorIndex := 122, attributes := #[] }, { accessFlags := 9, nameIndex := 117, descriptorIndex := 118, attributes := #[] }] 48 6 #[] #[{ accessFlags := 26, nameIndex := 61, descriptorIndex := 62, attributes := #[] }, { accessFlags := 26, nameIndex := 65, descriptorIndex := 62, attributes := #[] }, { accessFlags := 24, nameIndex := 430, descriptorIndex := 62, attributes := #[] }, { accessFlags := 4120, nameIndex := 46, descriptorIndex := 47, attributes := #[] }])
  fields := #[{ name := "HI_BYTE_SHIFT", type := .int, accessFlags := 26, slot := 0, constantValue := 0 }, { name := "LO_BYTE_SHIFT", type := .int, accessFlags := 26, slot := 1, constantValue := 0 }, { name := "MAX_LENGTH", type := .int, accessFlags := 24, slot := 2, constantValue := 0 }, { name := "$assertionsDisabled", type := .boolean, accessFlags := 4120, slot := 3, constantValue := 0 }]
  methods := #[k9m0, k9m1, k9m2, k9m3, k9m4, k9m5, k9m6, k9m7, k9m8, k9m9, k9m10]
  instanceTypes := #[]
  staticTypes := #[.int, .int, .int, .boolean]
  resolved := Array.replicate 635 none
  statics := some 1 }

def pool10 : Array CpInfo := pool [(2, .class_ 4), (1, u "java/lang/Object"), (0, u "<init>"), (0, u "()V"), (35, .class_ 44), (1, u "java/util/Objects"), (61, .class_ 108), (1, u "jdk/internal/util/Preconditions"), (2, .methodref 106 112), (0, .nameAndType 113 114), (0, u "checkFromToIndex"), (0, u "(IIILjava/util/function/BiFunction;)I"), (60, u "(III)I")] 8

def k10m0 : Method := { name := "<init>", desc := "()V", sig := { parameters := [], returnType := none }, accessFlags := 2, code := none }
def k10c1 : Code := { maxStack := 4, maxLocals := 3, code := jdk_31_method_18_code, exceptionTable := #[], attributes := #[] }
def k10m1 : Method := { name := "checkFromToIndex", desc := "(III)I", sig := { parameters := [.int, .int, .int], returnType := some .int }, accessFlags := 9, code := some k10c1 }
/-- java/util/Objects -/
def k10 : Class := { plain "java/util/Objects" (some 0) with
  accessFlags := 49
  interfaces := #[]
  cf := some (fileOf pool10 42 #[] #[{ accessFlags := 2, nameIndex := 5, descriptorIndex := 6, attributes := #[] }, { accessFlags := 9, nameIndex := 113, descriptorIndex := 175, attributes := #[] }] 49 2 #[] #[])
  fields := #[]
  methods := #[k10m0, k10m1]
  instanceTypes := #[]
  staticTypes := #[]
  resolved := Array.replicate 184 none
  statics := none }

def pool11 : Array CpInfo := pool [(2, .class_ 4), (1, u "java/lang/Object"), (0, u "<init>"), (0, u "()V"), (17, .class_ 26), (1, u "jdk/internal/util/Preconditions"), (20, u "checkFromToIndex"), (7, .class_ 56), (0, u "jdk/internal/util/Preconditions$4"), (57, .class_ 115), (0, u "jdk/internal/util/Preconditions$1"), (7, u "SIOOBE_FORMATTER"), (0, u "Ljava/util/function/BiFunction;"), (0, .class_ 126), (0, u "jdk/internal/util/Preconditions$2"), (3, u "AIOOBE_FORMATTER"), (0, .class_ 132), (0, u "jdk/internal/util/Preconditions$3"), (3, u "IOOBE_FORMATTER"), (46, u "(IIILjava/util/function/BiFunction;)I")] 10

def k11m0 : Method := { name := "<init>", desc := "()V", sig := { parameters := [], returnType := none }, accessFlags := 1, code := none }
def k11c1 : Code := { maxStack := 4, maxLocals := 4, code := jdk_41_method_12_code, exceptionTable := #[], attributes := #[] }
def k11m1 : Method := { name := "checkFromToIndex", desc := "(IIILjava/util/function/BiFunction;)I", sig := { parameters := [.int, .int, .int, (.object "java/util/function/BiFunction")], returnType := some .int }, accessFlags := 9, code := some k11c1 }
/-- jdk/internal/util/Preconditions -/
def k11 : Class := { plain "jdk/internal/util/Preconditions" (some 0) with
  accessFlags := 33
  interfaces := #[]
  cf := some (fileOf pool11 24 #[.nestMembers #[55, 131, 125, 114]] #[{ accessFlags := 1, nameIndex := 5, descriptorIndex := 6, attributes := #[] }, { accessFlags := 9, nameIndex := 47, descriptorIndex := 183, attributes := #[] }] 33 2 #[] #[{ accessFlags := 25, nameIndex := 123, descriptorIndex := 124, attributes := #[] }, { accessFlags := 25, nameIndex := 130, descriptorIndex := 124, attributes := #[] }, { accessFlags := 25, nameIndex := 136, descriptorIndex := 124, attributes := #[] }])
  fields := #[{ name := "SIOOBE_FORMATTER", type := (.object "java/util/function/BiFunction"), accessFlags := 25, slot := 0, constantValue := 0 }, { name := "AIOOBE_FORMATTER", type := (.object "java/util/function/BiFunction"), accessFlags := 25, slot := 1, constantValue := 0 }, { name := "IOOBE_FORMATTER", type := (.object "java/util/function/BiFunction"), accessFlags := 25, slot := 2, constantValue := 0 }]
  methods := #[k11m0, k11m1]
  instanceTypes := #[]
  staticTypes := #[(.object "java/util/function/BiFunction"), (.object "java/util/function/BiFunction"), (.object "java/util/function/BiFunction")]
  resolved := Array.replicate 194 none
  statics := some 2 }

def pool12 : Array CpInfo := pool [(1, .class_ 2), (0, u "java/lang/Character"), (18, u "value"), (0, u "C"), (19, .class_ 44), (1, u "java/lang/Object"), (3, .class_ 50), (1, u "java/lang/Character$CharacterCache"), (24, .integer 55296), (0, .integer 56320), (0, .integer 57344), (2, u "isHighSurrogate"), (0, u "(C)Z"), (2, u "isLowSurrogate"), (199, u "$assertionsDisabled"), (0, u "Z"), (21, .class_ 309), (1, u "java/lang/Character$UnicodeBlock"), (73, u "TYPE"), (0, u "Ljava/lang/Class;"), (0, .class_ 386), (0, u "java/io/Serializable"), (0, .class_ 388), (0, u "java/lang/Comparable"), (0, .class_ 390), (0, u "java/lang/constant/Constable"), (0, u "MIN_RADIX"), (0, u "I"), (2, u "MAX_RADIX"), (1, u "MIN_VALUE"), (1, u "MAX_VALUE"), (3, u "UNASSIGNED"), (0, u "B"), (0, u "UPPERCASE_LETTER"), (1, u "LOWERCASE_LETTER"), (0, u "TITLECASE_LETTER"), (1, u "MODIFIER_LETTER"), (1, u "OTHER_LETTER"), (1, u "NON_SPACING_MARK"), (1, u "ENCLOSING_MARK"), (1, u "COMBINING_SPACING_MARK"), (1, u "DECIMAL_DIGIT_NUMBER"), (1, u "LETTER_NUMBER"), (1, u "OTHER_NUMBER"), (1, u "SPACE_SEPARATOR"), (1, u "LINE_SEPARATOR"), (1, u "PARAGRAPH_SEPARATOR"), (1, u "CONTROL"), (1, u "FORMAT"), (1, u "PRIVATE_USE"), (1, u "SURROGATE"), (1, u "DASH_PUNCTUATION"), (1, u "START_PUNCTUATION"), (1, u "END_PUNCTUATION"), (1, u "CONNECTOR_PUNCTUATION"), (1, u "OTHER_PUNCTUATION"), (1, u "MATH_SYMBOL"), (1, u "CURRENCY_SYMBOL"), (1, u "MODIFIER_SYMBOL"), (1, u "OTHER_SYMBOL"), (1, u "INITIAL_QUOTE_PUNCTUATION"), (1, u "FINAL_QUOTE_PUNCTUATION"), (1, u "ERROR"), (1, u "DIRECTIONALITY_UNDEFINED"), (0, u "DIRECTIONALITY_LEFT_TO_RIGHT"), (0, u "DIRECTIONALITY_RIGHT_TO_LEFT"), (0, u "DIRECTIONALITY_RIGHT_TO_LEFT_ARABIC"), (0, u "DIRECTIONALITY_EUROPEAN_NUMBER"), (0, u "DIRECTIONALITY_EUROPEAN_NUMBER_SEPARATOR"), (0, u "DIRECTIONALITY_EUROPEAN_NUMBER_TERMINATOR"), (0, u "DIRECTIONALITY_ARABIC_NUMBER"), (0, u "DIRECTIONALITY_COMMON_NUMBER_SEPARATOR"), (0, u "DIRECTIONALITY_NONSPACING_MARK"), (0, u "DIRECTIONALITY_BOUNDARY_NEUTRAL"), (0, u "DIRECTIONALITY_PARAGRAPH_SEPARATOR"), (0, u "DIRECTIONALITY_SEGMENT_SEPARATOR"), (0, u "DIRECTIONALITY_WHITESPACE"), (0, u "DIRECTIONALITY_OTHER_NEUTRALS"), (0, u "DIRECTIONALITY_LEFT_TO_RIGHT_EMBEDDING"), (0, u "DIRECTIONALITY_LEFT_TO_RIGHT_OVERRIDE"), (0, u "DIRECTIONALITY_RIGHT_TO_LEFT_EMBEDDING"), (0, u "DIRECTIONALITY_RIGHT_TO_LEFT_OVERRIDE"), (1, u "DIRECTIONALITY_POP_DIRECTIONAL_FORMAT"), (0, u "DIRECTIONALITY_LEFT_TO_RIGHT_ISOLATE"), (0, u "DIRECTIONALITY_RIGHT_TO_LEFT_ISOLATE"), (0, u "DIRECTIONALITY_FIRST_STRONG_ISOLATE"), (0, u "DIRECTIONALITY_POP_DIRECTIONAL_ISOLATE"), (0, u "MIN_HIGH_SURROGATE"), (0, u "MAX_HIGH_SURROGATE"), (1, u "MIN_LOW_SURROGATE"), (0, u "MAX_LOW_SURROGATE"), (1, u "MIN_SURROGATE"), (0, u "MAX_SURROGATE"), (0, u "MIN_SUPPLEMENTARY_CODE_POINT"), (0, u "MIN_CODE_POINT"), (0, u "MAX_CODE_POINT"), (1, u "serialVersionUID"), (0, u "J"), (2, u "SIZE"), (0, u "BYTES"), (88, .class_ 596), (0, u "java/lang/Character$UnicodeScript"), (0, .class_ 598), (0, u "java/lang/Character$Subset")] 5

def k12c0 : Code := { maxStack := 2, maxLocals := 1, code := jdk_89_method_14_code, exceptionTable := #[], attributes := #[] }
def k12m0 : Method := { name := "isHighSurrogate", desc := "(C)Z", sig := { parameters := [.char], returnType := some .boolean }, accessFlags := 9, code := some k12c0 }
def k12c1 : Code := { maxStack := 2, maxLocals := 1, code := jdk_89_method_15_code, exceptionTable := #[], attributes := #[] }
def k12m1 : Method := { name := "isLowSurrogate", desc := "(C)Z", sig := { parameters := [.char], returnType := some .boolean }, accessFlags := 9, code := some k12c1 }
/-- java/lang/Character -/
def k12 : Class := { plain "java/lang/Character" (some 0) with
  accessFlags := 49
  interfaces := #[2, 3, 5]
  cf := some (fileOf pool12 1 #[.nestMembers #[48, 595, 307, 597]] #[{ accessFlags := 9, nameIndex := 80, descriptorIndex := 81, attributes := #[] }, { accessFlags := 9, nameIndex := 84, descriptorIndex := 81, attributes := #[] }] 49 42 #[385, 387, 389] #[{ accessFlags := 25, nameIndex := 391, descriptorIndex := 392, attributes := #[] }, { accessFlags := 25, nameIndex := 395, descriptorIndex := 392, attributes := #[] }, { accessFlags := 25, nameIndex := 397, descriptorIndex := 22, attributes := #[] }, { accessFlags := 25, nameIndex := 399, descriptorIndex := 22, attributes := #[] }, { accessFlags := 25, nameIndex := 383, descriptorIndex := 384, attributes := #[] }, { accessFlags := 25, nameIndex := 403, descriptorIndex := 404, attributes := #[] }, { accessFlags := 25, nameIndex := 405, descriptorIndex := 404, attributes := #[] }, { accessFlags := 25, nameIndex := 407, descriptorIndex := 404, attributes := #[] }, { accessFlags := 25, nameIndex := 408, descriptorIndex := 404, attributes := #[] }, { accessFlags := 25, nameIndex := 410, descriptorIndex := 404, attributes := #[] }, { accessFlags := 25, nameIndex := 412, descriptorIndex := 404, attributes := #[] }, { accessFlags := 25, nameIndex := 414, descriptorIndex := 404, attributes := #[] }, { accessFlags := 25, nameIndex := 416, descriptorIndex := 404, attributes := #[] }, { accessFlags := 25, nameIndex := 418, descriptorIndex := 404, attributes := #[] }, { accessFlags := 25, nameIndex := 420, descriptorIndex := 404, attributes := #[] }, { accessFlags := 25, nameIndex := 422, descriptorIndex := 404, attributes := #[] }, { accessFlags := 25, nameIndex := 424, descriptorIndex := 404, attributes := #[] }, { accessFlags := 25, nameIndex := 426, descriptorIndex := 404, attributes := #[] }, { accessFlags := 25, nameIndex := 428, descriptorIndex := 404, attributes := #[] }, { accessFlags := 25, nameIndex := 430, descriptorIndex := 404, attributes := #[] }, { accessFlags := 25, nameIndex := 432, descriptorIndex := 404, attributes := #[] }, { accessFlags := 25, nameIndex := 434, descriptorIndex := 404, attributes := #[] }, { accessFlags := 25, nameIndex := 436, descriptorIndex := 404, attributes := #[] }, { accessFlags := 25, nameIndex := 438, descriptorIndex := 404, attributes := #[] }, { accessFlags := 25, nameIndex := 440, descriptorIndex := 404, attributes := #[] }, { accessFlags := 25, nameIndex := 442, descriptorIndex := 404, attributes := #[] }, { accessFlags := 25, nameIndex := 444, descriptorIndex := 404, attributes := #[] }, { accessFlags := 25, nameIndex := 446, descriptorIndex := 404, attributes := #[] }, { accessFlags := 25, nameIndex := 448, descriptorIndex := 404, attributes := #[] }, { accessFlags := 25, nameIndex := 450, descriptorIndex := 404, attributes := #[] }, { accessFlags := 25, nameIndex := 452, descriptorIndex := 404, attributes := #[] }, { accessFlags := 25, nameIndex := 454, descriptorIndex := 404, attributes := #[] }, { accessFlags := 25, nameIndex := 456, descriptorIndex := 404, attributes := #[] }, { accessFlags := 25, nameIndex := 458, descriptorIndex := 404, attributes := #[] }, { accessFlags := 25, nameIndex := 460, descriptorIndex := 404, attributes := #[] }, { accessFlags := 24, nameIndex := 462, descriptorIndex := 392, attributes := #[] }, { accessFlags := 25, nameIndex := 464, descriptorIndex := 404, attributes := #[] }, { accessFlags := 25, nameIndex := 465, descriptorIndex := 404, attributes := #[] }, { accessFlags := 25, nameIndex := 466, descriptorIndex := 404, attributes := #[] }, { accessFlags := 25, nameIndex := 467, descriptorIndex := 404, attributes := #[] }, { accessFlags := 25, nameIndex := 468, descriptorIndex := 404, attributes := #[] }, { accessFlags := 25, nameIndex := 469, descriptorIndex := 404, attributes := #[] }, { accessFlags := 25, nameIndex := 470, descriptorIndex := 404, attributes := #[] }, { accessFlags := 25, nameIndex := 471, descriptorIndex := 404, attributes := #[] }, { accessFlags := 25, nameIndex := 472, descriptorIndex := 404, attributes := #[] }, { accessFlags := 25, nameIndex := 473, descriptorIndex := 404, attributes := #[] }, { accessFlags := 25, nameIndex := 474, descriptorIndex := 404, attributes := #[] }, { accessFlags := 25, nameIndex := 475, descriptorIndex := 404, attributes := #[] }, { accessFlags := 25, nameIndex := 476, descriptorIndex := 404, attributes := #[] }, { accessFlags := 25, nameIndex := 477, descriptorIndex := 404, attributes := #[] }, { accessFlags := 25, nameIndex := 478, descriptorIndex := 404, attributes := #[] }, { accessFlags := 25, nameIndex := 479, descriptorIndex := 404, attributes := #[] }, { accessFlags := 25, nameIndex := 480, descriptorIndex := 404, attributes := #[] }, { accessFlags := 25, nameIndex := 481, descriptorIndex := 404, attributes := #[] }, { accessFlags := 25, nameIndex := 482, descriptorIndex := 404, attributes := #[] }, { accessFlags := 25, nameIndex := 484, descriptorIndex := 404, attributes := #[] }, { accessFlags := 25, nameIndex := 485, descriptorIndex := 404, attributes := #[] }, { accessFlags := 25, nameIndex := 486, descriptorIndex := 404, attributes := #[] }, { accessFlags := 25, nameIndex := 487, descriptorIndex := 404, attributes := #[] }, { accessFlags := 25, nameIndex := 488, descriptorIndex := 404, attributes := #[] }, { accessFlags := 25, nameIndex := 489, descriptorIndex := 22, attributes := #[] }, { accessFlags := 25, nameIndex := 490, descriptorIndex := 22, attributes := #[] }, { accessFlags := 25, nameIndex := 492, descriptorIndex := 22, attributes := #[] }, { accessFlags := 25, nameIndex := 493, descriptorIndex := 22, attributes := #[] }, { accessFlags := 25, nameIndex := 495, descriptorIndex := 22, attributes := #[] }, { accessFlags := 25, nameIndex := 496, descriptorIndex := 22, attributes := #[] }, { accessFlags := 25, nameIndex := 497, descriptorIndex := 392, attributes := #[] }, { accessFlags := 25, nameIndex := 498, descriptorIndex := 392, attributes := #[] }, { accessFlags := 25, nameIndex := 499, descriptorIndex := 392, attributes := #[] }, { accessFlags := 18, nameIndex := 21, descriptorIndex := 22, attributes := #[] }, { accessFlags := 26, nameIndex := 501, descriptorIndex := 502, attributes := #[] }, { accessFlags := 25, nameIndex := 505, descriptorIndex := 392, attributes := #[] }, { accessFlags := 25, nameIndex := 506, descriptorIndex := 392, attributes := #[] }, { accessFlags := 4120, nameIndex := 284, descriptorIndex := 285, attributes := #[] }])
  fields := #[{ name := "MIN_RADIX", type := .int, accessFlags := 25, slot := 0, constantValue := 0 }, { name := "MAX_RADIX", type := .int, accessFlags := 25, slot := 1, constantValue := 0 }, { name := "MIN_VALUE", type := .char, accessFlags := 25, slot := 2, constantValue := 0 }, { name := "MAX_VALUE", type := .char, accessFlags := 25, slot := 3, constantValue := 0 }, { name := "TYPE", type := (.object "java/lang/Class"), accessFlags := 25, slot := 4, constantValue := 0 }, { name := "UNASSIGNED", type := .byte, accessFlags := 25, slot := 5, constantValue := 0 }, { name := "UPPERCASE_LETTER", type := .byte, accessFlags := 25, slot := 6, constantValue := 0 }, { name := "LOWERCASE_LETTER", type := .byte, accessFlags := 25, slot := 7, constantValue := 0 }, { name := "TITLECASE_LETTER", type := .byte, accessFlags := 25, slot := 8, constantValue := 0 }, { name := "MODIFIER_LETTER", type := .byte, accessFlags := 25, slot := 9, constantValue := 0 }, { name := "OTHER_LETTER", type := .byte, accessFlags := 25, slot := 10, constantValue := 0 }, { name := "NON_SPACING_MARK", type := .byte, accessFlags := 25, slot := 11, constantValue := 0 }, { name := "ENCLOSING_MARK", type := .byte, accessFlags := 25, slot := 12, constantValue := 0 }, { name := "COMBINING_SPACING_MARK", type := .byte, accessFlags := 25, slot := 13, constantValue := 0 }, { name := "DECIMAL_DIGIT_NUMBER", type := .byte, accessFlags := 25, slot := 14, constantValue := 0 }, { name := "LETTER_NUMBER", type := .byte, accessFlags := 25, slot := 15, constantValue := 0 }, { name := "OTHER_NUMBER", type := .byte, accessFlags := 25, slot := 16, constantValue := 0 }, { name := "SPACE_SEPARATOR", type := .byte, accessFlags := 25, slot := 17, constantValue := 0 }, { name := "LINE_SEPARATOR", type := .byte, accessFlags := 25, slot := 18, constantValue := 0 }, { name := "PARAGRAPH_SEPARATOR", type := .byte, accessFlags := 25, slot := 19, constantValue := 0 }, { name := "CONTROL", type := .byte, accessFlags := 25, slot := 20, constantValue := 0 }, { name := "FORMAT", type := .byte, accessFlags := 25, slot := 21, constantValue := 0 }, { name := "PRIVATE_USE", type := .byte, accessFlags := 25, slot := 22, constantValue := 0 }, { name := "SURROGATE", type := .byte, accessFlags := 25, slot := 23, constantValue := 0 }, { name := "DASH_PUNCTUATION", type := .byte, accessFlags := 25, slot := 24, constantValue := 0 }, { name := "START_PUNCTUATION", type := .byte, accessFlags := 25, slot := 25, constantValue := 0 }, { name := "END_PUNCTUATION", type := .byte, accessFlags := 25, slot := 26, constantValue := 0 }, { name := "CONNECTOR_PUNCTUATION", type := .byte, accessFlags := 25, slot := 27, constantValue := 0 }, { name := "OTHER_PUNCTUATION", type := .byte, accessFlags := 25, slot := 28, constantValue := 0 }, { name := "MATH_SYMBOL", type := .byte, accessFlags := 25, slot := 29, constantValue := 0 }, { name := "CURRENCY_SYMBOL", type := .byte, accessFlags := 25, slot := 30, constantValue := 0 }, { name := "MODIFIER_SYMBOL", type := .byte, accessFlags := 25, slot := 31, constantValue := 0 }, { name := "OTHER_SYMBOL", type := .byte, accessFlags := 25, slot := 32, constantValue := 0 }, { name := "INITIAL_QUOTE_PUNCTUATION", type := .byte, accessFlags := 25, slot := 33, constantValue := 0 }, { name := "FINAL_QUOTE_PUNCTUATION", type := .byte, accessFlags := 25, slot := 34, constantValue := 0 }, { name := "ERROR", type := .int, accessFlags := 24, slot := 35, constantValue := 0 }, { name := "DIRECTIONALITY_UNDEFINED", type := .byte, accessFlags := 25, slot := 36, constantValue := 0 }, { name := "DIRECTIONALITY_LEFT_TO_RIGHT", type := .byte, accessFlags := 25, slot := 37, constantValue := 0 }, { name := "DIRECTIONALITY_RIGHT_TO_LEFT", type := .byte, accessFlags := 25, slot := 38, constantValue := 0 }, { name := "DIRECTIONALITY_RIGHT_TO_LEFT_ARABIC", type := .byte, accessFlags := 25, slot := 39, constantValue := 0 }, { name := "DIRECTIONALITY_EUROPEAN_NUMBER", type := .byte, accessFlags := 25, slot := 40, constantValue := 0 }, { name := "DIRECTIONALITY_EUROPEAN_NUMBER_SEPARATOR", type := .byte, accessFlags := 25, slot := 41, constantValue := 0 }, { name := "DIRECTIONALITY_EUROPEAN_NUMBER_TERMINATOR", type := .byte, accessFlags := 25, slot := 42, constantValue := 0 }, { name := "DIRECTIONALITY_ARABIC_NUMBER", type := .byte, accessFlags := 25, slot := 43, constantValue := 0 }, { name := "DIRECTIONALITY_COMMON_NUMBER_SEPARATOR", type := .byte, accessFlags := 25, slot := 44, constantValue := 0 }, { name := "DIRECTIONALITY_NONSPACING_MARK", type := .byte, accessFlags := 25, slot := 45, constantValue := 0 }, { name := "DIRECTIONALITY_BOUNDARY_NEUTRAL", type := .byte, accessFlags := 25, slot := 46, constantValue := 0 }, { name := "DIRECTIONALITY_PARAGRAPH_SEPARATOR", type := .byte, accessFlags := 25, slot := 47, constantValue := 0 }, { name := "DIRECTIONALITY_SEGMENT_SEPARATOR", type := .byte, accessFlags := 25, slot := 48, constantValue := 0 }, { name := "DIRECTIONALITY_WHITESPACE", type := .byte, accessFlags := 25, slot := 49, constantValue := 0 }, { name := "DIRECTIONALITY_OTHER_NEUTRALS", type := .byte, accessFlags := 25, slot := 50, constantValue := 0 }, { name := "DIRECTIONALITY_LEFT_TO_RIGHT_EMBEDDING", type := .byte, accessFlags := 25, slot := 51, constantValue := 0 }, { name := "DIRECTIONALITY_LEFT_TO_RIGHT_OVERRIDE", type := .byte, accessFlags := 25, slot := 52, constantValue := 0 }, { name := "DIRECTIONALITY_RIGHT_TO_LEFT_EMBEDDING", type := .byte, accessFlags := 25, slot := 53, constantValue := 0 }, { name := "DIRECTIONALITY_RIGHT_TO_LEFT_OVERRIDE", type := .byte, accessFlags := 25, slot := 54, constantValue := 0 }, { name := "DIRECTIONALITY_POP_DIRECTIONAL_FORMAT", type := .byte, accessFlags := 25, slot := 55, constantValue := 0 }, { name := "DIRECTIONALITY_LEFT_TO_RIGHT_ISOLATE", type := .byte, accessFlags := 25, slot := 56, constantValue := 0 }, { name := "DIRECTIONALITY_RIGHT_TO_LEFT_ISOLATE", type := .byte, accessFlags := 25, slot := 57, constantValue := 0 }, { name := "DIRECTIONALITY_FIRST_STRONG_ISOLATE", type := .byte, accessFlags := 25, slot := 58, constantValue := 0 }, { name := "DIRECTIONALITY_POP_DIRECTIONAL_ISOLATE", type := .byte, accessFlags := 25, slot := 59, constantValue := 0 }, { name := "MIN_HIGH_SURROGATE", type := .char, accessFlags := 25, slot := 60, constantValue := 0 }, { name := "MAX_HIGH_SURROGATE", type := .char, accessFlags := 25, slot := 61, constantValue := 0 }, { name := "MIN_LOW_SURROGATE", type := .char, accessFlags := 25, slot := 62, constantValue := 0 }, { name := "MAX_LOW_SURROGATE", type := .char, accessFlags := 25, slot := 63, constantValue := 0 }, { name := "MIN_SURROGATE", type := .char, accessFlags := 25, slot := 64, constantValue := 0 }, { name := "MAX_SURROGATE", type := .char, accessFlags := 25, slot := 65, constantValue := 0 }, { name := "MIN_SUPPLEMENTARY_CODE_POINT", type := .int, accessFlags := 25, slot := 66, constantValue := 0 }, { name := "MIN_CODE_POINT", type := .int, accessFlags := 25, slot := 67, constantValue := 0 }, { name := "MAX_CODE_POINT", type := .int, accessFlags := 25, slot := 68, constantValue := 0 }, { name := "value", type := .char, accessFlags := 18, slot := 0, constantValue := 0 }, { name := "serialVersionUID", type := .long, accessFlags := 26, slot := 69, constantValue := 0 }, { name := "SIZE", type := .int, accessFlags := 25, slot := 70, constantValue := 0 }, { name := "BYTES", type := .int, accessFlags := 25, slot := 71, constantValue := 0 }, { name := "$assertionsDisabled", type := .boolean, accessFlags := 4120, slot := 72, constantValue := 0 }]
  methods := #[k12m0, k12m1]
  instanceTypes := #[.char]
  staticTypes := #[.int, .int, .char, .char, (.object "java/lang/Class"), .byte, .byte, .byte, .byte, .byte, .byte, .byte, .byte, .byte, .byte, .byte, .byte, .byte, .byte, .byte, .byte, .byte, .byte, .byte, .byte, .byte, .byte, .byte, .byte, .byte, .byte, .byte, .byte, .byte, .byte, .int, .byte, .byte, .byte, .byte, .byte, .byte, .byte, .byte, .byte, .byte, .byte, .byte, .byte, .byte, .byte, .byte, .byte, .byte, .byte, .byte, .byte, .byte, .byte, .byte, .char, .char, .char, .char, .char, .char, .int, .int, .int, .long, .int, .int, .boolean]
  resolved := Array.replicate 604 none
  statics := none }

def pool13 : Array CpInfo := pool [(4, .class_ 6), (1, u "java/lang/Object"), (0, u "<init>"), (0, u "()V"), (5, .class_ 16), (1, u "java/lang/StringLatin1"), (104, u "$assertionsDisabled"), (0, u "Z"), (98, .class_ 223), (1, u "java/lang/StringLatin1$LinesSpliterator"), (166, .class_ 391), (0, u "java/lang/StringLatin1$CharsSpliterator")] 3

def k13m0 : Method := { name := "<init>", desc := "()V", sig := { parameters := [], returnType := none }, accessFlags := 0, code := none }
/-- java/lang/StringLatin1 -/
def k13 : Class := { plain "java/lang/StringLatin1" (some 0) with
  accessFlags := 48
  interfaces := #[]
  cf := some (fileOf pool13 14 #[.nestMembers #[390, 221]] #[{ accessFlags := 0, nameIndex := 7, descriptorIndex := 8, attributes := #[] }] 48 4 #[] #[{ accessFlags := 4120, nameIndex := 121, descriptorIndex := 122, attributes := #[] }])
  fields := #[{ name := "$assertionsDisabled", type := .boolean, accessFlags := 4120, slot := 0, constantValue := 0 }]
  methods := #[k13m0]
  instanceTypes := #[]
  staticTypes := #[.boolean]
  resolved := Array.replicate 395 none
  statics := none }

def pool14 : Array CpInfo := pool [(9, u "<init>"), (6, .class_ 18), (1, u "java/lang/Object"), (0, u "()V"), (1, .class_ 23), (1, u "jdk/internal/util/ArraysSupport"), (0, u "LOG2_ARRAY_LONG_INDEX_SCALE"), (0, u "I"), (2, u "U"), (0, u "Ljdk/internal/misc/Unsafe;"), (8, u "BIG_ENDIAN"), (0, u "Z"), (8, u "LOG2_BYTE_BIT_SIZE"), (4, u "LOG2_ARRAY_INT_INDEX_SCALE"), (54, u "JLA"), (0, u "Ljdk/internal/access/JavaLangAccess;"), (11, u "LOG2_ARRAY_BOOLEAN_INDEX_SCALE"), (9, u "LOG2_ARRAY_BYTE_INDEX_SCALE"), (5, u "LOG2_ARRAY_CHAR_INDEX_SCALE"), (5, u "LOG2_ARRAY_SHORT_INDEX_SCALE"), (18, u "LOG2_ARRAY_FLOAT_INDEX_SCALE"), (24, u "LOG2_ARRAY_DOUBLE_INDEX_SCALE"), (89, u "T_BOOLEAN"), (2, u "T_CHAR"), (1, u "T_FLOAT"), (1, u "T_DOUBLE"), (1, u "T_BYTE"), (1, u "T_SHORT"), (1, u "T_INT"), (1, u "T_LONG"), (1, u "SOFT_MAX_ARRAY_LENGTH")] 83

def k14m0 : Method := { name := "<init>", desc := "()V", sig := { parameters := [], returnType := none }, accessFlags := 2, code := none }
/-- jdk/internal/util/ArraysSupport -/
def k14 : Class := { plain "jdk/internal/util/ArraysSupport" (some 0) with
  accessFlags := 33
  interfaces := #[]
  cf := some (fileOf pool14 21 #[] #[{ accessFlags := 2, nameIndex := 9, descriptorIndex := 19, attributes := #[] }] 33 16 #[] #[{ accessFlags := 24, nameIndex := 28, descriptorIndex := 29, attributes := #[] }, { accessFlags := 26, nameIndex := 38, descriptorIndex := 39, attributes := #[] }, { accessFlags := 25, nameIndex := 121, descriptorIndex := 25, attributes := #[] }, { accessFlags := 25, nameIndex := 131, descriptorIndex := 25, attributes := #[] }, { accessFlags := 25, nameIndex := 137, descriptorIndex := 25, attributes := #[] }, { accessFlags := 25, nameIndex := 143, descriptorIndex := 25, attributes := #[] }, { accessFlags := 25, nameIndex := 53, descriptorIndex := 25, attributes := #[] }, { accessFlags := 25, nameIndex := 24, descriptorIndex := 25, attributes := #[] }, { accessFlags := 25, nameIndex := 162, descriptorIndex := 25, attributes := #[] }, { accessFlags := 25, nameIndex := 187, descriptorIndex := 25, attributes := #[] }, { accessFlags := 26, nameIndex := 48, descriptorIndex := 25, attributes := #[] }, { accessFlags := 25, nameIndex := 277, descriptorIndex := 25, attributes := #[] }, { accessFlags := 25, nameIndex := 280, descriptorIndex := 25, attributes := #[] }, { accessFlags := 25, nameIndex := 282, descriptorIndex := 25, attributes := #[] }, { accessFlags := 25, nameIndex := 284, descriptorIndex := 25, attributes := #[] }, { accessFlags := 25, nameIndex := 286, descriptorIndex := 25, attributes := #[] }, { accessFlags := 25, nameIndex := 288, descriptorIndex := 25, attributes := #[] }, { accessFlags := 25, nameIndex := 290, descriptorIndex := 25, attributes := #[] }, { accessFlags := 25, nameIndex := 292, descriptorIndex := 25, attributes := #[] }, { accessFlags := 26, nameIndex := 108, descriptorIndex := 109, attributes := #[] }, { accessFlags := 25, nameIndex := 294, descriptorIndex := 25, attributes := #[] }])
  fields := #[{ name := "U", type := (.object "jdk/internal/misc/Unsafe"), accessFlags := 24, slot := 0, constantValue := 0 }, { name := "BIG_ENDIAN", type := .boolean, accessFlags := 26, slot := 1, constantValue := 0 }, { name := "LOG2_ARRAY_BOOLEAN_INDEX_SCALE", type := .int, accessFlags := 25, slot := 2, constantValue := 0 }, { name := "LOG2_ARRAY_BYTE_INDEX_SCALE", type := .int, accessFlags := 25, slot := 3, constantValue := 0 }, { name := "LOG2_ARRAY_CHAR_INDEX_SCALE", type := .int, accessFlags := 25, slot := 4, constantValue := 0 }, { name := "LOG2_ARRAY_SHORT_INDEX_SCALE", type := .int, accessFlags := 25, slot := 5, constantValue := 0 }, { name := "LOG2_ARRAY_INT_INDEX_SCALE", type := .int, accessFlags := 25, slot := 6, constantValue := 0 }, { name := "LOG2_ARRAY_LONG_INDEX_SCALE", type := .int, accessFlags := 25, slot := 7, constantValue := 0 }, { name := "LOG2_ARRAY_FLOAT_INDEX_SCALE", type := .int, accessFlags := 25, slot := 8, constantValue := 0 }, { name := "LOG2_ARRAY_DOUBLE_INDEX_SCALE", type := .int, accessFlags := 25, slot := 9, constantValue := 0 }, { name := "LOG2_BYTE_BIT_SIZE", type := .int, accessFlags := 26, slot := 10, constantValue := 0 }, { name := "T_BOOLEAN", type := .int, accessFlags := 25, slot := 11, constantValue := 0 }, { name := "T_CHAR", type := .int, accessFlags := 25, slot := 12, constantValue := 0 }, { name := "T_FLOAT", type := .int, accessFlags := 25, slot := 13, constantValue := 0 }, { name := "T_DOUBLE", type := .int, accessFlags := 25, slot := 14, constantValue := 0 }, { name := "T_BYTE", type := .int, accessFlags := 25, slot := 15, constantValue := 0 }, { name := "T_SHORT", type := .int, accessFlags := 25, slot := 16, constantValue := 0 }, { name := "T_INT", type := .int, accessFlags := 25, slot := 17, constantValue := 0 }, { name := "T_LONG", type := .int, accessFlags := 25, slot := 18, constantValue := 0 }, { name := "JLA", type := (.object "jdk/internal/access/JavaLangAccess"), accessFlags := 26, slot := 19, constantValue := 0 }, { name := "SOFT_MAX_ARRAY_LENGTH", type := .int, accessFlags := 25, slot := 20, constantValue := 0 }]
  methods := #[k14m0]
  instanceTypes := #[]
  staticTypes := #[(.object "jdk/internal/misc/Unsafe"), .boolean, .int, .int, .int, .int, .int, .int, .int, .int, .int, .int, .int, .int, .int, .int, .int, .int, .int, (.object "jdk/internal/access/JavaLangAccess"), .int]
  resolved := Array.replicate 378 none
  statics := none }

def pool15 : Array CpInfo := pool [(1, u "java/lang/Cloneable"), (0, .class_ 1), (0, u "java/lang/Object"), (0, .class_ 3)] 3

/-- java/lang/Cloneable -/
def k15 : Class := { plain "java/lang/Cloneable" (some 0) with
  accessFlags := 1537
  interfaces := #[]
  cf := some (fileOf pool15 2 #[] #[] 1537 4 #[] #[])
  fields := #[]
  methods := #[]
  instanceTypes := #[]
  staticTypes := #[]
  resolved := Array.replicate 8 none
  statics := none }

/-- the primitive byte -/
def k16 : Class := { plain "byte" none with kind := .primitive 'B', accessFlags := 0x411 }
/-- [B -/
def k17 : Class := { plain "[B" (some 0) with kind := .array 16 .byte, interfaces := #[15, 2], accessFlags := 1041 }

/-- the primitive char -/
def k18 : Class := { plain "char" none with kind := .primitive 'C', accessFlags := 0x411 }
/-- [C -/
def k19 : Class := { plain "[C" (some 0) with kind := .array 18 .char, interfaces := #[15, 2], accessFlags := 1041 }

/-- the primitive int -/
def k20 : Class := { plain "int" none with kind := .primitive 'I', accessFlags := 0x411 }
/-- [I -/
def k21 : Class := { plain "[I" (some 0) with kind := .array 20 .int, interfaces := #[15, 2], accessFlags := 1041 }

def heap : Heap := #[{ cls := 7, slots := #[.long 0, .int 1, .null, .int 0, .null, .int 0, .int 0], vm := .statics 7 },
  { cls := 9, slots := #[.int 0, .int 8, .int 0, .int 1], vm := .statics 9 },
  { cls := 11, slots := #[.null, .null, .null], vm := .statics 11 }]
def classes : Array Class := #[k0, k1, k2, k3, k4, k5, k6, k7, k8, k9, k10, k11, k12, k13, k14, k15, k16, k17, k18, k19, k20, k21]
def interned : List (Array UInt16 × Addr) := []
def slotsUsed : Nat := 14
def theMethod : MethodId := ⟨1, 4⟩
def args0 : Array Value := #[.int 5, .int 5, .int 5, .int 5]
def aboutOver (below : List Frame) : State where
  vm := { classes := classes, interned := interned.toArray }
  heap := heap
  slotsUsed := slotsUsed
  threads := #[{ frames := .invoking theMethod args0 :: below }]
def below0 : List Frame := [.native { method := ⟨0, 0⟩, args := #[] }]
def about1 : State := aboutOver below0
def p0 : Program := .bare "" "" ""
def e0 : Env := launch0.env 0 0 0
theorem w_frames : about1.frames = Frame.invoking theMethod args0 :: below0 := rfl
set_option maxRecDepth 65536 in
theorem w_args : argsFit about1.vm theMethod args0 = true := by decide +kernel
set_option maxRecDepth 65536 in
theorem w_heap : heapFits about1 = true := by decide +kernel
set_option maxRecDepth 65536 in
theorem w_runnable : about1.curStatus? = some .runnable := by decide +kernel
set_option maxRecDepth 65536 in
theorem w_alone : about1.alone = true := by decide +kernel
set_option maxRecDepth 65536 in
theorem w_named : about1.methodNamed? x = some theMethod := by decide +kernel
set_option maxRecDepth 65536 in
theorem w_hears : about1.hears theMethod below0 = true := by decide +kernel
set_option maxRecDepth 65536 in
theorem w_ripe : about1.ripe theMethod args0 below0 = true := by decide +kernel
theorem w_running : about1.status = .running := rfl
set_option maxRecDepth 65536 in
theorem w_room : about1.hasRoom e0.platform room_1 = true :=
  launch0.hasRoom_least _ room_1 (by decide +kernel) (by decide +kernel) (by decide +kernel) (by decide +kernel) (by decide +kernel) (by decide +kernel)
theorem allAtoms_all (ts : List Jvm.Cond) (a : Array Jvm.Value) (st : Jvm.State) : (allAtoms ts).before a st = ts.all (fun c => c.before a st) := by
  induction ts with
  | nil => rfl
  | cons c t ih =>
    show (Jvm.Cond.and c (allAtoms t)).before a st = _
    rw [Jvm.Cond.before_and, ih, List.all_cons]
def words1 : List Jvm.Cond := Jvm.Cond.code x code maxLocals ret :: tables_1
/-- a 'code' word, met by the world's own term for the bytes: nothing is compared byte by byte -/
theorem code_word {y : MethodName} {bytes : ByteArray} {mx : Nat} {rt : Option FieldType} {a : Array Value} {s : State} {m : MethodId} {meth : Method} {c : Code} (h1 : s.methodNamed? y = some m) (h2 : s.vm.method? m = some meth) (h3 : meth.code = some c) (h4 : c.code = bytes)
    (h5 : (c.maxLocals == mx && c.exceptionTable.isEmpty && decide (c.maxStack ≤ mostOperands) && decide (meth.sig.returnType = rt) && !meth.locks && decide (parseMethodDescriptor y.desc = some meth.sig)) = true) : (Jvm.Cond.code y bytes mx rt).before a s = true := by
  simp only [Bool.and_eq_true, beq_iff_eq, Bool.not_eq_true', decide_eq_true_eq] at h5
  obtain ⟨⟨⟨⟨⟨g1, g2⟩, g3⟩, g4⟩, g5⟩, g6⟩ := h5
  simp [Cond.before, Cond.holds, Cond.value, h1, h2, h3, h4, g1, g2, g3, g4, g5, g6]
def isCode : Jvm.Cond → Bool
  | .code _ _ _ _ => true
  | _ => false
theorem all_split {L : List Jvm.Cond} {P : Jvm.Cond → Bool} (h1 : L.all (fun c => isCode c || P c) = true) (h2 : ∀ c ∈ L.filter isCode, P c = true) : L.all P = true := by
  refine List.all_eq_true.mpr fun c hc => ?_
  have h := List.all_eq_true.mp h1 c hc
  rcases Bool.eq_false_or_eq_true (isCode c) with hi | hi
  · exact h2 c (List.mem_filter.mpr ⟨hc, hi⟩)
  · simpa [hi] using h
set_option maxRecDepth 65536 in
theorem w_c0 : (Jvm.Cond.code x code maxLocals ret).before args0 about1 = true := code_word (m := ⟨1, 4⟩) (meth := k1m4) (c := k1c4) (by decide +kernel) rfl rfl rfl (by decide +kernel)
set_option maxRecDepth 65536 in
theorem w_c1 : (Jvm.Cond.code ({ cls := "com/example/meticulous_attestor/meticulousattestor/model/WalletInstanceIsHardwareKeyTagPinLaw", name := "draw", desc := "(II)C" } : Jvm.MethodName) method_2_code (2 : Nat) (Option.some Jvm.ClassFile.FieldType.char)).before args0 about1 = true := code_word (m := ⟨1, 1⟩) (meth := k1m1) (c := k1c1) (by decide +kernel) rfl rfl rfl (by decide +kernel)
set_option maxRecDepth 65536 in
theorem w_c2 : (Jvm.Cond.code ({ cls := "java/lang/String", name := "<init>", desc := "([C)V" } : Jvm.MethodName) jdk_42_method_3_code (2 : Nat) (Option.none : Option Jvm.ClassFile.FieldType)).before args0 about1 = true := code_word (m := ⟨7, 1⟩) (meth := k7m1) (c := k7c1) (by decide +kernel) rfl rfl rfl (by decide +kernel)
set_option maxRecDepth 65536 in
theorem w_c3 : (Jvm.Cond.code ({ cls := "java/lang/String", name := "<init>", desc := "([CIILjava/lang/Void;)V" } : Jvm.MethodName) jdk_42_method_149_code (6 : Nat) (Option.none : Option Jvm.ClassFile.FieldType)).before args0 about1 = true := code_word (m := ⟨7, 5⟩) (meth := k7m5) (c := k7c5) (by decide +kernel) rfl rfl rfl (by decide +kernel)
set_option maxRecDepth 65536 in
theorem w_c4 : (Jvm.Cond.code ({ cls := "java/lang/Object", name := "<init>", desc := "()V" } : Jvm.MethodName) object_method_1_code (1 : Nat) (Option.none : Option Jvm.ClassFile.FieldType)).before args0 about1 = true := code_word (m := ⟨0, 0⟩) (meth := k0m0) (c := k0c0) (by decide +kernel) rfl rfl rfl (by decide +kernel)
set_option maxRecDepth 65536 in
theorem w_c5 : (Jvm.Cond.code ({ cls := "com/example/meticulous_attestor/meticulousattestor/model/WalletInstance", name := "isHardwareKeyTag", desc := "(Ljava/lang/String;)Z" } : Jvm.MethodName) prog_27_method_4_code (1 : Nat) (Option.some Jvm.ClassFile.FieldType.boolean)).before args0 about1 = true := code_word (m := ⟨8, 0⟩) (meth := k8m0) (c := k8c0) (by decide +kernel) rfl rfl rfl (by decide +kernel)
set_option maxRecDepth 65536 in
theorem w_c6 : (Jvm.Cond.code ({ cls := "java/lang/String", name := "isEmpty", desc := "()Z" } : Jvm.MethodName) jdk_42_method_55_code (1 : Nat) (Option.some Jvm.ClassFile.FieldType.boolean)).before args0 about1 = true := code_word (m := ⟨7, 3⟩) (meth := k7m3) (c := k7c3) (by decide +kernel) rfl rfl rfl (by decide +kernel)
set_option maxRecDepth 65536 in
theorem w_c7 : (Jvm.Cond.code ({ cls := "com/example/meticulous_attestor/meticulousattestor/model/WalletInstanceIsHardwareKeyTagPinLaw", name := "isHigh", desc := "(C)Z" } : Jvm.MethodName) method_3_code (1 : Nat) (Option.some Jvm.ClassFile.FieldType.boolean)).before args0 about1 = true := code_word (m := ⟨1, 2⟩) (meth := k1m2) (c := k1c2) (by decide +kernel) rfl rfl rfl (by decide +kernel)
set_option maxRecDepth 65536 in
theorem w_c8 : (Jvm.Cond.code ({ cls := "java/lang/StringUTF16", name := "compress", desc := "([CII)[B" } : Jvm.MethodName) jdk_52_method_16_code (6 : Nat) (Option.some (Jvm.ClassFile.FieldType.array Jvm.ClassFile.FieldType.byte))).before args0 about1 = true := code_word (m := ⟨9, 9⟩) (meth := k9m9) (c := k9c9) (by decide +kernel) rfl rfl rfl (by decide +kernel)
set_option maxRecDepth 65536 in
theorem w_c9 : (Jvm.Cond.code ({ cls := "java/lang/StringUTF16", name := "compress", desc := "([CI[BII)I" } : Jvm.MethodName) jdk_52_method_21_code (7 : Nat) (Option.some Jvm.ClassFile.FieldType.int)).before args0 about1 = true := code_word (m := ⟨9, 10⟩) (meth := k9m10) (c := k9c10) (by decide +kernel) rfl rfl rfl (by decide +kernel)
set_option maxRecDepth 65536 in
theorem w_c10 : (Jvm.Cond.code ({ cls := "java/lang/StringUTF16", name := "coderFromArrayLen", desc := "([BI)B" } : Jvm.MethodName) jdk_52_method_15_code (2 : Nat) (Option.some Jvm.ClassFile.FieldType.byte)).before args0 about1 = true := code_word (m := ⟨9, 8⟩) (meth := k9m8) (c := k9c8) (by decide +kernel) rfl rfl rfl (by decide +kernel)
set_option maxRecDepth 65536 in
theorem w_c11 : (Jvm.Cond.code ({ cls := "java/lang/String", name := "length", desc := "()I" } : Jvm.MethodName) jdk_42_method_54_code (1 : Nat) (Option.some Jvm.ClassFile.FieldType.int)).before args0 about1 = true := code_word (m := ⟨7, 2⟩) (meth := k7m2) (c := k7c2) (by decide +kernel) rfl rfl rfl (by decide +kernel)
set_option maxRecDepth 65536 in
theorem w_c12 : (Jvm.Cond.code ({ cls := "java/lang/String", name := "coder", desc := "()B" } : Jvm.MethodName) jdk_42_method_152_code (1 : Nat) (Option.some Jvm.ClassFile.FieldType.byte)).before args0 about1 = true := code_word (m := ⟨7, 6⟩) (meth := k7m6) (c := k7c6) (by decide +kernel) rfl rfl rfl (by decide +kernel)
set_option maxRecDepth 65536 in
theorem w_c13 : (Jvm.Cond.code ({ cls := "java/lang/String", name := "codePointCount", desc := "(II)I" } : Jvm.MethodName) jdk_42_method_59_code (3 : Nat) (Option.some Jvm.ClassFile.FieldType.int)).before args0 about1 = true := code_word (m := ⟨7, 4⟩) (meth := k7m4) (c := k7c4) (by decide +kernel) rfl rfl rfl (by decide +kernel)
set_option maxRecDepth 65536 in
theorem w_c14 : (Jvm.Cond.code ({ cls := "java/util/Objects", name := "checkFromToIndex", desc := "(III)I" } : Jvm.MethodName) jdk_31_method_18_code (3 : Nat) (Option.some Jvm.ClassFile.FieldType.int)).before args0 about1 = true := code_word (m := ⟨10, 1⟩) (meth := k10m1) (c := k10c1) (by decide +kernel) rfl rfl rfl (by decide +kernel)
set_option maxRecDepth 65536 in
theorem w_c15 : (Jvm.Cond.code ({ cls := "jdk/internal/util/Preconditions", name := "checkFromToIndex", desc := "(IIILjava/util/function/BiFunction;)I" } : Jvm.MethodName) jdk_41_method_12_code (4 : Nat) (Option.some Jvm.ClassFile.FieldType.int)).before args0 about1 = true := code_word (m := ⟨11, 1⟩) (meth := k11m1) (c := k11c1) (by decide +kernel) rfl rfl rfl (by decide +kernel)
set_option maxRecDepth 65536 in
theorem w_c16 : (Jvm.Cond.code ({ cls := "java/lang/String", name := "isLatin1", desc := "()Z" } : Jvm.MethodName) jdk_42_method_154_code (1 : Nat) (Option.some Jvm.ClassFile.FieldType.boolean)).before args0 about1 = true := code_word (m := ⟨7, 7⟩) (meth := k7m7) (c := k7c7) (by decide +kernel) rfl rfl rfl (by decide +kernel)
set_option maxRecDepth 65536 in
theorem w_c17 : (Jvm.Cond.code ({ cls := "com/example/meticulous_attestor/meticulousattestor/model/WalletInstanceIsHardwareKeyTagPinLaw", name := "isLow", desc := "(C)Z" } : Jvm.MethodName) method_4_code (1 : Nat) (Option.some Jvm.ClassFile.FieldType.boolean)).before args0 about1 = true := code_word (m := ⟨1, 3⟩) (meth := k1m3) (c := k1c3) (by decide +kernel) rfl rfl rfl (by decide +kernel)
set_option maxRecDepth 65536 in
theorem w_c18 : (Jvm.Cond.code ({ cls := "java/lang/StringUTF16", name := "toBytes", desc := "([CII)[B" } : Jvm.MethodName) jdk_52_method_14_code (5 : Nat) (Option.some (Jvm.ClassFile.FieldType.array Jvm.ClassFile.FieldType.byte))).before args0 about1 = true := code_word (m := ⟨9, 7⟩) (meth := k9m7) (c := k9c7) (by decide +kernel) rfl rfl rfl (by decide +kernel)
set_option maxRecDepth 65536 in
theorem w_c19 : (Jvm.Cond.code ({ cls := "java/lang/StringUTF16", name := "newBytesFor", desc := "(I)[B" } : Jvm.MethodName) jdk_52_method_2_code (1 : Nat) (Option.some (Jvm.ClassFile.FieldType.array Jvm.ClassFile.FieldType.byte))).before args0 about1 = true := code_word (m := ⟨9, 1⟩) (meth := k9m1) (c := k9c1) (by decide +kernel) rfl rfl rfl (by decide +kernel)
set_option maxRecDepth 65536 in
theorem w_c20 : (Jvm.Cond.code ({ cls := "java/lang/StringUTF16", name := "newBytesLength", desc := "(I)I" } : Jvm.MethodName) jdk_52_method_3_code (1 : Nat) (Option.some Jvm.ClassFile.FieldType.int)).before args0 about1 = true := code_word (m := ⟨9, 2⟩) (meth := k9m2) (c := k9c2) (by decide +kernel) rfl rfl rfl (by decide +kernel)
set_option maxRecDepth 65536 in
theorem w_c21 : (Jvm.Cond.code ({ cls := "java/lang/StringUTF16", name := "putChar", desc := "([BII)V" } : Jvm.MethodName) jdk_52_method_4_code (3 : Nat) (Option.none : Option Jvm.ClassFile.FieldType)).before args0 about1 = true := code_word (m := ⟨9, 3⟩) (meth := k9m3) (c := k9c3) (by decide +kernel) rfl rfl rfl (by decide +kernel)
set_option maxRecDepth 65536 in
theorem w_c22 : (Jvm.Cond.code ({ cls := "java/lang/StringUTF16", name := "getChar", desc := "([BI)C" } : Jvm.MethodName) jdk_52_method_5_code (2 : Nat) (Option.some Jvm.ClassFile.FieldType.char)).before args0 about1 = true := code_word (m := ⟨9, 4⟩) (meth := k9m4) (c := k9c4) (by decide +kernel) rfl rfl rfl (by decide +kernel)
set_option maxRecDepth 65536 in
theorem w_c23 : (Jvm.Cond.code ({ cls := "java/lang/StringUTF16", name := "codePointCount", desc := "([BII)I" } : Jvm.MethodName) jdk_52_method_12_code (3 : Nat) (Option.some Jvm.ClassFile.FieldType.int)).before args0 about1 = true := code_word (m := ⟨9, 6⟩) (meth := k9m6) (c := k9c6) (by decide +kernel) rfl rfl rfl (by decide +kernel)
set_option maxRecDepth 65536 in
theorem w_c24 : (Jvm.Cond.code ({ cls := "java/lang/StringUTF16", name := "codePointCount", desc := "([BIIZ)I" } : Jvm.MethodName) jdk_52_method_11_code (6 : Nat) (Option.some Jvm.ClassFile.FieldType.int)).before args0 about1 = true := code_word (m := ⟨9, 5⟩) (meth := k9m5) (c := k9c5) (by decide +kernel) rfl rfl rfl (by decide +kernel)
set_option maxRecDepth 65536 in
theorem w_c25 : (Jvm.Cond.code ({ cls := "java/lang/Character", name := "isHighSurrogate", desc := "(C)Z" } : Jvm.MethodName) jdk_89_method_14_code (1 : Nat) (Option.some Jvm.ClassFile.FieldType.boolean)).before args0 about1 = true := code_word (m := ⟨12, 0⟩) (meth := k12m0) (c := k12c0) (by decide +kernel) rfl rfl rfl (by decide +kernel)
set_option maxRecDepth 65536 in
theorem w_c26 : (Jvm.Cond.code ({ cls := "java/lang/Character", name := "isLowSurrogate", desc := "(C)Z" } : Jvm.MethodName) jdk_89_method_15_code (1 : Nat) (Option.some Jvm.ClassFile.FieldType.boolean)).before args0 about1 = true := code_word (m := ⟨12, 1⟩) (meth := k12m1) (c := k12c1) (by decide +kernel) rfl rfl rfl (by decide +kernel)
def codes1 : List Jvm.Cond := [Jvm.Cond.code x code maxLocals ret, Jvm.Cond.code ({ cls := "com/example/meticulous_attestor/meticulousattestor/model/WalletInstanceIsHardwareKeyTagPinLaw", name := "draw", desc := "(II)C" } : Jvm.MethodName) method_2_code (2 : Nat) (Option.some Jvm.ClassFile.FieldType.char), Jvm.Cond.code ({ cls := "java/lang/String", name := "<init>", desc := "([C)V" } : Jvm.MethodName) jdk_42_method_3_code (2 : Nat) (Option.none : Option Jvm.ClassFile.FieldType), Jvm.Cond.code ({ cls := "java/lang/String", name := "<init>", desc := "([CIILjava/lang/Void;)V" } : Jvm.MethodName) jdk_42_method_149_code (6 : Nat) (Option.none : Option Jvm.ClassFile.FieldType), Jvm.Cond.code ({ cls := "java/lang/Object", name := "<init>", desc := "()V" } : Jvm.MethodName) object_method_1_code (1 : Nat) (Option.none : Option Jvm.ClassFile.FieldType), Jvm.Cond.code ({ cls := "com/example/meticulous_attestor/meticulousattestor/model/WalletInstance", name := "isHardwareKeyTag", desc := "(Ljava/lang/String;)Z" } : Jvm.MethodName) prog_27_method_4_code (1 : Nat) (Option.some Jvm.ClassFile.FieldType.boolean), Jvm.Cond.code ({ cls := "java/lang/String", name := "isEmpty", desc := "()Z" } : Jvm.MethodName) jdk_42_method_55_code (1 : Nat) (Option.some Jvm.ClassFile.FieldType.boolean), Jvm.Cond.code ({ cls := "com/example/meticulous_attestor/meticulousattestor/model/WalletInstanceIsHardwareKeyTagPinLaw", name := "isHigh", desc := "(C)Z" } : Jvm.MethodName) method_3_code (1 : Nat) (Option.some Jvm.ClassFile.FieldType.boolean), Jvm.Cond.code ({ cls := "java/lang/StringUTF16", name := "compress", desc := "([CII)[B" } : Jvm.MethodName) jdk_52_method_16_code (6 : Nat) (Option.some (Jvm.ClassFile.FieldType.array Jvm.ClassFile.FieldType.byte)), Jvm.Cond.code ({ cls := "java/lang/StringUTF16", name := "compress", desc := "([CI[BII)I" } : Jvm.MethodName) jdk_52_method_21_code (7 : Nat) (Option.some Jvm.ClassFile.FieldType.int), Jvm.Cond.code ({ cls := "java/lang/StringUTF16", name := "coderFromArrayLen", desc := "([BI)B" } : Jvm.MethodName) jdk_52_method_15_code (2 : Nat) (Option.some Jvm.ClassFile.FieldType.byte), Jvm.Cond.code ({ cls := "java/lang/String", name := "length", desc := "()I" } : Jvm.MethodName) jdk_42_method_54_code (1 : Nat) (Option.some Jvm.ClassFile.FieldType.int), Jvm.Cond.code ({ cls := "java/lang/String", name := "coder", desc := "()B" } : Jvm.MethodName) jdk_42_method_152_code (1 : Nat) (Option.some Jvm.ClassFile.FieldType.byte), Jvm.Cond.code ({ cls := "java/lang/String", name := "codePointCount", desc := "(II)I" } : Jvm.MethodName) jdk_42_method_59_code (3 : Nat) (Option.some Jvm.ClassFile.FieldType.int), Jvm.Cond.code ({ cls := "java/util/Objects", name := "checkFromToIndex", desc := "(III)I" } : Jvm.MethodName) jdk_31_method_18_code (3 : Nat) (Option.some Jvm.ClassFile.FieldType.int), Jvm.Cond.code ({ cls := "jdk/internal/util/Preconditions", name := "checkFromToIndex", desc := "(IIILjava/util/function/BiFunction;)I" } : Jvm.MethodName) jdk_41_method_12_code (4 : Nat) (Option.some Jvm.ClassFile.FieldType.int), Jvm.Cond.code ({ cls := "java/lang/String", name := "isLatin1", desc := "()Z" } : Jvm.MethodName) jdk_42_method_154_code (1 : Nat) (Option.some Jvm.ClassFile.FieldType.boolean), Jvm.Cond.code ({ cls := "com/example/meticulous_attestor/meticulousattestor/model/WalletInstanceIsHardwareKeyTagPinLaw", name := "isLow", desc := "(C)Z" } : Jvm.MethodName) method_4_code (1 : Nat) (Option.some Jvm.ClassFile.FieldType.boolean), Jvm.Cond.code ({ cls := "java/lang/StringUTF16", name := "toBytes", desc := "([CII)[B" } : Jvm.MethodName) jdk_52_method_14_code (5 : Nat) (Option.some (Jvm.ClassFile.FieldType.array Jvm.ClassFile.FieldType.byte)), Jvm.Cond.code ({ cls := "java/lang/StringUTF16", name := "newBytesFor", desc := "(I)[B" } : Jvm.MethodName) jdk_52_method_2_code (1 : Nat) (Option.some (Jvm.ClassFile.FieldType.array Jvm.ClassFile.FieldType.byte)), Jvm.Cond.code ({ cls := "java/lang/StringUTF16", name := "newBytesLength", desc := "(I)I" } : Jvm.MethodName) jdk_52_method_3_code (1 : Nat) (Option.some Jvm.ClassFile.FieldType.int), Jvm.Cond.code ({ cls := "java/lang/StringUTF16", name := "putChar", desc := "([BII)V" } : Jvm.MethodName) jdk_52_method_4_code (3 : Nat) (Option.none : Option Jvm.ClassFile.FieldType), Jvm.Cond.code ({ cls := "java/lang/StringUTF16", name := "getChar", desc := "([BI)C" } : Jvm.MethodName) jdk_52_method_5_code (2 : Nat) (Option.some Jvm.ClassFile.FieldType.char), Jvm.Cond.code ({ cls := "java/lang/StringUTF16", name := "codePointCount", desc := "([BII)I" } : Jvm.MethodName) jdk_52_method_12_code (3 : Nat) (Option.some Jvm.ClassFile.FieldType.int), Jvm.Cond.code ({ cls := "java/lang/StringUTF16", name := "codePointCount", desc := "([BIIZ)I" } : Jvm.MethodName) jdk_52_method_11_code (6 : Nat) (Option.some Jvm.ClassFile.FieldType.int), Jvm.Cond.code ({ cls := "java/lang/Character", name := "isHighSurrogate", desc := "(C)Z" } : Jvm.MethodName) jdk_89_method_14_code (1 : Nat) (Option.some Jvm.ClassFile.FieldType.boolean), Jvm.Cond.code ({ cls := "java/lang/Character", name := "isLowSurrogate", desc := "(C)Z" } : Jvm.MethodName) jdk_89_method_15_code (1 : Nat) (Option.some Jvm.ClassFile.FieldType.boolean)]
set_option maxRecDepth 65536 in
theorem codes_eq : words1.filter isCode = codes1 := rfl
theorem w_codes : ∀ c ∈ words1.filter isCode, c.before args0 about1 = true := by
  rw [codes_eq]
  intro c hc
  simp only [codes1, List.mem_cons, List.not_mem_nil, or_false] at hc
  rcases hc with rfl | rfl | rfl | rfl | rfl | rfl | rfl | rfl | rfl | rfl | rfl | rfl | rfl | rfl | rfl | rfl | rfl | rfl | rfl | rfl | rfl | rfl | rfl | rfl | rfl | rfl | rfl
  · exact w_c0
  · exact w_c1
  · exact w_c2
  · exact w_c3
  · exact w_c4
  · exact w_c5
  · exact w_c6
  · exact w_c7
  · exact w_c8
  · exact w_c9
  · exact w_c10
  · exact w_c11
  · exact w_c12
  · exact w_c13
  · exact w_c14
  · exact w_c15
  · exact w_c16
  · exact w_c17
  · exact w_c18
  · exact w_c19
  · exact w_c20
  · exact w_c21
  · exact w_c22
  · exact w_c23
  · exact w_c24
  · exact w_c25
  · exact w_c26
set_option maxRecDepth 65536 in
theorem w_t1 : (words1.take 24).all (fun c => isCode c || c.before args0 about1) = true := by decide +kernel
set_option maxRecDepth 65536 in
theorem w_t2 : ((words1.drop 24).take 24).all (fun c => isCode c || c.before args0 about1) = true := by decide +kernel
set_option maxRecDepth 65536 in
theorem w_t3 : (((words1.drop 24).drop 24).take 24).all (fun c => isCode c || c.before args0 about1) = true := by decide +kernel
set_option maxRecDepth 65536 in
theorem w_t4 : ((((words1.drop 24).drop 24).drop 24).take 24).all (fun c => isCode c || c.before args0 about1) = true := by decide +kernel
set_option maxRecDepth 65536 in
theorem w_t5 : (((((words1.drop 24).drop 24).drop 24).drop 24).take 24).all (fun c => isCode c || c.before args0 about1) = true := by decide +kernel
set_option maxRecDepth 65536 in
theorem w_t6 : (((((words1.drop 24).drop 24).drop 24).drop 24).drop 24).all (fun c => isCode c || c.before args0 about1) = true := by decide +kernel
theorem w_tables : (allAtoms (Jvm.Cond.code x code maxLocals ret :: tables_1)).before args0 about1 = true := by
  rw [allAtoms_all]
  show words1.all (fun c => c.before args0 about1) = true
  refine all_split ?_ w_codes
  rw [← List.take_append_drop 24 words1, List.all_append, w_t1, ← List.take_append_drop 24 (words1.drop 24), List.all_append, w_t2, ← List.take_append_drop 24 ((words1.drop 24).drop 24), List.all_append, w_t3, ← List.take_append_drop 24 (((words1.drop 24).drop 24).drop 24), List.all_append, w_t4, ← List.take_append_drop 24 ((((words1.drop 24).drop 24).drop 24).drop 24), List.all_append, w_t5, w_t6]
  rfl
set_option maxRecDepth 65536 in
theorem w_rest : rest_1_c.before args0 about1 = true := by decide +kernel
set_option maxRecDepth 65536 in
theorem w_case : (Jvm.Cond.and given_1 narrow_1).before args0 about1 = true := by decide +kernel
set_option maxRecDepth 65536 in
theorem w_consts : constsHeld consts_1 about1 := Jvm.Lit.constsHeldB_iff.mp (by decide +kernel)
theorem w_applies : (headSpec (Jvm.Cond.code x code maxLocals ret :: tables_1) room_1).applies x e0.platform about1 = true :=
  (Spec.applies_iff w_frames).mpr ⟨w_running, w_runnable, w_alone, w_named, w_hears, w_ripe, w_room, w_tables⟩
theorem atStart : AtStart classFile x code maxLocals ret World_1 tables_1 room_1 Calls_1 rest_1 Pre_1 launch0 p0 e0 about1 theMethod args0 below0 :=
  ⟨lists_1, trivial, launch0.admits_env _ _ _, launch0.least_env, fairChoices_fair.cas, fairChoices_fair.clock, w_frames, w_args, w_heap, w_applies, ⟨w_consts, trivial⟩, w_rest, w_case⟩
end start1
theorem witness_1 : WitnessClaimed_1 := ⟨start1.p0, start1.e0, start1.about1, start1.theMethod, start1.args0, start1.below0, start1.atStart⟩
end Jvm.Pilot.@@N@@
