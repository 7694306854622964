import JvmDerived
import JvmDerived.Pilot.@@N@@Statement
import JvmDerived.Pilot.@@N@@Code
set_option linter.unusedVariables false
set_option linter.unusedSimpArgs false
set_option maxRecDepth 65536
set_option maxHeartbeats 40000000
@@BLOCK:NumsL.lean.txt@@
@@BLOCK:LamKit.lean.txt@@
namespace Jvm.Pilot.@@N@@
open Jvm Jvm.ClassFile Sem Op Lib Jvm.Free Jvm.Stand Jvm.LawKit Jvm.RoadKit Bundle Jvm.Pilot.@@N@@.Jvm.D
theorem o_rep (n : Nat) (dv : Value) : ∀ i, (List.replicate n dv).getD i dv = dv := fun i => by
  rw [List.getD_eq_getElem?_getD, List.getElem?_replicate]; split <;> rfl
theorem o_narR {t : FieldType} {v : Value} (ht : t.isReference = true) (h : v.isRef = true) : narrow t v = v := by
  rcases ref_cases h with rfl | ⟨_, rfl⟩ <;> cases t <;> first | rfl | cases ht
theorem o_n0 {Z : State} {n0 : Nat} {h : Heap} (O : Old Z n0 h) : n0 ≤ h.size := Nat.le_trans (Nat.le_of_eq O.1.symm) O.2.1
def o_Mine (Z : State) (EL : List (String × Nat)) (n0 : Nat) (vm : Vm) (h : Heap) (ms : List Addr) : Prop := ∀ x ∈ ms, n0 ≤ x ∧ x < h.size
def o_Go (Z : State) (EL : List (String × Nat)) (n0 : Nat) (p : Program) (e : Env) (below : List Frame) (s : State) (k n : Nat) (Q : Option Value → Heap → List Addr → Prop) (cur : State) : Prop :=
  ∃ s₂ o, Steps p.tables e below cur s₂ ∧ s₂.status = .running ∧ Ended s₂ below o ∧ ∃ v L ms, o = .returned v ∧ Q v s₂.heap ms ∧ Fr n0 L ∧ Old Z n0 s₂.heap ∧ o_Mine Z EL n0 s₂.vm s₂.heap ms ∧ s.heap.size ≤ s₂.heap.size ∧ FrameEnd s o s₂ L k n
def o_Ct (l : Launch) (Z : State) (EL : List (String × Nat)) (n0 : Nat) (y : MethodName) (bytes : ByteArray) (maxL : Nat) (ret : Option FieldType) (ws : List Jvm.Cond) (rm : Room) (as' : Array Value) (h0 : Heap) (ms0 : List Addr) (Q : Option Value → Heap → List Addr → Prop) : Prop :=
  MetFree l y (head1 (Jvm.Cond.code y bytes maxL ret :: ws) rm) (fun a U => a = as' ∧ Z.WarmedH U.vm ∧ U.heap = h0 ∧ o_Mine Z EL n0 U.vm h0 ms0) (fun _ _ _ _ _ => True)
    (fun _ U o U' => ∃ v L ms, o = .returned v ∧ Q v U'.heap ms ∧ Fr n0 L ∧ Old Z n0 U'.heap ∧ o_Mine Z EL n0 U'.vm U'.heap ms ∧ U.heap.size ≤ U'.heap.size ∧ FrameEnd U o U' L rm.cells rm.slots)
def o_Wk (Z : State) (EL : List (String × Nat)) (n0 : Nat) (own : String) (bytes : ByteArray) (maxL : Nat) (ret : Option FieldType) (nm : String) (p : Program) (l : Launch) (e : Env) (R : Room) (s : State) (m : MethodId) (args : Array Value) (below : List Frame) (meth : Method) (c : Code)
    (T : State) (ms : List Addr) (k n : Nat) (h : Heap) : Prop :=
  p.tables.exec = Jvm.exec ∧ c.code = bytes ∧ c.maxLocals = maxL ∧ meth.sig.returnType = ret ∧ meth.locks = false ∧ meth.name = nm ∧
  ∃ locs, Stand p l e R s m args below meth c T locs k n ∧ T.heap = h ∧ Z.WarmedH s.vm ∧ s.vm.findClass own = some m.cls ∧ Fr n0 locs ∧ Old Z n0 h ∧ s.heap.size ≤ h.size ∧ o_Mine Z EL n0 T.vm h ms
section OwnKit
variable {Z : State} {EL : List (String × Nat)} {n0 : Nat} {own : String} {bytes : ByteArray} {maxL : Nat} {ret : Option FieldType} {nm : String} {p : Program} {l : Launch} {e : Env} {R : Room} {s : State} {m : MethodId} {args : Array Value} {below : List Frame} {meth : Method} {c : Code}
  {T : State} {ms : List Addr} {k n : Nat} {h : Heap} {a0 : Array Value} {K N : Nat} {Q : Option Value → Heap → List Addr → Prop} {pc pc' : Nat} {Ls Ls' : Array Slot} {st : List Value} {a : Addr}
theorem o_go {cur nxt : State} (q : ∀ t, Steps p.tables e below nxt t → Steps p.tables e below cur t) (g : o_Go Z EL n0 p e below s K N Q nxt) : o_Go Z EL n0 p e below s K N Q cur := by
  obtain ⟨s₂, o, h, r⟩ := g; exact ⟨s₂, o, q _ h, r⟩
theorem o_here (w : o_Wk Z EL n0 own bytes maxL ret nm p l e R s m args below meth c T ms k n h) : At T m c below := by
  obtain ⟨-, -, -, -, -, -, locs, X, -⟩ := w; exact X.here
theorem o_dec (w : o_Wk Z EL n0 own bytes maxL ret nm p l e R s m args below meth c T ms k n h) {r : Except DecodeError (Instr × Nat)} (hd : decode bytes pc = r) : decode c.code pc = r := w.2.1 ▸ hd
theorem o_old (w : o_Wk Z EL n0 own bytes maxL ret nm p l e R s m args below meth c T ms k n h) : Old Z n0 h := by
  obtain ⟨-, -, -, -, -, -, locs, -, -, -, -, -, O, -⟩ := w; exact O
theorem o_mine (w : o_Wk Z EL n0 own bytes maxL ret nm p l e R s m args below meth c T ms k n h) : ∀ x ∈ ms, n0 ≤ x ∧ x < h.size := by
  obtain ⟨-, -, -, -, -, -, locs, -, -, -, -, -, -, -, M⟩ := w; exact M
theorem o_enter {y : MethodName} {ws : List Jvm.Cond} {rm : Room} {as' : Array Value} {h0 : Heap} {ms0 : List Addr} (hp : plainFor y = true) (hE : EW Z a0 EL) (O : Old Z n0 h0)
    (body : ∀ p e s m below meth c T, o_Wk Z EL n0 y.cls bytes maxL ret y.name p l e rm s m as' below meth c T ms0 0 0 h0 → o_Go Z EL n0 p e below s rm.cells rm.slots Q (T.setTop (entryFrame m as' maxL))) :
    o_Ct l Z EL n0 y bytes maxL ret ws rm as' h0 ms0 Q := by
  refine MetFree.of_bodySF hp hisR ?_
  intro p e s m args below meth c s₁ Bd hml hP _
  obtain ⟨rfl, hZ, hh, hM⟩ := hP
  have e0 : s₁.heap = h0 := by rw [← hh, Bd.state]; rfl
  exact body p e s m below meth c s₁ ⟨Bd.exec, Bd.bytes, hml, Bd.returns, Bd.notSynchronized, (name_of_methodNamed Bd.named Bd.method).1, [], Stand.of_body Bd, e0, hZ, findClass_of_methodNamed Bd.named, Fr.nil n0, O, Nat.le_of_eq (by rw [hh]), hM⟩
theorem o_enterN {y : MethodName} {ws : List Jvm.Cond} {rm : Room} {as' : Array Value} {h0 : Heap} {ms0 : List Addr} (hp : plainFor y = true) (hE : EW Z a0 EL) (O : Old Z n0 h0)
    (body : ∀ p e s m below meth c T, o_Wk Z EL n0 y.cls bytes maxL ret y.name p l e rm s m as' below meth c T ms0 0 0 h0 → s.methodNamed? y = some m → o_Go Z EL n0 p e below s rm.cells rm.slots Q (T.setTop (entryFrame m as' maxL))) :
    o_Ct l Z EL n0 y bytes maxL ret ws rm as' h0 ms0 Q := by
  refine MetFree.of_bodySF hp hisR ?_
  intro p e s m args below meth c s₁ Bd hml hP _
  obtain ⟨rfl, hZ, hh, hM⟩ := hP
  have e0 : s₁.heap = h0 := by rw [← hh, Bd.state]; rfl
  exact body p e s m below meth c s₁ ⟨Bd.exec, Bd.bytes, hml, Bd.returns, Bd.notSynchronized, (name_of_methodNamed Bd.named Bd.method).1, [], Stand.of_body Bd, e0, hZ, findClass_of_methodNamed Bd.named, Fr.nil n0, O, Nat.le_of_eq (by rw [hh]), hM⟩ Bd.named
theorem o_core (w : o_Wk Z EL n0 own bytes maxL ret nm p l e R s m args below meth c T ms k n h) {k' n' : Nat} {ws : List Addr} {F : JFrame} {P : Heap → List Addr → JFrame → Prop} (hws : ∀ x ∈ ws, x ∈ ms)
    (f : ∀ (s' : State) (locs : List Loc), Stand p l e R s' m args below meth c T locs k n → T.heap = h → Z.Warmed39 s'.vm → s'.vm.findClass own = some m.cls →
      ∃ (T' : State) (h' : Heap) (L : List Loc) (new : List Addr) (F' : JFrame), Stand p l e R s' m args below meth c T' (locs ++ L) k' n' ∧ T'.heap = h' ∧ Keep h h' ws ∧ Fr n0 L ∧ (∀ x ∈ new, h.size ≤ x ∧ x < h'.size) ∧ P h' new F' ∧ ∀ t, Steps p.tables e below (T'.setTop F') t → Steps p.tables e below (T.setTop F) t)
    (g : ∀ (T' : State) (h' : Heap) (new : List Addr) (F' : JFrame), o_Wk Z EL n0 own bytes maxL ret nm p l e R s m args below meth c T' (new ++ ms) k' n' h' → Keep h h' ws → P h' new F' → o_Go Z EL n0 p e below s K N Q (T'.setTop F')) : o_Go Z EL n0 p e below s K N Q (T.setTop F) := by
  obtain ⟨h1, h2, h3, h4, h5, h6, locs, X, eT, hZ, hown, Nf, O, hsz, M⟩ := w
  obtain ⟨T', h', L, new, F', X', e', Kp, NL, hnew, hP, st'⟩ := f s locs X eT hZ.wide hown
  refine o_go st' (g T' h' new F' ⟨h1, h2, h3, h4, h5, h6, locs ++ L, X', e', hZ, hown, Nf.app NL, O.keep Kp (fun x hx => (M x (hws x hx)).1), Nat.le_trans hsz Kp.1, fun x hx => ?_⟩ Kp hP)
  rcases List.mem_append.mp hx with q | q
  · exact ⟨Nat.le_trans (Nat.le_trans (Nat.le_of_eq O.1.symm) O.2.1) (hnew x q).1, (hnew x q).2⟩
  · exact ⟨(M x q).1, Nat.lt_of_lt_of_le (M x q).2 Kp.1⟩
theorem o_coreL (w : o_Wk Z EL n0 own bytes maxL ret nm p l e R s m args below meth c T ms k n h) {k' n' : Nat} {ws : List Addr} {F : JFrame} {P : Heap → List Addr → JFrame → Prop} (hws : ∀ x ∈ ws, x ∈ ms)
    (f : ∀ (s' : State) (locs : List Loc), Stand p l e R s' m args below meth c T locs k n → T.heap = h → Z.Warmed39 s'.vm → s'.vm.findClass own = some m.cls → Fr n0 locs →
      ∃ (T' : State) (h' : Heap) (L : List Loc) (new : List Addr) (F' : JFrame), Stand p l e R s' m args below meth c T' L k' n' ∧ T'.heap = h' ∧ Keep h h' ws ∧ Fr n0 L ∧ (∀ x ∈ new, h.size ≤ x ∧ x < h'.size) ∧ P h' new F' ∧ ∀ t, Steps p.tables e below (T'.setTop F') t → Steps p.tables e below (T.setTop F) t)
    (g : ∀ (T' : State) (h' : Heap) (new : List Addr) (F' : JFrame), o_Wk Z EL n0 own bytes maxL ret nm p l e R s m args below meth c T' (new ++ ms) k' n' h' → Keep h h' ws → P h' new F' → o_Go Z EL n0 p e below s K N Q (T'.setTop F')) : o_Go Z EL n0 p e below s K N Q (T.setTop F) := by
  obtain ⟨h1, h2, h3, h4, h5, h6, locs, X, eT, hZ, hown, Nf, O, hsz, M⟩ := w
  obtain ⟨T', h', L, new, F', X', e', Kp, NL, hnew, hP, st'⟩ := f s locs X eT hZ.wide hown Nf
  refine o_go st' (g T' h' new F' ⟨h1, h2, h3, h4, h5, h6, L, X', e', hZ, hown, NL, O.keep Kp (fun x hx => (M x (hws x hx)).1), Nat.le_trans hsz Kp.1, fun x hx => ?_⟩ Kp hP)
  rcases List.mem_append.mp hx with q | q
  · exact ⟨Nat.le_trans (Nat.le_trans (Nat.le_of_eq O.1.symm) O.2.1) (hnew x q).1, (hnew x q).2⟩
  · exact ⟨(M x q).1, Nat.lt_of_lt_of_le (M x q).2 Kp.1⟩
theorem o_pure (w : o_Wk Z EL n0 own bytes maxL ret nm p l e R s m args below meth c T ms k n h) {F F' : JFrame} (f : ∀ (s' : State) (locs : List Loc), Stand p l e R s' m args below meth c T locs k n → T.heap = h → Z.Warmed39 s'.vm → s'.vm.findClass own = some m.cls → ∀ t, Steps p.tables e below (T.setTop F') t → Steps p.tables e below (T.setTop F) t) (g : o_Go Z EL n0 p e below s K N Q (T.setTop F')) : o_Go Z EL n0 p e below s K N Q (T.setTop F) := by
  obtain ⟨h1, h2, h3, h4, h5, h6, locs, X, eT, hZ, hown, Nf, O, hsz, M⟩ := w
  exact o_go (f s locs X eT hZ.wide hown) g
theorem o_retV (w : o_Wk Z EL n0 own bytes maxL ret nm p l e R s m args below meth c T ms k n h) {t : FieldType} {i : Instr} {v : Value} (hret : ret = some t) (hv : narrow t v = v)
    (hi : (i = .ireturn ∧ (t = .int ∨ t = .boolean ∨ t = .byte ∨ t = .char ∨ t = .short) ∧ ∃ z, v = .int z) ∨ (i = .lreturn ∧ t = .long ∧ ∃ z, v = .long z) ∨ (i = .dreturn ∧ t = .double ∧ ∃ z, v = .double z) ∨ (i = .freturn ∧ t = .float ∧ ∃ z, v = .float z) ∨ (i = .areturn ∧ t.isReference = true ∧ v.isRef = true))
    (hd : decode bytes pc = .ok (i, 1)) (hk : k ≤ K) (hn : n ≤ N) {ms' : List Addr} (hm : ∀ x ∈ ms', x ∈ ms) (hQ : Q (some v) h ms') : o_Go Z EL n0 p e below s K N Q (T.setTop (mkF m pc Ls (v :: st))) := by
  obtain ⟨h1, h2, h3, h4, h5, h6, locs, X, eT, hZ, hown, Nf, O, hsz, M⟩ := w
  obtain ⟨fs, hr, hrun, hended, hW, hsame⟩ := X.leave (v := some v) (fun q => by rw [h4, hret] at q; cases q) h5
  subst eT
  exact ⟨_, _, retOut X h1 (h4.trans hret) hv hi (h2 ▸ hd) hr, hrun, hended, _, locs, ms', rfl, hQ, Nf, O, fun x hx => M x (hm x hx), hsz, ⟨_, rfl⟩, hW, hsame.mono hk hn⟩
theorem o_ret0 (w : o_Wk Z EL n0 own bytes maxL ret nm p l e R s m args below meth c T ms k n h) (hret : ret = none) (hd : decode bytes pc = .ok (.return_, 1)) (hk : k ≤ K) (hn : n ≤ N) {ms' : List Addr} (hm : ∀ x ∈ ms', x ∈ ms) (hQ : Q none h ms') : o_Go Z EL n0 p e below s K N Q (T.setTop (mkF m pc Ls [])) := by
  obtain ⟨h1, h2, h3, h4, h5, h6, locs, X, eT, hZ, hown, Nf, O, hsz, M⟩ := w
  obtain ⟨fs, hr, hrun, hended, hW, hsame⟩ := X.leave (v := none) (fun _ => rfl) h5
  subst eT
  exact ⟨_, _, X.returnOut h1 (h4.trans hret) (h2 ▸ hd) hr, hrun, hended, _, locs, ms', rfl, hQ, Nf, O, fun x hx => M x (hm x hx), hsz, ⟨_, rfl⟩, hW, hsame.mono hk hn⟩
theorem o_back {y : MethodName} {bytes' : ByteArray} {maxL' : Nat} {ret' : Option FieldType} {rm' : Room} {as' : Array Value} {ms0 : List Addr} {Q' : Option Value → Heap → List Addr → Prop} {len W : Nat} {vmx : Vm}
    (ct : o_Ct l Z EL n0 y bytes' maxL' ret' [] rm' as' h ms0 Q') (hZ : Z.WarmedH s.vm) (wc : (Jvm.Cond.code y bytes' maxL' ret').before a0 Z = true) (wz : (Jvm.Cond.initialized y.cls).before a0 Z = true) (hM : o_Mine Z EL n0 vmx h ms0) (hf : rm'.frames + 1 ≤ R.frames) (hl : W + (maxL' + 11) + rm'.locals ≤ R.locals) :
    Back l R p e below s args y len W (fun A a => a = as' ∧ A.U.heap = h ∧ A.cells + rm'.cells ≤ R.cells ∧ A.slots + rm'.slots ≤ R.slots)
      (fun A _ v B => ∃ L ms', Q' v B.U.heap ms' ∧ Fr n0 L ∧ Old Z n0 B.U.heap ∧ o_Mine Z EL n0 B.U.vm B.U.heap ms' ∧ h.size ≤ B.U.heap.size ∧ B.locs = A.locs ++ L ∧ B.cells = A.cells + rm'.cells ∧ B.slots = A.slots + rm'.slots) :=
  Back.of_free (bytes := bytes') (maxL := maxL') (ret := ret') (E := fun _ first o t L k n => k = rm'.cells ∧ n = rm'.slots ∧ ∃ v ms', o = .returned v ∧ Q' v t.heap ms' ∧ Fr n0 L ∧ Old Z n0 t.heap ∧ o_Mine Z EL n0 t.vm t.heap ms' ∧ first.heap.size ≤ t.heap.size) ct hf hl
    (fun m meth c A a Y hp => have hU : Z.Warmed39 A.U.vm := (State.WarmedH.trans hZ Y.warmed).wide
      ⟨by show (Jvm.Cond.and _ .tt).before a A.U = true; rw [Cond.before_and, mv hU wc]; rfl, mv hU wc, mv hU wz, hp.2.2.1, hp.2.2.2⟩)
    (fun m meth c A a g mk Y hp => ⟨hp.1, State.WarmedH.trans hZ Y.warmed, hp.2.1, hM⟩) (fun _ _ _ _ _ _ _ _ _ => trivial)
    (fun _ _ _ _ ⟨v, L, ms', h1, h2, h3, h4, h5, h6, h7⟩ => ⟨L, _, _, h7, rfl, rfl, v, ms', h1, h2, h3, h4, h5, h6⟩)
    (fun m meth c A a g mk v t L k n Y hp _ _ ⟨e1, e2, v', ms', e3, e4, e5, e6, e7, e8⟩ => by cases e3; subst e1 e2; exact ⟨L, ms', e4, e5, e6, e7, by rw [← hp.2.1]; exact e8, rfl, rfl, rfl⟩)
theorem o_callS (w : o_Wk Z EL n0 own bytes maxL ret nm p l e R s m args below meth c T ms k n h) {idx : Nat} {y : MethodName} {bytes' : ByteArray} {maxL' : Nat} {ret' : Option FieldType} {rm' : Room} {argsL rest : List Value} {ms0 : List Addr} {Q' : Option Value → Heap → List Addr → Prop} {ps : List FieldType} {rt : Option FieldType}
    (wl : (Jvm.Cond.methodLink own idx y).before a0 Z = true) (wt : (Jvm.Cond.static y).before a0 Z = true) (wz : (Jvm.Cond.initialized y.cls).before a0 Z = true) (wc : (Jvm.Cond.code y bytes' maxL' ret').before a0 Z = true) (hy : y.cls ≠ "java/lang/invoke/MethodHandle" ∧ y.cls ≠ "java/lang/invoke/VarHandle")
    (ct : o_Ct l Z EL n0 y bytes' maxL' ret' [] rm' argsL.toArray h ms0 Q') (hms : ∀ x ∈ ms0, x ∈ ms) (hst : st = argsL.reverse ++ rest) (hsz : Ls.size = maxL) (hpd : parseMethodDescriptor y.desc = some ⟨ps, rt⟩) (hln : argsL.length = ps.length) (hd : decode bytes pc = .ok (.invokestatic idx, 3)) (hp : pc + 3 = pc')
    (hf : rm'.frames + 1 ≤ R.frames) {W : Nat} (hW : (rest.map fun v => v.category).sum = W) (hl : W + (maxL' + 11) + rm'.locals ≤ R.locals) (hc : k + rm'.cells ≤ R.cells) (hn : n + rm'.slots ≤ R.slots)
    (g : ∀ (T' : State) (h' : Heap) (v : Option Value) (ms' : List Addr), o_Wk Z EL n0 own bytes maxL ret nm p l e R s m args below meth c T' (ms' ++ ms) (k + rm'.cells) (n + rm'.slots) h' → Q' v h' ms' → o_Go Z EL n0 p e below s K N Q (T'.setTop (mkF m pc' Ls (v.toList ++ rest)))) :
    o_Go Z EL n0 p e below s K N Q (T.setTop (mkF m pc Ls st)) := by
  subst hp hst
  obtain ⟨h1, h2, h3, h4, h5, h6, locs, X, eT, hZ, hown, Nf, O, hs0, M⟩ := w
  obtain ⟨v, _, ⟨T', L', k', n'⟩, -, X', ⟨L, ms', hQ, NL, O', M', hgr, l1, l2, l3⟩, st'⟩ := Jvm.LawKit.callS X h1 (y := y) hown (mvT hZ.wide wl) (mvT hZ.wide wt) (mvT hZ.wide wz) (mvT hZ.wide wc) hy (o_back (vmx := T.vm) (W := W) ct hZ wc wz (fun x hx => M x (hms x hx)) hf hl)
    (g := mkF m pc Ls (argsL.reverse ++ rest)) rfl (by rw [h3]; exact hsz) (argsL := argsL) (rest := rest) (lenOf hpd hln) rfl (by show 2 * 0 + _ ≤ _; rw [hW]; omega) (h2 ▸ hd) (fun _ _ => ⟨rfl, eT, hc, hn⟩)
  dsimp only [Pt.U, Pt.locs, Pt.cells, Pt.slots] at X' hQ O' M' hgr l1 l2 l3 st'
  subst l1 l2 l3
  refine o_go st' (g T' _ v ms' ⟨h1, h2, h3, h4, h5, h6, locs ++ L, X', rfl, hZ, hown, Nf.app NL, O', Nat.le_trans hs0 hgr, fun x hx => ?_⟩ hQ)
  rcases List.mem_append.mp hx with q | q
  · exact M' x q
  · exact ⟨(M x q).1, Nat.lt_of_lt_of_le (M x q).2 hgr⟩
theorem o_callI (w : o_Wk Z EL n0 own bytes maxL ret nm p l e R s m args below meth c T ms k n h) {idx : Nat} {y : MethodName} {bytes' : ByteArray} {maxL' : Nat} {rm' : Room} {argsL rest : List Value} {ms0 : List Addr} {Q' : Option Value → Heap → List Addr → Prop} {ps : List FieldType} {rt : Option FieldType}
    (hy1 : y.name = "<init>") (wl : (Jvm.Cond.methodLink own idx y).before a0 Z = true) (wt : (Jvm.Cond.instanceMethod y).before a0 Z = true) (wz : (Jvm.Cond.initialized y.cls).before a0 Z = true) (wc : (Jvm.Cond.code y bytes' maxL' none).before a0 Z = true) (hy : y.cls ≠ "java/lang/invoke/MethodHandle" ∧ y.cls ≠ "java/lang/invoke/VarHandle")
    (ct : o_Ct l Z EL n0 y bytes' maxL' none [] rm' (.ref a :: argsL).toArray h ms0 Q') (hms : ∀ x ∈ ms0, x ∈ ms) (hst : st = argsL.reverse ++ .ref a :: rest) (hsz : Ls.size = maxL) (hpd : parseMethodDescriptor y.desc = some ⟨ps, rt⟩) (hln : argsL.length = ps.length) (hd : decode bytes pc = .ok (.invokespecial idx, 3)) (hp : pc + 3 = pc')
    (hf : rm'.frames + 1 ≤ R.frames) {W : Nat} (hW : (rest.map fun v => v.category).sum = W) (hl : W + (maxL' + 11) + rm'.locals ≤ R.locals) (hc : k + rm'.cells ≤ R.cells) (hn : n + rm'.slots ≤ R.slots)
    (g : ∀ (T' : State) (h' : Heap) (v : Option Value) (ms' : List Addr), o_Wk Z EL n0 own bytes maxL ret nm p l e R s m args below meth c T' (ms' ++ ms) (k + rm'.cells) (n + rm'.slots) h' → Q' v h' ms' → o_Go Z EL n0 p e below s K N Q (T'.setTop (mkF m pc' Ls (v.toList ++ rest)))) :
    o_Go Z EL n0 p e below s K N Q (T.setTop (mkF m pc Ls st)) := by
  subst hp hst
  obtain ⟨h1, h2, h3, h4, h5, h6, locs, X, eT, hZ, hown, Nf, O, hs0, M⟩ := w
  obtain ⟨v, _, ⟨T', L', k', n'⟩, -, X', ⟨L, ms', hQ, NL, O', M', hgr, l1, l2, l3⟩, st'⟩ := X.specialBack h1 (y := y) hy1 hown (mvT hZ.wide wl) (mvT hZ.wide wt) (mvT hZ.wide wc) hy (o_back (vmx := T.vm) (W := W) ct hZ wc wz (fun x hx => M x (hms x hx)) hf hl)
    (g := mkF m pc Ls (argsL.reverse ++ .ref a :: rest)) rfl (by rw [h3]; exact hsz) (Steps.refl _) (a := a) (argsL := argsL) (rest := rest) (lenOf hpd hln) rfl (by show 2 * 0 + _ ≤ _; rw [hW]; omega) (h2 ▸ hd) (fun _ _ => ⟨rfl, eT, hc, hn⟩)
  dsimp only [Pt.U, Pt.locs, Pt.cells, Pt.slots] at X' hQ O' M' hgr l1 l2 l3 st'
  subst l1 l2 l3
  refine o_go (fun _ q => st'.trans q) (g T' _ v ms' ⟨h1, h2, h3, h4, h5, h6, locs ++ L, X', rfl, hZ, hown, Nf.app NL, O', Nat.le_trans hs0 hgr, fun x hx => ?_⟩ hQ)
  rcases List.mem_append.mp hx with q | q
  · exact M' x q
  · exact ⟨(M x q).1, Nat.lt_of_lt_of_le (M x q).2 hgr⟩
theorem o_callV (w : o_Wk Z EL n0 own bytes maxL ret nm p l e R s m args below meth c T ms k n h) {idx : Nat} {C : String} {y z : MethodName} {bytes' : ByteArray} {maxL' : Nat} {ret' : Option FieldType} {rm' : Room} {argsL rest : List Value} {ms0 : List Addr} {Q' : Option Value → Heap → List Addr → Prop} {ps : List FieldType} {rt : Option FieldType}
    (wl : (Jvm.Cond.methodLink own idx y).before a0 Z = true) (wd : (Jvm.Cond.declares y).before a0 Z = true) (hnf : ∀ s' : State, Z.Warmed39 s'.vm → NotFace s' y) (ws : (Jvm.Cond.selects C y z).before a0 Z = true) (wt : (Jvm.Cond.instanceMethod z).before a0 Z = true) (wz : (Jvm.Cond.initialized z.cls).before a0 Z = true) (wc : (Jvm.Cond.code z bytes' maxL' ret').before a0 Z = true) (hy : y.cls ≠ "java/lang/invoke/MethodHandle" ∧ y.cls ≠ "java/lang/invoke/VarHandle")
    (E : Exa Z h a C) (ct : o_Ct l Z EL n0 z bytes' maxL' ret' [] rm' (.ref a :: argsL).toArray h ms0 Q') (hms : ∀ x ∈ ms0, x ∈ ms) (hst : st = argsL.reverse ++ .ref a :: rest) (hsz : Ls.size = maxL) (hpd : parseMethodDescriptor y.desc = some ⟨ps, rt⟩) (hln : argsL.length = ps.length) (hd : decode bytes pc = .ok (.invokevirtual idx, 3)) (hp : pc + 3 = pc')
    (hf : rm'.frames + 1 ≤ R.frames) {W : Nat} (hW : (rest.map fun v => v.category).sum = W) (hl : W + (maxL' + 11) + rm'.locals ≤ R.locals) (hc : k + rm'.cells ≤ R.cells) (hn : n + rm'.slots ≤ R.slots)
    (g : ∀ (T' : State) (h' : Heap) (v : Option Value) (ms' : List Addr), o_Wk Z EL n0 own bytes maxL ret nm p l e R s m args below meth c T' (ms' ++ ms) (k + rm'.cells) (n + rm'.slots) h' → Q' v h' ms' → o_Go Z EL n0 p e below s K N Q (T'.setTop (mkF m pc' Ls (v.toList ++ rest)))) :
    o_Go Z EL n0 p e below s K N Q (T.setTop (mkF m pc Ls st)) := by
  subst hp hst
  obtain ⟨h1, h2, h3, h4, h5, h6, locs, X, eT, hZ, hown, Nf, O, hs0, M⟩ := w
  obtain ⟨cq, kq, qa, qb, qc⟩ := isOf hZ.wide eT E
  obtain ⟨v, _, ⟨T', L', k', n'⟩, -, X', ⟨L, ms', hQ, NL, O', M', hgr, l1, l2, l3⟩, st'⟩ := X.virtualBack h1 (y := y) (z := z) hown (mvT hZ.wide wl) (mvT hZ.wide wd) (hnf _ hZ.wide) (mvT hZ.wide ws) (mvT hZ.wide wt) hy (o_back (vmx := T.vm) (W := W) ct hZ wc wz (fun x hx => M x (hms x hx)) hf hl) qa qc
    (g := mkF m pc Ls (argsL.reverse ++ .ref a :: rest)) rfl (by rw [h3]; exact hsz) (Steps.refl _) (argsL := argsL) (rest := rest) (lenOf hpd hln) rfl (by show 2 * 0 + _ ≤ _; rw [hW]; omega) (h2 ▸ hd) (fun _ _ => ⟨rfl, eT, hc, hn⟩)
  dsimp only [Pt.U, Pt.locs, Pt.cells, Pt.slots] at X' hQ O' M' hgr l1 l2 l3 st'
  subst l1 l2 l3
  refine o_go (fun _ q => st'.trans q) (g T' _ v ms' ⟨h1, h2, h3, h4, h5, h6, locs ++ L, X', rfl, hZ, hown, Nf.app NL, O', Nat.le_trans hs0 hgr, fun x hx => ?_⟩ hQ)
  rcases List.mem_append.mp hx with q | q
  · exact M' x q
  · exact ⟨(M x q).1, Nat.lt_of_lt_of_le (M x q).2 hgr⟩
theorem o_ifk {C n d : String} (h : C ≠ "java/lang/invoke/MethodHandle" ∧ C ≠ "java/lang/invoke/VarHandle") : ((Jvm.Cond.interfaceMethod C C n d).onTables && (Jvm.Cond.interfaceMethod C C n d).keepsFace) = true := by
  show (true && (false || (C == C && C != "java/lang/invoke/MethodHandle" && C != "java/lang/invoke/VarHandle"))) = true
  simp [h.1, h.2]
theorem o_aloadN (w : o_Wk Z EL n0 own bytes maxL ret nm p l e R s m args below meth c T ms k n h) {kk : Fin 4} {v : Value} (hd : decode bytes pc = .ok (.aload_n kk, 1)) (hl : Ls[kk.val]? = some (.val v)) (hv : v.isRef = true) (hp : pc + 1 = pc') (g : o_Go Z EL n0 p e below s K N Q (T.setTop (mkF m pc' Ls (v :: st)))) : o_Go Z EL n0 p e below s K N Q (T.setTop (mkF m pc Ls st)) := by
  subst hp; exact o_go (fun _ q => XS.aloadN (o_here w) w.1 rfl (o_dec w hd) hl hv q) g
theorem o_aload (w : o_Wk Z EL n0 own bytes maxL ret nm p l e R s m args below meth c T ms k n h) {kk : Nat} {v : Value} (hd : decode bytes pc = .ok (.aload kk, 2)) (hl : Ls[kk]? = some (.val v)) (hv : v.isRef = true) (hp : pc + 2 = pc') (g : o_Go Z EL n0 p e below s K N Q (T.setTop (mkF m pc' Ls (v :: st)))) : o_Go Z EL n0 p e below s K N Q (T.setTop (mkF m pc Ls st)) := by
  subst hp; exact o_go (fun _ q => XS.aload (o_here w) w.1 rfl (o_dec w hd) hl hv q) g
theorem o_iloadN (w : o_Wk Z EL n0 own bytes maxL ret nm p l e R s m args below meth c T ms k n h) {kk : Fin 4} {v : Int32} (hd : decode bytes pc = .ok (.iload_n kk, 1)) (hl : Ls[kk.val]? = some (.val (.int v))) (hp : pc + 1 = pc') (g : o_Go Z EL n0 p e below s K N Q (T.setTop (mkF m pc' Ls (.int v :: st)))) : o_Go Z EL n0 p e below s K N Q (T.setTop (mkF m pc Ls st)) := by
  subst hp; exact o_go (fun _ q => XS.iloadN (o_here w) w.1 rfl (o_dec w hd) hl q) g
theorem o_iload (w : o_Wk Z EL n0 own bytes maxL ret nm p l e R s m args below meth c T ms k n h) {kk : Nat} {v : Int32} (hd : decode bytes pc = .ok (.iload kk, 2)) (hl : Ls[kk]? = some (.val (.int v))) (hp : pc + 2 = pc') (g : o_Go Z EL n0 p e below s K N Q (T.setTop (mkF m pc' Ls (.int v :: st)))) : o_Go Z EL n0 p e below s K N Q (T.setTop (mkF m pc Ls st)) := by
  subst hp; exact o_go (fun _ q => XS.iload (o_here w) w.1 rfl (o_dec w hd) hl q) g
theorem o_istoreN (w : o_Wk Z EL n0 own bytes maxL ret nm p l e R s m args below meth c T ms k n h) {kk : Fin 4} {x : Int32} (hd : decode bytes pc = .ok (.istore_n kk, 1)) (hl : storeLocals Ls kk.val (.int x) = some Ls') (hp : pc + 1 = pc') (g : o_Go Z EL n0 p e below s K N Q (T.setTop (mkF m pc' Ls' st))) : o_Go Z EL n0 p e below s K N Q (T.setTop (mkF m pc Ls (.int x :: st))) := by
  subst hp; exact o_go (fun _ q => XS.istoreN (o_here w) w.1 rfl (o_dec w hd) rfl hl q) g
theorem o_istore (w : o_Wk Z EL n0 own bytes maxL ret nm p l e R s m args below meth c T ms k n h) {kk : Nat} {x : Int32} (hd : decode bytes pc = .ok (.istore kk, 2)) (hl : storeLocals Ls kk (.int x) = some Ls') (hp : pc + 2 = pc') (g : o_Go Z EL n0 p e below s K N Q (T.setTop (mkF m pc' Ls' st))) : o_Go Z EL n0 p e below s K N Q (T.setTop (mkF m pc Ls (.int x :: st))) := by
  subst hp; exact o_go (fun _ q => XS.istore (o_here w) w.1 rfl (o_dec w hd) rfl hl q) g
theorem o_astoreN (w : o_Wk Z EL n0 own bytes maxL ret nm p l e R s m args below meth c T ms k n h) {kk : Fin 4} {x : Value} (hd : decode bytes pc = .ok (.astore_n kk, 1)) (hv : x.isRef = true) (hl : storeLocals Ls kk.val x = some Ls') (hp : pc + 1 = pc') (g : o_Go Z EL n0 p e below s K N Q (T.setTop (mkF m pc' Ls' st))) : o_Go Z EL n0 p e below s K N Q (T.setTop (mkF m pc Ls (x :: st))) := by
  subst hp; exact o_go (fun _ q => XS.astoreN (o_here w) w.1 rfl (o_dec w hd) rfl hv hl q) g
theorem o_astore (w : o_Wk Z EL n0 own bytes maxL ret nm p l e R s m args below meth c T ms k n h) {kk : Nat} {x : Value} (hd : decode bytes pc = .ok (.astore kk, 2)) (hv : x.isRef = true) (hl : storeLocals Ls kk x = some Ls') (hp : pc + 2 = pc') (g : o_Go Z EL n0 p e below s K N Q (T.setTop (mkF m pc' Ls' st))) : o_Go Z EL n0 p e below s K N Q (T.setTop (mkF m pc Ls (x :: st))) := by
  subst hp; exact o_go (fun _ q => XS.astore (o_here w) w.1 rfl (o_dec w hd) rfl hv hl q) g
theorem o_iconst (w : o_Wk Z EL n0 own bytes maxL ret nm p l e R s m args below meth c T ms k n h) {i : Int} {x : Int32} (hd : decode bytes pc = .ok (.iconst i, 1)) (hi : Int32.ofInt i = x) (hp : pc + 1 = pc') (g : o_Go Z EL n0 p e below s K N Q (T.setTop (mkF m pc' Ls (.int x :: st)))) : o_Go Z EL n0 p e below s K N Q (T.setTop (mkF m pc Ls st)) := by
  subst hp hi; exact o_go (fun _ q => XS.iconst (o_here w) w.1 rfl (o_dec w hd)  q) g
theorem o_bipush (w : o_Wk Z EL n0 own bytes maxL ret nm p l e R s m args below meth c T ms k n h) {i : Int} {x : Int32} (hd : decode bytes pc = .ok (.bipush i, 2)) (hi : (Int8.ofInt i).toInt32 = x) (hp : pc + 2 = pc') (g : o_Go Z EL n0 p e below s K N Q (T.setTop (mkF m pc' Ls (.int x :: st)))) : o_Go Z EL n0 p e below s K N Q (T.setTop (mkF m pc Ls st)) := by
  subst hp hi; exact o_go (fun _ q => XS.bipush (o_here w) w.1 rfl (o_dec w hd)  q) g
theorem o_sipush (w : o_Wk Z EL n0 own bytes maxL ret nm p l e R s m args below meth c T ms k n h) {i : Int} {x : Int32} (hd : decode bytes pc = .ok (.sipush i, 3)) (hi : (Int16.ofInt i).toInt32 = x) (hp : pc + 3 = pc') (g : o_Go Z EL n0 p e below s K N Q (T.setTop (mkF m pc' Ls (.int x :: st)))) : o_Go Z EL n0 p e below s K N Q (T.setTop (mkF m pc Ls st)) := by
  subst hp hi; exact o_go (fun _ q => XS.sipush (o_here w) w.1 rfl (o_dec w hd)  q) g
theorem o_iadd (w : o_Wk Z EL n0 own bytes maxL ret nm p l e R s m args below meth c T ms k n h) {x y z : Int32} (hd : decode bytes pc = .ok (.iadd, 1)) (hz : x + y = z) (hp : pc + 1 = pc') (g : o_Go Z EL n0 p e below s K N Q (T.setTop (mkF m pc' Ls (.int z :: st)))) : o_Go Z EL n0 p e below s K N Q (T.setTop (mkF m pc Ls (.int y :: .int x :: st))) := by
  subst hp hz; exact o_go (fun _ q => XS.iadd (o_here w) w.1 rfl (o_dec w hd) rfl q) g
theorem o_imul (w : o_Wk Z EL n0 own bytes maxL ret nm p l e R s m args below meth c T ms k n h) {x y z : Int32} (hd : decode bytes pc = .ok (.imul, 1)) (hz : x * y = z) (hp : pc + 1 = pc') (g : o_Go Z EL n0 p e below s K N Q (T.setTop (mkF m pc' Ls (.int z :: st)))) : o_Go Z EL n0 p e below s K N Q (T.setTop (mkF m pc Ls (.int y :: .int x :: st))) := by
  subst hp hz; exact o_go (fun _ q => XS.imul (o_here w) w.1 rfl (o_dec w hd) rfl q) g
theorem o_iand (w : o_Wk Z EL n0 own bytes maxL ret nm p l e R s m args below meth c T ms k n h) {x y z : Int32} (hd : decode bytes pc = .ok (.iand, 1)) (hz : x &&& y = z) (hp : pc + 1 = pc') (g : o_Go Z EL n0 p e below s K N Q (T.setTop (mkF m pc' Ls (.int z :: st)))) : o_Go Z EL n0 p e below s K N Q (T.setTop (mkF m pc Ls (.int y :: .int x :: st))) := by
  subst hp hz; exact o_go (fun _ q => XS.iand (o_here w) w.1 rfl (o_dec w hd) rfl q) g
theorem o_iushr (w : o_Wk Z EL n0 own bytes maxL ret nm p l e R s m args below meth c T ms k n h) {x y z : Int32} (hd : decode bytes pc = .ok (.iushr, 1)) (hz : XT.ushr x y = z) (hp : pc + 1 = pc') (g : o_Go Z EL n0 p e below s K N Q (T.setTop (mkF m pc' Ls (.int z :: st)))) : o_Go Z EL n0 p e below s K N Q (T.setTop (mkF m pc Ls (.int y :: .int x :: st))) := by
  subst hp hz; exact o_go (fun _ q => XT.iushr (o_here w) w.1 rfl (o_dec w hd) rfl q) g
theorem o_irem (w : o_Wk Z EL n0 own bytes maxL ret nm p l e R s m args below meth c T ms k n h) {x y z : Int32} (hd : decode bytes pc = .ok (.irem, 1)) (hy : y ≠ 0) (hz : x - (x / y) * y = z) (hp : pc + 1 = pc') (g : o_Go Z EL n0 p e below s K N Q (T.setTop (mkF m pc' Ls (.int z :: st)))) : o_Go Z EL n0 p e below s K N Q (T.setTop (mkF m pc Ls (.int y :: .int x :: st))) := by
  subst hp hz; exact o_go (fun _ q => XS.irem (o_here w) w.1 rfl (o_dec w hd) rfl hy q) g
theorem o_dup (w : o_Wk Z EL n0 own bytes maxL ret nm p l e R s m args below meth c T ms k n h) {x : Value} (hd : decode bytes pc = .ok (.dup, 1)) (hc : x.category = 1) (hp : pc + 1 = pc') (g : o_Go Z EL n0 p e below s K N Q (T.setTop (mkF m pc' Ls (x :: x :: st)))) : o_Go Z EL n0 p e below s K N Q (T.setTop (mkF m pc Ls (x :: st))) := by
  subst hp; exact o_go (fun _ q => XS.dup (o_here w) w.1 rfl (o_dec w hd) rfl hc q) g
theorem o_xX2 {tb : Tables} [Ours tb] {e : Env} {below : List Frame} {T target : State} {m : MethodId} {c : Code} {g : JFrame} (h : At T m c below) (hx : tb.exec = Jvm.exec) (hg : g.method = m) {x y z : Value} {rest : List Value} (hd : decode c.code g.pc = .ok (.dup_x2, 1)) (hs : g.stack = x :: y :: z :: rest) (hc : x.category = 1) (hc' : y.category = 1) (hc2 : z.category = 1)
    (hr : Steps tb e below (T.setTop { g with pc := g.pc + 1, stack := x :: y :: z :: x :: rest }) target) : Steps tb e below (T.setTop g) target := by
  subst hg
  jvm_step h [h.top, hx, hd, hs, hc, hc', hc2, dup_x2.wp_sem]
  exact hr
theorem o_dupX2 (w : o_Wk Z EL n0 own bytes maxL ret nm p l e R s m args below meth c T ms k n h) {x y z : Value} (hd : decode bytes pc = .ok (.dup_x2, 1)) (hc : x.category = 1) (hc' : y.category = 1) (hc2 : z.category = 1) (hp : pc + 1 = pc') (g : o_Go Z EL n0 p e below s K N Q (T.setTop (mkF m pc' Ls (x :: y :: z :: x :: st)))) : o_Go Z EL n0 p e below s K N Q (T.setTop (mkF m pc Ls (x :: y :: z :: st))) := by
  subst hp; exact o_go (fun _ q => o_xX2 (o_here w) w.1 rfl (o_dec w hd) rfl hc hc' hc2 q) g
theorem o_dup2 (w : o_Wk Z EL n0 own bytes maxL ret nm p l e R s m args below meth c T ms k n h) {x y : Value} (hd : decode bytes pc = .ok (.dup2, 1)) (hc : x.category = 1) (hc' : y.category = 1) (hp : pc + 1 = pc') (g : o_Go Z EL n0 p e below s K N Q (T.setTop (mkF m pc' Ls (x :: y :: x :: y :: st)))) : o_Go Z EL n0 p e below s K N Q (T.setTop (mkF m pc Ls (x :: y :: st))) := by
  subst hp; exact o_go (fun _ q => XT.dup2 (o_here w) w.1 rfl (o_dec w hd) rfl hc hc' q) g
theorem o_iinc (w : o_Wk Z EL n0 own bytes maxL ret nm p l e R s m args below meth c T ms k n h) {kk : Nat} {cst : Int} {x y : Int32} (hd : decode bytes pc = .ok (.iinc kk cst, 3)) (hl : Ls[kk]? = some (.val (.int x))) (hy : x + Int32.ofInt cst = y) (hl' : storeLocals Ls kk (.int y) = some Ls') (hp : pc + 3 = pc') (g : o_Go Z EL n0 p e below s K N Q (T.setTop (mkF m pc' Ls' st))) : o_Go Z EL n0 p e below s K N Q (T.setTop (mkF m pc Ls st)) := by
  subst hp hy; exact o_go (fun _ q => XS.iinc (o_here w) w.1 rfl (o_dec w hd) hl hl' q) g
theorem o_goto (w : o_Wk Z EL n0 own bytes maxL ret nm p l e R s m args below meth c T ms k n h) {o : Int} (hd : decode bytes pc = .ok (.goto o, 3)) (ho : 0 ≤ (pc : Int) + o) (hp : ((pc : Int) + o).toNat = pc') (g : o_Go Z EL n0 p e below s K N Q (T.setTop (mkF m pc' Ls st))) : o_Go Z EL n0 p e below s K N Q (T.setTop (mkF m pc Ls st)) := o_go (fun _ q => XS.goto (o_here w) w.1 rfl (pc0 := pc) rfl (o_dec w hd) ho hp q) g
def o_cT (cd : ClassFile.Cond) (x y : Int32) : Prop := match cd with | .eq => x = y | .ne => ¬ x = y | .lt => x < y | .ge => ¬ x < y | .gt => y < x | .le => ¬ y < x
def o_cF (cd : ClassFile.Cond) (x y : Int32) : Prop := match cd with | .eq => ¬ x = y | .ne => x = y | .lt => ¬ x < y | .ge => x < y | .gt => ¬ y < x | .le => y < x
theorem o_cond (cd : ClassFile.Cond) (x y : Int32) : (o_cT cd x y ∧ if_icmp.holds cd x y = true) ∨ (o_cF cd x y ∧ if_icmp.holds cd x y = false) := by
  cases cd
  · by_cases q : x = y
    · exact Or.inl ⟨q, (teq q).1⟩
    · exact Or.inr ⟨q, (feq q).1⟩
  · by_cases q : x = y
    · exact Or.inr ⟨q, (teq q).2⟩
    · exact Or.inl ⟨q, (feq q).2⟩
  · by_cases q : x < y
    · exact Or.inl ⟨q, (tlt q).1⟩
    · exact Or.inr ⟨q, (flt q).1⟩
  · by_cases q : x < y
    · exact Or.inr ⟨q, (tlt q).2.1⟩
    · exact Or.inl ⟨q, (flt q).2.1⟩
  · by_cases q : y < x
    · exact Or.inl ⟨q, (tlt q).2.2.1⟩
    · exact Or.inr ⟨q, (flt q).2.2.1⟩
  · by_cases q : y < x
    · exact Or.inr ⟨q, (tlt q).2.2.2⟩
    · exact Or.inl ⟨q, (flt q).2.2.2⟩
theorem o_icmp (w : o_Wk Z EL n0 own bytes maxL ret nm p l e R s m args below meth c T ms k n h) {cd : ClassFile.Cond} {x y : Int32} {o : Int} {pcY : Nat} (hd : decode bytes pc = .ok (.if_icmp cd o, 3)) (hp : pc + 3 = pc') (ho : 0 ≤ (pc : Int) + o) (hq : ((pc : Int) + o).toNat = pcY) (gT : o_cT cd x y → o_Go Z EL n0 p e below s K N Q (T.setTop (mkF m pcY Ls st))) (gF : o_cF cd x y → o_Go Z EL n0 p e below s K N Q (T.setTop (mkF m pc' Ls st))) : o_Go Z EL n0 p e below s K N Q (T.setTop (mkF m pc Ls (.int y :: .int x :: st))) := by
  subst hp
  rcases o_cond cd x y with ⟨q, r⟩ | ⟨q, r⟩
  · exact o_go (fun _ z => XS.icmpYes (o_here w) w.1 rfl (pc0 := pc) rfl (o_dec w hd) rfl r ho hq z) (gT q)
  · exact o_go (fun _ z => XS.icmpNo (o_here w) w.1 rfl (o_dec w hd) rfl r z) (gF q)
theorem o_same (w : o_Wk Z EL n0 own bytes maxL ret nm p l e R s m args below meth c T ms k n h) {F F' : JFrame} (f : ∀ (s' : State) (locs : List Loc), Stand p l e R s' m args below meth c T locs k n → T.heap = h → Z.Warmed39 s'.vm → s'.vm.findClass own = some m.cls → ∃ T' : State, Stand p l e R s' m args below meth c T' locs k n ∧ T'.heap = h ∧ ∀ t, Steps p.tables e below (T'.setTop F') t → Steps p.tables e below (T.setTop F) t)
    (g : ∀ T' : State, o_Wk Z EL n0 own bytes maxL ret nm p l e R s m args below meth c T' ms k n h → o_Go Z EL n0 p e below s K N Q (T'.setTop F')) : o_Go Z EL n0 p e below s K N Q (T.setTop F) := by
  refine o_core w (k' := k) (n' := n) (ws := []) (P := fun h' new F'' => h' = h ∧ new = [] ∧ F'' = F') all0 (fun s' locs X eT hZ hown => ?_) (fun T' h' new F'' w' _ q => ?_)
  · obtain ⟨T', X', e', st'⟩ := f s' locs X eT hZ hown
    exact ⟨T', h, [], [], _, by rw [List.append_nil]; exact X', e', Keep.refl _ _, Fr.nil _, all0, ⟨rfl, rfl, rfl⟩, st'⟩
  · obtain ⟨rfl, rfl, rfl⟩ := q; exact g T' w'
theorem o_write (w : o_Wk Z EL n0 own bytes maxL ret nm p l e R s m args below meth c T ms k n h) {F F' : JFrame} {sl : Nat} {v : Value} (hm : a ∈ ms) (f : ∀ (s' : State) (locs : List Loc), Stand p l e R s' m args below meth c T locs k n → T.heap = h → Z.Warmed39 s'.vm → s'.vm.findClass own = some m.cls → ∃ (T' : State) (h' : Heap), Stand p l e R s' m args below meth c T' (locs ++ [⟨a, sl⟩]) k n ∧ T'.heap = h' ∧ Wr h h' a sl v ∧ ∀ t, Steps p.tables e below (T'.setTop F') t → Steps p.tables e below (T.setTop F) t)
    (g : ∀ (T' : State) (h' : Heap), o_Wk Z EL n0 own bytes maxL ret nm p l e R s m args below meth c T' ms k n h' → Wr h h' a sl v → o_Go Z EL n0 p e below s K N Q (T'.setTop F')) : o_Go Z EL n0 p e below s K N Q (T.setTop F) := by
  refine o_core w (k' := k) (n' := n) (ws := [a]) (P := fun h' new F'' => Wr h h' a sl v ∧ new = [] ∧ F'' = F') (allS hm all0) (fun s' locs X eT hZ hown => ?_) (fun T' h' new F'' w' _ q => ?_)
  · obtain ⟨T', h', X', e', W', st'⟩ := f s' locs X eT hZ hown
    exact ⟨T', h', [⟨a, sl⟩], [], _, X', e', Keep.of_wr W', (fun y hy => by cases List.mem_singleton.mp hy; exact (o_mine w a hm).1), all0, ⟨W', rfl, rfl⟩, st'⟩
  · obtain ⟨q, rfl, rfl⟩ := q; exact g T' h' w' q
theorem o_made (w : o_Wk Z EL n0 own bytes maxL ret nm p l e R s m args below meth c T ms k n h) {F : JFrame} {F' : Addr → JFrame} {k' n' : Nat} {P : Addr → Heap → Prop} (f : ∀ (s' : State) (locs : List Loc), Stand p l e R s' m args below meth c T locs k n → T.heap = h → Z.Warmed39 s'.vm → s'.vm.findClass own = some m.cls → ∃ (T' : State) (h' : Heap), Stand p l e R s' m args below meth c T' locs k' n' ∧ T'.heap = h' ∧ Ext h h' ∧ h.size < h'.size ∧ P h.size h' ∧ ∀ t, Steps p.tables e below (T'.setTop (F' h.size)) t → Steps p.tables e below (T.setTop F) t)
    (g : ∀ (T' : State) (h' : Heap) (a : Addr), h.size = a → o_Wk Z EL n0 own bytes maxL ret nm p l e R s m args below meth c T' (a :: ms) k' n' h' → Ext h h' → P a h' → o_Go Z EL n0 p e below s K N Q (T'.setTop (F' a))) : o_Go Z EL n0 p e below s K N Q (T.setTop F) := by
  refine o_core w (k' := k') (n' := n') (ws := []) (P := fun h' new F'' => Ext h h' ∧ P h.size h' ∧ new = [h.size] ∧ F'' = F' h.size) all0 (fun s' locs X eT hZ hown => ?_) (fun T' h' new F'' w' _ q => ?_)
  · obtain ⟨T', h', X', e', E', hlt, hP, st'⟩ := f s' locs X eT hZ hown
    exact ⟨T', h', [], [h.size], _, by rw [List.append_nil]; exact X', e', (Keep.refl _ _).ext E', Fr.nil _, allS ⟨Nat.le_refl _, hlt⟩ all0, ⟨E', hP, rfl, rfl⟩, st'⟩
  · obtain ⟨q1, q2, rfl, rfl⟩ := q; exact g T' h' _ rfl w' q1 q2
theorem o_getF (w : o_Wk Z EL n0 own bytes maxL ret nm p l e R s m args below meth c T ms k n h) {idx : Nat} {R0 O fn fd host : String} {v : Value} (wl : (Jvm.Cond.fieldLink own idx R0 fn fd).before a0 Z = true ∨ (Jvm.Cond.fieldLinkNest own idx R0 fn fd host).before a0 Z = true) (via : Via Z R0 O fn fd) (F : Fld Z h a O fn fd v) (hd : decode bytes pc = .ok (.getfield idx, 3)) (hp : pc + 3 = pc')
    (g : ∀ T' : State, o_Wk Z EL n0 own bytes maxL ret nm p l e R s m args below meth c T' ms k n h → o_Go Z EL n0 p e below s K N Q (T'.setTop (mkF m pc' Ls (v :: st)))) : o_Go Z EL n0 p e below s K N Q (T.setTop (mkF m pc Ls (.ref a :: st))) := by
  subst hp; exact o_same w (fun s' locs X eT hZ hown => getF X w.1 hZ hown wl via eT F (g := mkF m pc Ls (.ref a :: st)) rfl rfl (o_dec w hd)) g
theorem o_putF (w : o_Wk Z EL n0 own bytes maxL ret nm p l e R s m args below meth c T ms k n h) {idx kk : Nat} {R0 O fn fd host C : String} {v ov : Value} {ty : FieldType} (wl : (Jvm.Cond.fieldLink own idx R0 fn fd).before a0 Z = true ∨ (Jvm.Cond.fieldLinkNest own idx R0 fn fd host).before a0 Z = true) (via : Via Z R0 O fn fd) (hm : a ∈ ms) (F : Fld Z h a O fn fd ov) (E : Exa Z h a C) (L : (Jvm.Cond.lays C O fn fd).before a0 Z = true ∨ ((Jvm.Cond.laysFinal C O fn fd).before a0 Z = true ∧ own = O ∧ nm = "<init>")) (wi : (Jvm.Cond.instantiable C kk).before a0 Z = true)
    (hty : parseFieldDescriptor fd = some ty) (hn : narrow ty v = v) (hf : fits ty v = true) (hd : decode bytes pc = .ok (.putfield idx, 3)) (hp : pc + 3 = pc')
    (g : ∀ (T' : State) (h' : Heap), o_Wk Z EL n0 own bytes maxL ret nm p l e R s m args below meth c T' ms k n h' → Wr h h' a (RoadKit.slotOf Z O fn fd) v → o_Go Z EL n0 p e below s K N Q (T'.setTop (mkF m pc' Ls st))) : o_Go Z EL n0 p e below s K N Q (T.setTop (mkF m pc Ls (v :: .ref a :: st))) := by
  subst hp; exact o_write w hm (fun s' locs X eT hZ hown => putF X w.1 hZ hown wl via eT F E (L.imp id fun q => ⟨q.1, q.2.1, w.2.2.2.2.2.1.trans q.2.2⟩) wi hty hn hf (g := mkF m pc Ls (v :: .ref a :: st)) rfl rfl (o_dec w hd)) g
theorem o_newO (w : o_Wk Z EL n0 own bytes maxL ret nm p l e R s m args below meth c T ms k n h) {idx nn : Nat} {C : String} (wl : (Jvm.Cond.classLink own idx C).before a0 Z = true) (wi : (Jvm.Cond.instantiable C nn).before a0 Z = true) (wz : (Jvm.Cond.initialized C).before a0 Z = true) (hd : decode bytes pc = .ok (.new idx, 3)) (hp : pc + 3 = pc') (hc : k + 1 ≤ R.cells) (hl : n + nn ≤ R.slots)
    (g : ∀ (T' : State) (h' : Heap) (a : Addr), h.size = a → o_Wk Z EL n0 own bytes maxL ret nm p l e R s m args below meth c T' (a :: ms) (k + 1) (n + nn) h' → Ext h h' → (Exa Z h' a C ∧ (∀ {O fn fd : String} {ty : FieldType}, Laid Z a0 C O fn fd → parseFieldDescriptor fd = some ty → Fld Z h' a O fn fd (defaultValue ty))) → o_Go Z EL n0 p e below s K N Q (T'.setTop (mkF m pc' Ls (.ref a :: st)))) : o_Go Z EL n0 p e below s K N Q (T.setTop (mkF m pc Ls st)) := by
  subst hp; exact o_made w (F' := fun a => mkF m (pc + 3) Ls (.ref a :: st)) (fun s' locs X eT hZ hown => by
    obtain ⟨T', h', X', e', E', A', D', -, st'⟩ := newO X w.1 hZ hown wl wi wz eT (g := mkF m pc Ls st) rfl (o_dec w hd) hc hl
    exact ⟨T', h', X', e', E', A'.lt, ⟨A', D'⟩, st'⟩) g
theorem o_newP (w : o_Wk Z EL n0 own bytes maxL ret nm p l e R s m args below meth c T ms k n h) {aty : ArrayType} {z : Int32} {cap : Nat} {vs : List Value} {dv : Value} (wl : (Jvm.Cond.arrayClass (newarray.typeOf aty)).before a0 Z = true) (hd : decode bytes pc = .ok (.newarray aty, 2)) (hp : pc + 2 = pc') (hz : ¬ z < 0) (hcap : z.toNatClampNeg ≤ cap) (hb : cap * 8 ≤ 536870912) (hdv : defaultValue (newarray.typeOf aty) = dv) (hvs : ∀ i, vs.getD i dv = dv) (hc : k + 1 ≤ R.cells) (hl : n + cap ≤ R.slots)
    (g : ∀ (T' : State) (h' : Heap) (a : Addr), h.size = a → o_Wk Z EL n0 own bytes maxL ret nm p l e R s m args below meth c T' (a :: ms) (k + 1) (n + cap) h' → Ext h h' → (∃ kA, Arv Z h' a kA (newarray.typeOf aty) z vs dv) → o_Go Z EL n0 p e below s K N Q (T'.setTop (mkF m pc' Ls (.ref a :: st)))) : o_Go Z EL n0 p e below s K N Q (T.setTop (mkF m pc Ls (.int z :: st))) := by
  subst hp hdv; exact o_made w (F' := fun a => mkF m (pc + 2) Ls (.ref a :: st)) (fun s' locs X eT hZ hown => by
    obtain ⟨T', h', cA, X', e', E', A', st'⟩ := newP X w.1 hZ wl eT (g := mkF m pc Ls (.int z :: st)) rfl (o_dec w hd) rfl hz hcap hb hc hl
    exact ⟨T', h', X', e', E', A'.lt, ⟨cA, (Arv.new A' hz).pad fun i => by rw [hvs]; rfl⟩, st'⟩) g
theorem o_stI (w : o_Wk Z EL n0 own bytes maxL ret nm p l e R s m args below meth c T ms k n h) {j : Int32} {x : Int32} {z : Int32} {kA : ClassId} {vs vs' : List Value} {dv xv : Value} {i : Nat} (hm : a ∈ ms) (A : Arv Z h a kA .int z vs dv) (hj : ¬ j < 0 ∧ j < z) (hi : j.toNatClampNeg = i) (hil : i < vs.length) (hxv : (.int x) = xv) (hfv : fits .int xv = true) (hvs : vs.set i xv = vs') (hd : decode bytes pc = .ok (.iastore, 1)) (hp : pc + 1 = pc')
    (g : ∀ (T' : State) (h' : Heap), o_Wk Z EL n0 own bytes maxL ret nm p l e R s m args below meth c T' ms k n h' → Wr h h' a j.toNatClampNeg xv → Arv Z h' a kA .int z vs' dv → o_Go Z EL n0 p e below s K N Q (T'.setTop (mkF m pc' Ls st))) : o_Go Z EL n0 p e below s K N Q (T.setTop (mkF m pc Ls (.int x :: .int j :: .ref a :: st))) := by
  subst hp hvs hxv
  obtain ⟨cl, Ar, c1, S, M, H, G⟩ := A
  exact o_write w hm (fun s' locs X eT hZ hown => stI X w.1 hZ eT Ar (inb_of S hj) (g := mkF m pc Ls (.int x :: .int j :: .ref a :: st)) rfl rfl (o_dec w hd)) (fun T' h' w' W => g T' h' w' W (Arv.set Ar c1 S M H G hfv W i hi hil))
theorem o_ldI (w : o_Wk Z EL n0 own bytes maxL ret nm p l e R s m args below meth c T ms k n h) {j : Int32} {v : Value} {z : Int32} {kA : ClassId} {vs : List Value} {dv : Value} (A : Arv Z h a kA .int z vs dv) (hj : ¬ j < 0 ∧ j < z) (hv : vs.getD j.toNatClampNeg dv = v) (hd : decode bytes pc = .ok (.iaload, 1)) (hp : pc + 1 = pc') (g : o_Go Z EL n0 p e below s K N Q (T.setTop (mkF m pc' Ls (v :: st)))) : o_Go Z EL n0 p e below s K N Q (T.setTop (mkF m pc Ls (.int j :: .ref a :: st))) := by
  subst hp
  obtain ⟨cl, Ar, c1, S, M, H, G⟩ := A
  exact o_pure w (fun s' locs X eT hZ hown t q => X.iaload w.1 (by rw [eT]; exact Ar.1) (State.isArrayOf_alike hZ.alike Ar.2.1) Ar.2.2 (inb_of S hj) (H.at (inb_of S hj) hv) (g := mkF m pc Ls (.int j :: .ref a :: st)) rfl rfl (o_dec w hd) t q) g
theorem o_len (w : o_Wk Z EL n0 own bytes maxL ret nm p l e R s m args below meth c T ms k n h) {z : Int32} {kA : ClassId} {ty : FieldType} {vs : List Value} {dv : Value} (A : Arv Z h a kA ty z vs dv) (hd : decode bytes pc = .ok (.arraylength, 1)) (hp : pc + 1 = pc') (g : o_Go Z EL n0 p e below s K N Q (T.setTop (mkF m pc' Ls (.int z :: st)))) : o_Go Z EL n0 p e below s K N Q (T.setTop (mkF m pc Ls (.ref a :: st))) := by
  subst hp
  obtain ⟨cl, Ar, c1, S, M, H, G⟩ := A
  exact o_pure w (fun s' locs X eT hZ hown t q => X.arraylength w.1 (by rw [eT]; exact Ar.1) (State.isArrayOf_alike hZ.alike Ar.2.1) (g := mkF m pc Ls (.ref a :: st)) rfl rfl (o_dec w hd) t (by rw [len_of S M]; exact q)) g
theorem o_acopy (w : o_Wk Z EL n0 own bytes maxL ret nm p l e R s m args below meth c T ms k n h) {b : Addr} {idx W : Nat} {kA kB : ClassId} {ty : FieldType} {z z' sp dp nn : Int32} {vs vd us vs' : List Value} {dv dd : Value} (w1 : (Jvm.Cond.methodLink own idx Jvm.Stand.acN).before a0 Z = true) (w2 : (Jvm.Cond.native Jvm.Stand.acN).before a0 Z = true) (w3 : (Jvm.Cond.static Jvm.Stand.acN).before a0 Z = true) (w4 : (Jvm.Cond.initialized "java/lang/System").before a0 Z = true)
    (hm : b ∈ ms) (A : Arv Z h a kA ty z vs dv) (B : Arv Z h b kB ty z' vd dd) (hty : refKind ty = false) (h1 : ¬ sp < 0) (h2 : ¬ dp < 0) (h3 : ¬ nn < 0) (h4 : sp.toNatClampNeg + nn.toNatClampNeg ≤ z.toNatClampNeg) (h5 : dp.toNatClampNeg + nn.toNatClampNeg ≤ z'.toNatClampNeg) (hus : us = (List.range nn.toNatClampNeg).map fun i => vs.getD (sp.toNatClampNeg + i) dv) (hl : dp.toNatClampNeg + nn.toNatClampNeg ≤ vd.length) (hvs : vd.take dp.toNatClampNeg ++ us ++ vd.drop (dp.toNatClampNeg + nn.toNatClampNeg) = vs')
    (hsz : Ls.size = maxL) (hd : decode bytes pc = .ok (.invokestatic idx, 3)) (hp : pc + 3 = pc') (hf : 1 ≤ R.frames) (hW : (st.map fun v => v.category).sum ≤ W) (hlo : W + (nativeFrameWords "java/lang/System" "arraycopy" 5 + 11) ≤ R.locals)
    (g : ∀ (T' : State) (h' : Heap), o_Wk Z EL n0 own bytes maxL ret nm p l e R s m args below meth c T' ms k n h' → Keep h h' [b] → Arv Z h' b kB ty z' vs' dd → o_Go Z EL n0 p e below s K N Q (T'.setTop (mkF m pc' Ls st))) : o_Go Z EL n0 p e below s K N Q (T.setTop (mkF m pc Ls (.int nn :: .int dp :: .ref b :: .int sp :: .ref a :: st))) := by
  subst hp hvs
  refine o_coreL w (k' := k) (n' := n) (ws := [b]) (P := fun h' new F'' => Arv Z h' b kB ty z' (vd.take dp.toNatClampNeg ++ us ++ vd.drop (dp.toNatClampNeg + nn.toNatClampNeg)) dd ∧ new = [] ∧ F'' = mkF m (pc + 3) Ls st) (allS hm all0) (fun s' locs X eT hZ hown Nf => ?_) (fun T' h' new F'' w' Kp q => ?_)
  · obtain ⟨T', h', L, X', e', NL, Kp, B', st'⟩ := cpA X w.1 hZ hown w1 w2 w3 w4 eT A B (Or.inl ⟨rfl, hty⟩) h1 h2 h3 h4 h5 hus hl Nf (o_mine w b hm).1 (g := mkF m pc Ls (.int nn :: .int dp :: .ref b :: .int sp :: .ref a :: st)) rfl (by rw [w.2.2.1]; exact hsz) rfl (o_dec w hd) hf (W := W) (by show 2 * 0 + _ ≤ _; omega) hlo
    exact ⟨T', h', L, [], _, X', e', Kp, NL, all0, ⟨B', rfl, rfl⟩, st'⟩
  · obtain ⟨q1, rfl, rfl⟩ := q; exact g T' h' w' Kp q1
theorem o_initO (w : o_Wk Z EL n0 own bytes maxL ret nm p l e R s m args below meth c T ms k n h) {idx W : Nat} (w1 : (Jvm.Cond.methodLink own idx Lib.objectInit).before a0 Z = true) (w2 : (Jvm.Cond.instanceMethod Lib.objectInit).before a0 Z = true) (w3 : (Jvm.Cond.code Lib.objectInit ⟨#[0xb1]⟩ 1 none).before a0 Z = true) (hsz : Ls.size = maxL) (hd : decode bytes pc = .ok (.invokespecial idx, 3)) (hp : pc + 3 = pc') (hf : 1 ≤ R.frames) (hW : (st.map fun v => v.category).sum ≤ W) (hl : W + 12 ≤ R.locals)
    (g : ∀ T' : State, o_Wk Z EL n0 own bytes maxL ret nm p l e R s m args below meth c T' ms k n h → o_Go Z EL n0 p e below s K N Q (T'.setTop (mkF m pc' Ls st))) : o_Go Z EL n0 p e below s K N Q (T.setTop (mkF m pc Ls (.ref a :: st))) := by
  subst hp; exact o_same w (fun s' locs X eT hZ hown => initO X w.1 hZ hown w1 w2 w3 eT (g := mkF m pc Ls (.ref a :: st)) rfl (by rw [w.2.2.1]; exact hsz) rfl (o_dec w hd) hf (W := W) (by show 2 * 0 + _ ≤ _; omega) hl) g
end OwnKit
theorem o_fit1 {t : FieldType} {v : Value} (q : narrow t v = v ∧ fits t v = true) : ∀ (i : Nat) t' v', [t][i]? = some t' → [v][i]? = some v' → narrow t' v' = v' ∧ fits t' v' = true := by
  intro i t' v' h1 h2
  cases i with
  | zero => cases h1; cases h2; exact q
  | succ i => cases h1
theorem o_fit2 {t u : FieldType} {v w : Value} (q : narrow t v = v ∧ fits t v = true) (q2 : narrow u w = w ∧ fits u w = true) : ∀ (i : Nat) t' v', [t, u][i]? = some t' → [v, w][i]? = some v' → narrow t' v' = v' ∧ fits t' v' = true := by
  intro i t' v' h1 h2
  cases i with
  | zero => cases h1; cases h2; exact q
  | succ i => exact o_fit1 q2 i t' v' h1 h2
def o_Lam (Z : State) (h : Heap) (a : Addr) (x : MethodName) (pc idx : Nat) (σ : Lambda.Shape) (vals : List Value) : Prop := ∃ (cK : ClassId) (one : Option Addr) (cell : Cell), Z.lambdaAt? x pc idx σ = some (cK, one) ∧ h[a]? = some cell ∧ cell.cls = cK ∧ cell.vm = .none ∧ cell.slots = vals.toArray
theorem o_Lam.lt {Z : State} {h : Heap} {a : Addr} {x : MethodName} {pc idx : Nat} {σ : Lambda.Shape} {vals : List Value} (F : o_Lam Z h a x pc idx σ vals) : a < h.size := by
  obtain ⟨cK, one, cell, -, q, -⟩ := F
  exact (Array.getElem?_eq_some_iff.mp q).1
theorem o_Lam.ext {Z : State} {h h' : Heap} {a : Addr} {x : MethodName} {pc idx : Nat} {σ : Lambda.Shape} {vals : List Value} (F : o_Lam Z h a x pc idx σ vals) (E : Ext h h') : o_Lam Z h' a x pc idx σ vals := by
  obtain ⟨cK, one, cell, h1, q, r⟩ := F
  exact ⟨cK, one, cell, h1, E.2 _ _ q, r⟩
theorem o_Lam.other {Z : State} {h h' : Heap} {a b : Addr} {sl : Nat} {v : Value} {x : MethodName} {pc idx : Nat} {σ : Lambda.Shape} {vals : List Value} (F : o_Lam Z h a x pc idx σ vals) (W : Wr h h' b sl v) (ne : a ≠ b) : o_Lam Z h' a x pc idx σ vals := by
  obtain ⟨cK, one, cell, h1, q, r⟩ := F
  obtain ⟨c2, -, -, -, rfl⟩ := W
  exact ⟨cK, one, cell, h1, by rw [Array.getElem?_setIfInBounds_ne (Ne.symm ne)]; exact q, r⟩
theorem o_Lam.keep {Z : State} {h h' : Heap} {a : Addr} {ws : List Addr} {x : MethodName} {pc idx : Nat} {σ : Lambda.Shape} {vals : List Value} (F : o_Lam Z h a x pc idx σ vals) (K : Keep h h' ws) (n : a ∉ ws) : o_Lam Z h' a x pc idx σ vals := by
  obtain ⟨cK, one, cell, h1, q, r⟩ := F
  exact ⟨cK, one, cell, h1, K.2.1 _ _ q n, r⟩
theorem o_ride {Z : State} {vm' : Vm} (hW : Z.WarmedH vm') {x : MethodName} {pc idx : Nat} {σ : Lambda.Shape} {cK : ClassId} {one : Option Addr} (h : Z.lambdaAt? x pc idx σ = some (cK, one)) : (Z.setVm vm').lambdaAt? x pc idx σ = some (cK, one) :=
  State.lambdaAt?_rides (s := { Z with threads := #[{ frames := [] }], cur := 0 }) (t := ({ Z with threads := #[{ frames := [] }], cur := 0 } : State).setVm vm') hW (State.sameButNew.refl _ (x := { frames := [] }) rfl) h
theorem o_madeS {Z s : State} (hW : Z.WarmedH s.vm) {x : MethodName} {pc idx : Nat} {σ : Lambda.Shape} {cK : ClassId} {one : Option Addr} (h : Z.lambdaAt? x pc idx σ = some (cK, one)) : LamKit.Made s x.cls σ cK := by
  obtain ⟨mD, kD, cfD, i0, p0, lk, hmD, hkD, -, -, -, -, hmade, hcan, -⟩ := State.lambdaAt?_spec (o_ride hW h)
  obtain ⟨kD', hkD', hnameD⟩ := className_of_methodNamed hmD
  cases hkD.symm.trans hkD'
  exact ⟨_, kD, hkD, hnameD, hmade, hcan⟩
section OwnLam
variable {Z : State} {EL : List (String × Nat)} {n0 : Nat} {own : String} {bytes : ByteArray} {maxL : Nat} {ret : Option FieldType} {nm : String} {p : Program} {l : Launch} {e : Env} {R : Room} {s : State} {m : MethodId} {args : Array Value} {below : List Frame} {meth : Method} {c : Code}
  {T : State} {ms : List Addr} {k n : Nat} {h : Heap} {a0 : Array Value} {K N : Nat} {Q : Option Value → Heap → List Addr → Prop} {pc pc' : Nat} {Ls Ls' : Array Slot} {st : List Value} {a : Addr}
theorem o_lam (w : o_Wk Z EL n0 own bytes maxL ret nm p l e R s m args below meth c T ms k n h) {x : MethodName} {idx fi nv : Nat} {σ : Lambda.Shape} {vals rest : List Value} (hnm : s.methodNamed? x = some m) (wsite : (Jvm.Cond.lambdaSite x pc idx σ).before a0 Z = true) (hcap : σ.captured ≠ []) (hok : LamKit.capOK σ x.cls fi 0 = true) (wO : (Jvm.Cond.instantiable "java/lang/Object" 0).before a0 Z = true) (hsz : Ls.size = maxL) (hlv : vals.length = nv) (hlc : σ.captured.length = nv) (hst : st = vals.reverse ++ rest)
    (hfit : ∀ (i : Nat) t v, σ.captured[i]? = some t → vals[i]? = some v → narrow t v = v ∧ fits t v = true) (hd : decode bytes pc = .ok (.invokedynamic idx, 5)) (hp : pc + 5 = pc') (hl : (st.map fun v => v.category).sum + 3072 ≤ R.locals) (hc : k + 1 ≤ R.cells) (hn : n + nv ≤ R.slots)
    (g : ∀ (T' : State) (h' : Heap) (a : Addr), a = h.size → o_Wk Z EL n0 own bytes maxL ret nm p l e R s m args below meth c T' (a :: ms) (k + 1) (n + nv) h' → Ext h h' → o_Lam Z h' a x pc idx σ vals → o_Go Z EL n0 p e below s K N Q (T'.setTop (mkF m pc' Ls (.ref a :: rest)))) : o_Go Z EL n0 p e below s K N Q (T.setTop (mkF m pc Ls st)) := by
  subst hp hlv
  have hlen : vals.length = σ.captured.length := hlc.symm
  obtain ⟨h1, h2, h3, h4, h5, h6, locs, X, eT, hZ, hown, Nf, O, hs0, M⟩ := w
  obtain ⟨cK, one, hat⟩ := Cond.lambdaSite_spec wsite
  obtain ⟨mD, kD, cfD, i0, p0, lk, hmD, hkD, hcfD, hsh, -, hfind, hmade, hcan, hl4⟩ := State.lambdaAt?_spec (o_ride hZ hat)
  have hmD' : s.methodNamed? x = some mD := hmD
  cases hnm.symm.trans hmD'
  obtain ⟨kD', hkD', hnameD⟩ := className_of_methodNamed hmD
  cases hkD.symm.trans hkD'
  rcases hl4 with ⟨a, cell, -, -, hc0, -⟩ | ⟨rfl, -, -⟩
  · exact absurd hc0 hcap
  · obtain ⟨b, nt, desc, site, g1, g2, g3, g4⟩ := Lambda.shapeOf?_site hsh
    have hO : (Jvm.Cond.instantiable "java/lang/Object" 0).before args s = true := mvT hZ.wide wO
    obtain ⟨kc, f, hkc, hkind, hty, -⟩ := LamKit.made_cap (vm := s.vm) hok hkD hnameD hmade (LamKit.noFields hO (State.WarmedH.refl s))
    have hz : ((kc.instanceTypes.toList.zip vals).map fun (t, v) => narrow t v) = vals := by rw [hty]; exact LamKit.zip_narrow _ _ hlen fun i t v a b => (hfit i t v a b).1
    have hw : e.platform.lambdaLinkWords = 3072 := by rw [X.admits.platform]
    have q := X.lambdaMakes h1 (g := mkF m pc Ls st) rfl (by rw [h3]; exact hsz) (h2 ▸ hd) (vals := vals) (rest := rest) (k := kD) (kc := kc) hkD hfind hcfD g1 g2 (parseLong_of_parse g3) (by rw [g4]; exact hlen) hst hkc (by rw [hw]; show 2 * 0 + (st.map fun v => v.category).sum + 3072 ≤ R.locals; omega) hc (by rw [hz]; exact hn)
      (fun i v hv => by
        rw [hz] at hv
        have hv' : vals[i]? = some v := by simpa using hv
        have hi : i < σ.captured.length := by rw [← hlen]; exact (List.getElem?_eq_some_iff.mp hv').1
        have := (hfit i _ v (List.getElem?_eq_getElem hi) hv').2
        simp [State.fitsSlot, State.slotType?, hkc, hkind, hty, List.getElem?_eq_getElem hi, this])
    rw [hz] at q
    subst eT
    have E : Ext T.heap (T.pushCell { cls := cK, slots := vals.toArray, vm := .none }).heap := ⟨by simp [State.pushCell], fun a c hc => by
      have hlt := (Array.getElem?_eq_some_iff.mp hc).1
      show (T.heap.push _)[a]? = some c
      rw [Array.getElem?_push_lt hlt]; rw [Array.getElem?_eq_getElem hlt] at hc; exact hc⟩
    refine o_go q.2 (g _ _ _ rfl ⟨h1, h2, h3, h4, h5, h6, locs, by simpa using q.1, rfl, hZ, hown, Nf, O.ext E, Nat.le_trans hs0 E.1, fun x hx => ?_⟩ E ⟨cK, one, _, hat, by show (T.heap.push _)[T.heap.size]? = _; rw [Array.getElem?_push_size], rfl, rfl, rfl⟩)
    rcases List.mem_cons.mp hx with rfl | q
    · exact ⟨o_n0 O, by show T.heap.size < (T.heap.push _).size; rw [Array.size_push]; exact Nat.lt_succ_self _⟩
    · exact ⟨(M x q).1, Nat.lt_of_lt_of_le (M x q).2 E.1⟩
theorem o_met {y : MethodName} {bytes' : ByteArray} {maxL' : Nat} {ret' : Option FieldType} {rm' : Room} {as' : Array Value} {h0 : Heap} {Q' : Option Value → Heap → List Addr → Prop} (ct : o_Ct l Z EL n0 y bytes' maxL' ret' [] rm' as' h0 [] Q') :
    LawKit.Met l y [Jvm.Cond.code y bytes' maxL' ret'] rm' (fun a U => a = as' ∧ Z.WarmedH U.vm ∧ U.heap = h0) (fun _ U o U' => ∃ v ms, o = .returned v ∧ Q' v U'.heap ms ∧ Old Z n0 U'.heap ∧ o_Mine Z EL n0 U'.vm U'.heap ms ∧ U.heap.size ≤ U'.heap.size) rm'.cells rm'.slots (fun a => n0 ≤ a) := by
  intro p e ha hc hk s m args below hf hA hP hK
  obtain ⟨n, o, g1, g2, g3, v, L, ms, g4, g5, g6, g7, g8, g9, g10⟩ := ct p e ha hc hk s m args below hf hA ⟨hP.1, hP.2.1, hP.2.2, fun _ q => nomatch q⟩ hK
  exact ⟨n, o, g1, g2, g3, ⟨v, ms, g4, g5, g7, g8, g9⟩, L, g10, g6⟩
theorem o_callL (w : o_Wk Z EL n0 own bytes maxL ret nm p l e R s m args below meth c T ms k n h) {idx cnt : Nat} {x xi y : MethodName} {pcS idxS : Nat} {σ : Lambda.Shape} {vals : List Value} {bytes' : ByteArray} {maxL' : Nat} {ret' : Option FieldType} {rm' : Room} {argsL argsT rest : List Value} {Q' : Option Value → Heap → List Addr → Prop} {ps ps' : List FieldType} {rt rt' : Option FieldType} {fcode : ByteArray} {fml idxF ci pcI : Nat} {L0 : Array Slot}
    (wl : (Jvm.Cond.methodLink own idx xi).before a0 Z = true) (wd : (Jvm.Cond.declares xi).before a0 Z = true) (wf : (Jvm.Cond.interfaceMethod xi.cls xi.cls xi.name xi.desc).before a0 Z = true) (wt : (Jvm.Cond.static y).before a0 Z = true) (wz : (Jvm.Cond.initialized y.cls).before a0 Z = true) (wc : (Jvm.Cond.code y bytes' maxL' ret').before a0 Z = true)
    (hxi : xi.cls = σ.iface ∧ xi.name = σ.name ∧ xi.desc = σ.sam.toString) (hy : y.cls = σ.implClass ∧ y.name = σ.implName ∧ y.desc = σ.implDesc.toString) (hpoly : (xi.cls ≠ "java/lang/invoke/MethodHandle" ∧ xi.cls ≠ "java/lang/invoke/VarHandle") ∧ y.cls ≠ "java/lang/invoke/MethodHandle" ∧ y.cls ≠ "java/lang/invoke/VarHandle")
    (F : o_Lam Z h a x pcS idxS σ vals) (hok : LamKit.fwdOK σ x.cls fcode fml (some .int) idxF ci = true) (hdI : decode fcode pcI = .ok (.invokestatic idxF, 3)) (hdR : decode fcode (pcI + 3) = .ok (.ireturn, 1)) (ct : o_Ct l Z EL n0 y bytes' maxL' ret' [] rm' argsT.toArray h [] Q') (hv : ∀ v h' ms', Q' v h' ms' → ∃ z : Int32, v = some (.int z))
    (hst : st = argsL.reverse ++ .ref a :: rest) (hsz : Ls.size = maxL) (hpd : parseMethodDescriptor xi.desc = some ⟨ps, rt⟩) (hln : argsL.length = ps.length) (hpd' : parseMethodDescriptor y.desc = some ⟨ps', rt'⟩) (hln' : argsT.length = ps'.length) (hd : decode bytes pc = .ok (.invokeinterface idx cnt, 5)) (hp : pc + 5 = pc')
    (hL0 : ∀ mk, entryFrame mk (Value.ref a :: argsL).toArray fml = { method := mk, pc := 0, locals := L0, stack := [], locked := none }) (hL0s : L0.size = fml)
    (hload : ∀ (cK : ClassId) (cell : Cell) (U : State) (ck : Code) (bl : List Frame) (target : State), p.tables.exec = Jvm.exec → LamKit.Made s x.cls σ cK → h[a]? = some cell → cell.vm = .none → cell.slots = vals.toArray → (Jvm.Cond.instantiable "java/lang/Object" 0).before args s = true → At U ⟨cK, 1⟩ ck bl → ck.code = fcode → U.heap = h → s.WarmedH U.vm →
      Steps p.tables e bl (U.setTop { method := ⟨cK, 1⟩, pc := pcI, locals := L0, stack := argsT.reverse, locked := none }) target → Steps p.tables e bl (U.setTop { method := ⟨cK, 1⟩, pc := 0, locals := L0, stack := [], locked := none }) target) (wO : (Jvm.Cond.instantiable "java/lang/Object" 0).before a0 Z = true)
    (hf : rm'.frames + 2 ≤ R.frames) {W : Nat} (hW : (rest.map fun v => v.category).sum = W) (hl : W + (fml + 11) + ((maxL' + 11) + rm'.locals) ≤ R.locals) (hc : k + rm'.cells ≤ R.cells) (hn : n + rm'.slots ≤ R.slots)
    (g : ∀ (T' : State) (h' : Heap) (v : Option Value) (ms' : List Addr), o_Wk Z EL n0 own bytes maxL ret nm p l e R s m args below meth c T' (ms' ++ ms) (k + rm'.cells) (n + rm'.slots) h' → Q' v h' ms' → o_Go Z EL n0 p e below s K N Q (T'.setTop (mkF m pc' Ls (v.toList ++ rest)))) :
    o_Go Z EL n0 p e below s K N Q (T.setTop (mkF m pc Ls st)) := by
  subst hp hst
  obtain ⟨h1, h2, h3, h4, h5, h6, locs, X, eT, hZ, hown, Nf, O, hs0, M⟩ := w
  obtain ⟨cK, one, cell, f1, f2, f3, f4, f5⟩ := F
  have hmd := o_madeS (s := s) hZ f1
  have hcode : (Jvm.Cond.code y bytes' maxL' ret').before args s = true := mvT hZ.wide wc
  have hO : (Jvm.Cond.instantiable "java/lang/Object" 0).before args s = true := mvT hZ.wide wO
  obtain ⟨v, s1, t, T', L, X', hL, e1, e2, ⟨v', ms', e3, e4, e5, e6, e7⟩, st'⟩ := LamKit.callLamS X h1 (own := own) (host := x.cls) (index := idx) (count := cnt) (xi := xi) (y := y) (σ := σ) (o_met ct) (fun _ _ _ _ q => q) rfl rfl
    (fun w hw a' U hU => by rw [List.mem_singleton.mp hw]; exact mvT (State.WarmedH.trans hZ hU).wide wc) (List.mem_singleton.mpr rfl)
    hown (mvT hZ.wide wl) (mvT hZ.wide wd) (mvT hZ.wide wf (o_ifk hpoly.1)) hcode (mvT hZ.wide wt) (mvT hZ.wide wz) hxi hy hpoly hmd ⟨cell, by rw [eT]; exact f2, f3, f4⟩ hok hdI hdR
    (g := mkF m pc Ls (argsL.reverse ++ .ref a :: rest)) rfl (by rw [h3]; exact hsz) (argsL := argsL) (argsT := argsT) (rest := rest) (L0 := L0) (lenOf hpd hln) (lenOf hpd' hln') rfl (h2 ▸ hd) hL0 hL0s
    (fun U ck bl target q1 q2 q3 q4 q5 => hload cK cell U ck bl target h1 hmd f2 f4 f5 hO q1 q2 (q3.trans eT) q4 q5)
    (fun s2 v2 t2 q => by
      obtain ⟨v3, ms3, q1, q2, -⟩ := q
      obtain ⟨z, rfl⟩ := hv _ _ _ q2
      cases q1
      exact Or.inl ⟨.int, _, rfl, Or.inl rfl, rfl, rfl, rfl⟩)
    hf (by show 2 * 0 + _ + _ + _ ≤ _; rw [hW]; omega) hc hn (fun U q1 q2 => ⟨rfl, State.WarmedH.trans hZ q1, q2.trans eT⟩)
  cases e3
  refine o_go st' (g T' _ v ms' ⟨h1, h2, h3, h4, h5, h6, locs ++ L, X', rfl, hZ, hown, Nf.app hL, e1 ▸ e5, ?_, fun x hx => ?_⟩ (e1 ▸ e4))
  · rw [e1]; exact Nat.le_trans hs0 (by rw [← eT, ← e2]; exact e7)
  · rcases List.mem_append.mp hx with q | q
    · exact e1 ▸ e6 x q
    · exact ⟨(M x q).1, Nat.lt_of_lt_of_le (M x q).2 (by rw [e1, ← eT, ← e2]; exact e7)⟩
end OwnLam
abbrev o_H (a0 : Array Value) (Z : State) : Prop := ∀ d ∈ tables_1, d.before a0 Z = true
abbrev o_sh0 : Lambda.Shape := (Jvm.Lambda.Shape.mk "java/util/function/IntUnaryOperator" "applyAsInt" (Jvm.ClassFile.MethodDescriptor.mk ([Jvm.ClassFile.FieldType.int] : List Jvm.ClassFile.FieldType) (Option.some Jvm.ClassFile.FieldType.int)) ([(Jvm.ClassFile.FieldType.array Jvm.ClassFile.FieldType.int)] : List Jvm.ClassFile.FieldType) (6 : Nat) "com/example/throng/throng/engine/NumberedAnswers" "lambda$new$0" (Jvm.ClassFile.MethodDescriptor.mk ([(Jvm.ClassFile.FieldType.array Jvm.ClassFile.FieldType.int), Jvm.ClassFile.FieldType.int] : List Jvm.ClassFile.FieldType) (Option.some Jvm.ClassFile.FieldType.int)) false (Jvm.ClassFile.MethodDescriptor.mk ([Jvm.ClassFile.FieldType.int] : List Jvm.ClassFile.FieldType) (Option.some Jvm.ClassFile.FieldType.int)))
def o_sh0_fc : ByteArray := ⟨#[0x2a, 0xb4, 0x00, 0x0f, 0x1b, 0xb8, 0x00, 0x17, 0xac]⟩
theorem o_sh0_fwd : LamKit.fwdOK o_sh0 "com/example/throng/throng/engine/NumberedAnswers" o_sh0_fc 2 (some .int) 23 19 = true := by decide +kernel
theorem o_sh0_cap0 : LamKit.capOK o_sh0 "com/example/throng/throng/engine/NumberedAnswers" 15 0 = true := by decide +kernel
theorem o_sh0_f0 : decode o_sh0_fc 0 = .ok (.aload_n 0, 1) := by decide +kernel
theorem o_sh0_f1 : decode o_sh0_fc 1 = .ok (.getfield 15, 3) := by decide +kernel
theorem o_sh0_f4 : decode o_sh0_fc 4 = .ok (.iload_n 1, 1) := by decide +kernel
theorem o_sh0_f5 : decode o_sh0_fc 5 = .ok (.invokestatic 23, 3) := by decide +kernel
theorem o_sh0_f8 : decode o_sh0_fc (5 + 3) = .ok (.ireturn, 1) := by decide +kernel
theorem o_sh0_xi : ((⟨"java/util/function/IntUnaryOperator", "applyAsInt", "(I)I"⟩ : MethodName)).cls = o_sh0.iface ∧ ((⟨"java/util/function/IntUnaryOperator", "applyAsInt", "(I)I"⟩ : MethodName)).name = o_sh0.name ∧ ((⟨"java/util/function/IntUnaryOperator", "applyAsInt", "(I)I"⟩ : MethodName)).desc = o_sh0.sam.toString := by decide +kernel
theorem o_sh0_y : ((⟨"com/example/throng/throng/engine/NumberedAnswers", "lambda$new$0", "([II)I"⟩ : MethodName)).cls = o_sh0.implClass ∧ ((⟨"com/example/throng/throng/engine/NumberedAnswers", "lambda$new$0", "([II)I"⟩ : MethodName)).name = o_sh0.implName ∧ ((⟨"com/example/throng/throng/engine/NumberedAnswers", "lambda$new$0", "([II)I"⟩ : MethodName)).desc = o_sh0.implDesc.toString := by decide +kernel
abbrev o_sh1 : Lambda.Shape := (Jvm.Lambda.Shape.mk "java/util/function/IntUnaryOperator" "applyAsInt" (Jvm.ClassFile.MethodDescriptor.mk ([Jvm.ClassFile.FieldType.int] : List Jvm.ClassFile.FieldType) (Option.some Jvm.ClassFile.FieldType.int)) ([(Jvm.ClassFile.FieldType.array Jvm.ClassFile.FieldType.int)] : List Jvm.ClassFile.FieldType) (6 : Nat) "com/example/throng/throng/engine/NumberedAnswers" "lambda$new$1" (Jvm.ClassFile.MethodDescriptor.mk ([(Jvm.ClassFile.FieldType.array Jvm.ClassFile.FieldType.int), Jvm.ClassFile.FieldType.int] : List Jvm.ClassFile.FieldType) (Option.some Jvm.ClassFile.FieldType.int)) false (Jvm.ClassFile.MethodDescriptor.mk ([Jvm.ClassFile.FieldType.int] : List Jvm.ClassFile.FieldType) (Option.some Jvm.ClassFile.FieldType.int)))
def o_sh1_fc : ByteArray := ⟨#[0x2a, 0xb4, 0x00, 0x0f, 0x1b, 0xb8, 0x00, 0x17, 0xac]⟩
theorem o_sh1_fwd : LamKit.fwdOK o_sh1 "com/example/throng/throng/engine/NumberedAnswers" o_sh1_fc 2 (some .int) 23 19 = true := by decide +kernel
theorem o_sh1_cap0 : LamKit.capOK o_sh1 "com/example/throng/throng/engine/NumberedAnswers" 15 0 = true := by decide +kernel
theorem o_sh1_f0 : decode o_sh1_fc 0 = .ok (.aload_n 0, 1) := by decide +kernel
theorem o_sh1_f1 : decode o_sh1_fc 1 = .ok (.getfield 15, 3) := by decide +kernel
theorem o_sh1_f4 : decode o_sh1_fc 4 = .ok (.iload_n 1, 1) := by decide +kernel
theorem o_sh1_f5 : decode o_sh1_fc 5 = .ok (.invokestatic 23, 3) := by decide +kernel
theorem o_sh1_f8 : decode o_sh1_fc (5 + 3) = .ok (.ireturn, 1) := by decide +kernel
theorem o_sh1_xi : ((⟨"java/util/function/IntUnaryOperator", "applyAsInt", "(I)I"⟩ : MethodName)).cls = o_sh1.iface ∧ ((⟨"java/util/function/IntUnaryOperator", "applyAsInt", "(I)I"⟩ : MethodName)).name = o_sh1.name ∧ ((⟨"java/util/function/IntUnaryOperator", "applyAsInt", "(I)I"⟩ : MethodName)).desc = o_sh1.sam.toString := by decide +kernel
theorem o_sh1_y : ((⟨"com/example/throng/throng/engine/NumberedAnswers", "lambda$new$1", "([II)I"⟩ : MethodName)).cls = o_sh1.implClass ∧ ((⟨"com/example/throng/throng/engine/NumberedAnswers", "lambda$new$1", "([II)I"⟩ : MethodName)).name = o_sh1.implName ∧ ((⟨"com/example/throng/throng/engine/NumberedAnswers", "lambda$new$1", "([II)I"⟩ : MethodName)).desc = o_sh1.implDesc.toString := by decide +kernel
abbrev o_sh2 : Lambda.Shape := (Jvm.Lambda.Shape.mk "java/util/function/IntUnaryOperator" "applyAsInt" (Jvm.ClassFile.MethodDescriptor.mk ([Jvm.ClassFile.FieldType.int] : List Jvm.ClassFile.FieldType) (Option.some Jvm.ClassFile.FieldType.int)) ([(Jvm.ClassFile.FieldType.object "java/util/function/IntUnaryOperator"), (Jvm.ClassFile.FieldType.array Jvm.ClassFile.FieldType.int)] : List Jvm.ClassFile.FieldType) (6 : Nat) "com/example/throng/throng/engine/Groups" "lambda$of$0" (Jvm.ClassFile.MethodDescriptor.mk ([(Jvm.ClassFile.FieldType.object "java/util/function/IntUnaryOperator"), (Jvm.ClassFile.FieldType.array Jvm.ClassFile.FieldType.int), Jvm.ClassFile.FieldType.int] : List Jvm.ClassFile.FieldType) (Option.some Jvm.ClassFile.FieldType.int)) false (Jvm.ClassFile.MethodDescriptor.mk ([Jvm.ClassFile.FieldType.int] : List Jvm.ClassFile.FieldType) (Option.some Jvm.ClassFile.FieldType.int)))
def o_sh2_fc : ByteArray := ⟨#[0x2a, 0xb4, 0x00, 0x11, 0x2a, 0xb4, 0x00, 0x13, 0x1b, 0xb8, 0x00, 0x1b, 0xac]⟩
theorem o_sh2_fwd : LamKit.fwdOK o_sh2 "com/example/throng/throng/engine/Groups" o_sh2_fc 2 (some .int) 27 23 = true := by decide +kernel
theorem o_sh2_cap0 : LamKit.capOK o_sh2 "com/example/throng/throng/engine/Groups" 17 0 = true := by decide +kernel
theorem o_sh2_cap1 : LamKit.capOK o_sh2 "com/example/throng/throng/engine/Groups" 19 1 = true := by decide +kernel
theorem o_sh2_f0 : decode o_sh2_fc 0 = .ok (.aload_n 0, 1) := by decide +kernel
theorem o_sh2_f1 : decode o_sh2_fc 1 = .ok (.getfield 17, 3) := by decide +kernel
theorem o_sh2_f4 : decode o_sh2_fc 4 = .ok (.aload_n 0, 1) := by decide +kernel
theorem o_sh2_f5 : decode o_sh2_fc 5 = .ok (.getfield 19, 3) := by decide +kernel
theorem o_sh2_f8 : decode o_sh2_fc 8 = .ok (.iload_n 1, 1) := by decide +kernel
theorem o_sh2_f9 : decode o_sh2_fc 9 = .ok (.invokestatic 27, 3) := by decide +kernel
theorem o_sh2_f12 : decode o_sh2_fc (9 + 3) = .ok (.ireturn, 1) := by decide +kernel
theorem o_sh2_xi : ((⟨"java/util/function/IntUnaryOperator", "applyAsInt", "(I)I"⟩ : MethodName)).cls = o_sh2.iface ∧ ((⟨"java/util/function/IntUnaryOperator", "applyAsInt", "(I)I"⟩ : MethodName)).name = o_sh2.name ∧ ((⟨"java/util/function/IntUnaryOperator", "applyAsInt", "(I)I"⟩ : MethodName)).desc = o_sh2.sam.toString := by decide +kernel
theorem o_sh2_y : ((⟨"com/example/throng/throng/engine/Groups", "lambda$of$0", "(Ljava/util/function/IntUnaryOperator;[II)I"⟩ : MethodName)).cls = o_sh2.implClass ∧ ((⟨"com/example/throng/throng/engine/Groups", "lambda$of$0", "(Ljava/util/function/IntUnaryOperator;[II)I"⟩ : MethodName)).name = o_sh2.implName ∧ ((⟨"com/example/throng/throng/engine/Groups", "lambda$of$0", "(Ljava/util/function/IntUnaryOperator;[II)I"⟩ : MethodName)).desc = o_sh2.implDesc.toString := by decide +kernel
theorem o_z0 : (0 : Int32).toNatClampNeg = 0 := rfl
theorem o_ai {x y : Int32} (h1 : ¬ x < y) (h2 : ¬ y < x) : x = y := by
  rw [Int32.lt_iff_toInt_lt] at h1 h2; exact Int32.toInt_inj.mp (by omega)
abbrev o_iv (l : List Int32) : List Value := l.map Value.int
theorem o_ivl (l : List Int32) : (o_iv l).length = l.length := List.length_map ..
theorem o_ivs (l : List Int32) (j : Nat) (v : Int32) : (o_iv l).set j (.int v) = o_iv (l.set j v) := List.map_set.symm
theorem o_ivd (l : List Int32) (j : Nat) : (o_iv l).getD j (.int 0) = .int (l.getD j 0) := by
  rw [List.getD_eq_getElem?_getD, List.getElem?_map, List.getD_eq_getElem?_getD]; cases l[j]? <;> rfl
theorem o_ivg {l : List Int32} {J : Int32} {j : Nat} (h : J.toNatClampNeg = j) : (o_iv l).getD J.toNatClampNeg (.int 0) = .int (l.getD j 0) := by rw [h]; exact o_ivd l j
theorem o_ivr (n : Nat) : ∀ i, (o_iv (List.replicate n 0)).getD i (.int 0) = .int 0 := fun i => by rw [o_ivd, List.getD_eq_getElem?_getD, List.getElem?_replicate]; split <;> rfl
def o_cnt (k : Nat) (gs : List Nat) : List Int32 := gs.foldl (fun xs g => xs.set (g + 1) (xs.getD (g + 1) 0 + 1)) (List.replicate (k + 1) 0)
theorem o_cntl (k : Nat) (gs : List Nat) : (o_cnt k gs).length = k + 1 := by
  have q : ∀ (gs : List Nat) (xs : List Int32), (gs.foldl (fun xs g => xs.set (g + 1) (xs.getD (g + 1) 0 + 1)) xs).length = xs.length := by
    intro gs
    induction gs with
    | nil => intro xs; rfl
    | cons g t ih => intro xs; rw [List.foldl_cons, ih, List.length_set]
  exact (q gs _).trans List.length_replicate
def o_pf (xs : List Int32) : Nat → List Int32
  | 0 => xs
  | i + 1 => (o_pf xs i).set (i + 1) ((o_pf xs i).getD (i + 1) 0 + (o_pf xs i).getD i 0)
theorem o_pfl (xs : List Int32) (i : Nat) : (o_pf xs i).length = xs.length := by
  induction i with
  | zero => rfl
  | succ i ih => rw [o_pf, List.length_set, ih]
def o_tk (xs : List Int32) (k : Nat) : List Int32 := (List.range k).map fun i => xs.getD i 0
theorem o_tkl (xs : List Int32) (k : Nat) : (o_tk xs k).length = k := by rw [o_tk, List.length_map, List.length_range]
theorem o_tku (xs : List Int32) {N : Int32} {k : Nat} (h : N.toNatClampNeg = k) : o_iv (o_tk xs k) = (List.range N.toNatClampNeg).map fun i => (o_iv xs).getD ((0 : Int32).toNatClampNeg + i) (.int 0) := by
  rw [h, o_iv, o_tk, List.map_map]
  apply List.map_congr_left
  intro i _
  rw [o_z0, Nat.zero_add, o_ivd]; rfl
def o_st (nx : List Int32) (gs : List Nat) : List Int32 × List Int32 × Nat := gs.foldl (fun s g => (s.1.set g (s.1.getD g 0 + 1), s.2.1.set (s.1.getD g 0).toNatClampNeg (Int32.ofNat s.2.2), s.2.2 + 1)) (nx, List.replicate 4 0, 0)
theorem o_stl (nx : List Int32) (gs : List Nat) : (o_st nx gs).1.length = nx.length ∧ (o_st nx gs).2.1.length = 4 := by
  have q : ∀ (gs : List Nat) (s : List Int32 × List Int32 × Nat), (gs.foldl (fun s g => (s.1.set g (s.1.getD g 0 + 1), s.2.1.set (s.1.getD g 0).toNatClampNeg (Int32.ofNat s.2.2), s.2.2 + 1)) s).1.length = s.1.length ∧ (gs.foldl (fun s g => (s.1.set g (s.1.getD g 0 + 1), s.2.1.set (s.1.getD g 0).toNatClampNeg (Int32.ofNat s.2.2), s.2.2 + 1)) s).2.1.length = s.2.1.length := by
    intro gs
    induction gs with
    | nil => intro s; exact ⟨rfl, rfl⟩
    | cons g t ih => intro s; rw [List.foldl_cons]; exact ⟨(ih _).1.trans List.length_set, (ih _).2.trans List.length_set⟩
  exact ⟨(q gs _).1, (q gs _).2.trans List.length_replicate⟩
def o_itm (k : Nat) (gs : List Nat) : List Int32 := (o_st (o_tk (o_pf (o_cnt k gs) k) k) gs).2.1
def o_q4 (g0 g1 g2 g3 : Fin 2) (n : Nat) : Fin 2 := [g0, g1, g2, g3].getD n 0
theorem o_qv (g0 g1 g2 g3 : Fin 2) {n : Nat} (h : n < 4) : [(.int (Int32.ofNat g0.val)), (.int (Int32.ofNat g1.val)), (.int (Int32.ofNat g2.val)), (.int (Int32.ofNat g3.val))].getD n (.int 0) = (.int (Int32.ofNat (o_q4 g0 g1 g2 g3 n).val) : Value) := by
  match n, h with
  | 0, _ => rfl
  | 1, _ => rfl
  | 2, _ => rfl
  | 3, _ => rfl
def o_it3 (f0 f1 f2 f3 : Fin 3) : List Int32 := o_itm 3 [f0.val, f1.val, f2.val, f3.val]
def o_u (f0 f1 f2 f3 : Fin 3) (g0 g1 g2 g3 : Fin 2) (i : Nat) : Fin 2 := o_q4 g0 g1 g2 g3 ((o_it3 f0 f1 f2 f3).getD i 0).toNatClampNeg
def o_it2 (u0 u1 u2 u3 : Fin 2) : List Int32 := o_itm 2 [u0.val, u1.val, u2.val, u3.val]
def o_rm (bl it : List Int32) : Nat → List Int32
  | 0 => it
  | i + 1 => (o_rm bl it i).set i (bl.getD (it.getD i 0).toNatClampNeg 0)
theorem o_rml (bl it : List Int32) (i : Nat) : (o_rm bl it i).length = it.length := by
  induction i with
  | zero => rfl
  | succ i ih => rw [o_rm, List.length_set, ih]
theorem o_rmg (bl it : List Int32) (i : Nat) : ∀ j, i ≤ j → (o_rm bl it i).getD j 0 = it.getD j 0 := by
  induction i with
  | zero => intro j _; rfl
  | succ i ih => intro j hj; rw [o_rm, List.getD_eq_getElem?_getD, List.getElem?_set_ne (by omega), ← List.getD_eq_getElem?_getD]; exact ih j (by omega)
def o_bq (f0 f1 f2 f3 : Fin 3) (g0 g1 g2 g3 : Fin 2) : List Int32 := o_rm (o_it3 f0 f1 f2 f3) (o_it2 (o_u f0 f1 f2 f3 g0 g1 g2 g3 0) (o_u f0 f1 f2 f3 g0 g1 g2 g3 1) (o_u f0 f1 f2 f3 g0 g1 g2 g3 2) (o_u f0 f1 f2 f3 g0 g1 g2 g3 3)) 4
theorem o_pn {P : Int32} (h : ¬ P < 0 ∧ P < 4) : P.toNatClampNeg < 4 := by
  have e : (4 : Int32).toInt = 4 := rfl
  have q : P.toNatClampNeg = P.toInt.toNat := rfl
  rw [Int32.lt_iff_toInt_lt, Int32.lt_iff_toInt_lt, Int32.toInt_zero, e] at h
  rw [q]; omega
def o_sm (xs qs ls : List Int32) (p e : Nat) : Bool := qs.getD (xs.getD e 0).toNatClampNeg 0 == qs.getD (xs.getD p 0).toNatClampNeg 0 && ls.getD (xs.getD e 0).toNatClampNeg 0 == ls.getD (xs.getD p 0).toNatClampNeg 0
theorem o_smT {xs qs ls : List Int32} {p e : Nat} (h : qs.getD (xs.getD e 0).toNatClampNeg 0 = qs.getD (xs.getD p 0).toNatClampNeg 0) (h2 : ls.getD (xs.getD e 0).toNatClampNeg 0 = ls.getD (xs.getD p 0).toNatClampNeg 0) : o_sm xs qs ls p e = true := by rw [o_sm, h, h2, beq_self_eq_true, beq_self_eq_true]; rfl
theorem o_smQ {xs qs ls : List Int32} {p e : Nat} (h : ¬ qs.getD (xs.getD e 0).toNatClampNeg 0 = qs.getD (xs.getD p 0).toNatClampNeg 0) : o_sm xs qs ls p e = false := by rw [o_sm, beq_eq_false_iff_ne.mpr h]; rfl
theorem o_smL {xs qs ls : List Int32} {p e : Nat} (h : ¬ ls.getD (xs.getD e 0).toNatClampNeg 0 = ls.getD (xs.getD p 0).toNatClampNeg 0) : o_sm xs qs ls p e = false := by rw [o_sm, beq_eq_false_iff_ne.mpr h, Bool.and_false]
def o_rl (sm : Nat → Bool) : Nat → Nat → Int32
  | 0, e => Int32.ofNat e
  | n + 1, e => if sm e then o_rl sm n (e + 1) else Int32.ofNat e
theorem o_rlT {sm : Nat → Bool} {n e : Nat} (h : sm e = true) : o_rl sm (n + 1) e = o_rl sm n (e + 1) := by rw [o_rl, if_pos h]
theorem o_rlF {sm : Nat → Bool} {n e : Nat} (h : sm e = false) : o_rl sm (n + 1) e = Int32.ofNat e := by rw [o_rl, h]; rfl
def o_re (xs qs ls : List Int32) (p : Nat) : Int32 := o_rl (o_sm xs qs ls p) (3 - p) (p + 1)
def o_le (q l z : Int32) : Int32 := if z < q * 3 + l then 0 else 1
theorem o_f2 (y : Int32) : ∃ g : Fin 2, (y &&& 1) = Int32.ofNat g.val := by
  have h : (y &&& 1).toBitVec.toNat < 2 := by
    simp only [Int32.toBitVec_and, BitVec.toNat_and]
    exact Nat.lt_succ_of_le Nat.and_le_right
  refine ⟨⟨_, h⟩, ?_⟩
  apply Int32.toBitVec_inj.mp
  show _ = BitVec.ofNat 32 _
  rw [BitVec.ofNat_toNat]; simp
theorem o_f4 (y : Int32) : (y &&& 3) = 0 ∨ (y &&& 3) = 1 ∨ (y &&& 3) = 2 ∨ (y &&& 3) = 3 := by
  have h : (y &&& 3).toBitVec.toNat < 4 := by
    simp only [Int32.toBitVec_and, BitVec.toNat_and]
    exact Nat.lt_succ_of_le Nat.and_le_right
  have e : (y &&& 3) = Int32.ofNat (y &&& 3).toBitVec.toNat := by
    apply Int32.toBitVec_inj.mp
    show _ = BitVec.ofNat 32 _
    rw [BitVec.ofNat_toNat]; simp
  have t : ∀ k : Fin 4, Int32.ofNat k.val = 0 ∨ Int32.ofNat k.val = 1 ∨ Int32.ofNat k.val = 2 ∨ Int32.ofNat k.val = 3 := by decide +kernel
  rw [e]; exact t ⟨_, h⟩
theorem o_f3 (y : Int32) : ∃ f : Fin 3, (y &&& 255) % 3 = Int32.ofNat f.val := by
  have h0 : 0 ≤ (y &&& 255).toInt := by
    have h : (y &&& 255).toBitVec.toNat < 256 := by
      simp only [Int32.toBitVec_and, BitVec.toNat_and]
      exact Nat.lt_succ_of_le Nat.and_le_right
    have q : (y &&& 255).toBitVec.toInt = (y &&& 255).toInt := rfl
    rw [BitVec.toInt_eq_toNat_cond] at q
    split at q <;> omega
  have h1 : ((y &&& 255) % 3).toInt = (y &&& 255).toInt.tmod 3 := Int32.toInt_mod _ _
  have h2 : (y &&& 255).toInt.tmod 3 = (y &&& 255).toInt % 3 := Int.tmod_eq_emod_of_nonneg h0
  have h3 : ((y &&& 255) % 3).toInt = 0 ∨ ((y &&& 255) % 3).toInt = 1 ∨ ((y &&& 255) % 3).toInt = 2 := by omega
  rcases h3 with h | h | h
  · exact ⟨0, Int32.toInt_inj.mp h⟩
  · exact ⟨1, Int32.toInt_inj.mp h⟩
  · exact ⟨2, Int32.toInt_inj.mp h⟩
theorem o_jb2 : ∀ g : Fin 2, (¬ (Int32.ofNat g.val + 1) < 0 ∧ (Int32.ofNat g.val + 1) < 3) ∧ (Int32.ofNat g.val + 1).toNatClampNeg = g.val + 1 ∧ (¬ Int32.ofNat g.val < 0 ∧ Int32.ofNat g.val < 2) ∧ (Int32.ofNat g.val).toNatClampNeg = g.val := by decide +kernel
theorem o_jb3 : ∀ g : Fin 3, (¬ (Int32.ofNat g.val + 1) < 0 ∧ (Int32.ofNat g.val + 1) < 4) ∧ (Int32.ofNat g.val + 1).toNatClampNeg = g.val + 1 ∧ (¬ Int32.ofNat g.val < 0 ∧ Int32.ofNat g.val < 3) ∧ (Int32.ofNat g.val).toNatClampNeg = g.val := by decide +kernel
theorem o_d0_0 : decode prog_86_method_13_code 0 = .ok (.aload_n 0, 1) := by decide +kernel
theorem o_d0_1 : decode prog_86_method_13_code 1 = .ok (.iload_n 1, 1) := by decide +kernel
theorem o_d0_2 : decode prog_86_method_13_code 2 = .ok (.iaload, 1) := by decide +kernel
theorem o_d0_3 : decode prog_86_method_13_code 3 = .ok (.ireturn, 1) := by decide +kernel
theorem o_ef_lam0 (m : MethodId) (ar : Addr) (ix : Int32) : entryFrame m #[(.ref ar), (.int ix)] 2 = mkF m 0 #[.val (.ref ar), .val (.int ix)] [] := by first | (simp [entryFrame, mkF, argsToLocals, Value.category]; done) | rfl
theorem o_pf0 : plainFor (⟨"com/example/throng/throng/engine/NumberedAnswers", "lambda$new$0", "([II)I"⟩ : MethodName) = true := by first | exact plainFor_of_name (by first | (simp [plainName, overriddenIn]; done) | decide +kernel) | decide +kernel
def o_Q_lam0 (Z : State) (h0 : Heap) (ar : Addr) (ix : Int32) (kA : ClassId) (N : Int32) (vs : List Value) (rv : Int32) (v : Option Value) (h : Heap) (ms : List Addr) : Prop := (h0 = h) ∧ (ms = []) ∧ (v = some (.int rv))
theorem o_ct_lam0 (l : Launch) (Z : State) (a0 : Array Value) (hw : o_H a0 Z) (EL : List (String × Nat)) (hE : EW Z a0 EL) (n0 : Nat) (ws : List Jvm.Cond) (h0 : Heap) (O : Old Z n0 h0) (ar : Addr) (ix : Int32) (kA : ClassId) (N : Int32) (vs : List Value) (rv : Int32) (A_ar : Arv Z h0 ar kA .int N vs (.int 0)) (hr : ¬ ix < 0 ∧ ix < N) (hv : vs.getD ix.toNatClampNeg (.int 0) = .int rv) :
    o_Ct l Z EL n0 (⟨"com/example/throng/throng/engine/NumberedAnswers", "lambda$new$0", "([II)I"⟩ : MethodName) prog_86_method_13_code 2 (some .int) ws ({ frames := 0, cells := 0, slots := 0, locals := 0 } : Room) #[(.ref ar), (.int ix)] h0 [] (o_Q_lam0 Z h0 ar ix kA N vs rv) := by
 refine o_enter (a0 := a0) o_pf0 hE O fun p e s m below meth c T0 w0 => ?_
 rw [o_ef_lam0 m ar ix]
 refine o_aloadN (pc' := 1) w0 o_d0_0 rfl rfl rfl ?_
 refine o_iloadN (pc' := 2) w0 o_d0_1 rfl rfl ?_
 refine o_ldI (pc' := 3) w0 (v := (.int rv)) A_ar hr hv o_d0_2 rfl ?_
 exact o_retV w0 (t := .int) rfl rfl (Or.inl ⟨rfl, by simp, _, rfl⟩) o_d0_3 (by decide) (by decide) (ms' := []) all0 ⟨rfl, rfl, rfl⟩
theorem o_d1_0 : decode prog_86_method_12_code 0 = .ok (.aload_n 0, 1) := by decide +kernel
theorem o_d1_1 : decode prog_86_method_12_code 1 = .ok (.iload_n 1, 1) := by decide +kernel
theorem o_d1_2 : decode prog_86_method_12_code 2 = .ok (.iaload, 1) := by decide +kernel
theorem o_d1_3 : decode prog_86_method_12_code 3 = .ok (.ireturn, 1) := by decide +kernel
theorem o_ef_lam1 (m : MethodId) (ar : Addr) (ix : Int32) : entryFrame m #[(.ref ar), (.int ix)] 2 = mkF m 0 #[.val (.ref ar), .val (.int ix)] [] := by first | (simp [entryFrame, mkF, argsToLocals, Value.category]; done) | rfl
theorem o_pf1 : plainFor (⟨"com/example/throng/throng/engine/NumberedAnswers", "lambda$new$1", "([II)I"⟩ : MethodName) = true := by first | exact plainFor_of_name (by first | (simp [plainName, overriddenIn]; done) | decide +kernel) | decide +kernel
def o_Q_lam1 (Z : State) (h0 : Heap) (ar : Addr) (ix : Int32) (kA : ClassId) (N : Int32) (vs : List Value) (rv : Int32) (v : Option Value) (h : Heap) (ms : List Addr) : Prop := (h0 = h) ∧ (ms = []) ∧ (v = some (.int rv))
theorem o_ct_lam1 (l : Launch) (Z : State) (a0 : Array Value) (hw : o_H a0 Z) (EL : List (String × Nat)) (hE : EW Z a0 EL) (n0 : Nat) (ws : List Jvm.Cond) (h0 : Heap) (O : Old Z n0 h0) (ar : Addr) (ix : Int32) (kA : ClassId) (N : Int32) (vs : List Value) (rv : Int32) (A_ar : Arv Z h0 ar kA .int N vs (.int 0)) (hr : ¬ ix < 0 ∧ ix < N) (hv : vs.getD ix.toNatClampNeg (.int 0) = .int rv) :
    o_Ct l Z EL n0 (⟨"com/example/throng/throng/engine/NumberedAnswers", "lambda$new$1", "([II)I"⟩ : MethodName) prog_86_method_12_code 2 (some .int) ws ({ frames := 0, cells := 0, slots := 0, locals := 0 } : Room) #[(.ref ar), (.int ix)] h0 [] (o_Q_lam1 Z h0 ar ix kA N vs rv) := by
 refine o_enter (a0 := a0) o_pf1 hE O fun p e s m below meth c T0 w0 => ?_
 rw [o_ef_lam1 m ar ix]
 refine o_aloadN (pc' := 1) w0 o_d1_0 rfl rfl rfl ?_
 refine o_iloadN (pc' := 2) w0 o_d1_1 rfl rfl ?_
 refine o_ldI (pc' := 3) w0 (v := (.int rv)) A_ar hr hv o_d1_2 rfl ?_
 exact o_retV w0 (t := .int) rfl rfl (Or.inl ⟨rfl, by simp, _, rfl⟩) o_d1_3 (by decide) (by decide) (ms' := []) all0 ⟨rfl, rfl, rfl⟩
theorem o_d2_0 : decode prog_70_method_9_code 0 = .ok (.aload_n 0, 1) := by decide +kernel
theorem o_d2_1 : decode prog_70_method_9_code 1 = .ok (.aload_n 1, 1) := by decide +kernel
theorem o_d2_2 : decode prog_70_method_9_code 2 = .ok (.iload_n 2, 1) := by decide +kernel
theorem o_d2_3 : decode prog_70_method_9_code 3 = .ok (.iaload, 1) := by decide +kernel
theorem o_d2_4 : decode prog_70_method_9_code 4 = .ok (.invokeinterface 16 2, 5) := by decide +kernel
theorem o_w76 {Z a0} (hw : o_H a0 Z) : (.code ⟨"com/example/throng/throng/engine/NumberedAnswers", "lambda$new$0", "([II)I"⟩ prog_86_method_13_code 2 (Option.some Jvm.ClassFile.FieldType.int) : Jvm.Cond).before a0 Z = true := hw _ (List.mem_of_getElem? (i := 76) rfl)
theorem o_w3 {Z a0} (hw : o_H a0 Z) : (.initialized "com/example/throng/throng/engine/NumberedAnswers" : Jvm.Cond).before a0 Z = true := hw _ (List.mem_of_getElem? (i := 3) rfl)
theorem o_pd0 : parseMethodDescriptor "(I)I" = some ⟨[.int], some .int⟩ := by decide +kernel
theorem o_w34 {Z a0} (hw : o_H a0 Z) : (.methodLink "com/example/throng/throng/engine/Groups" 16 ⟨"java/util/function/IntUnaryOperator", "applyAsInt", "(I)I"⟩ : Jvm.Cond).before a0 Z = true := hw _ (List.mem_of_getElem? (i := 34) rfl)
theorem o_w35 {Z a0} (hw : o_H a0 Z) : (.declares ⟨"java/util/function/IntUnaryOperator", "applyAsInt", "(I)I"⟩ : Jvm.Cond).before a0 Z = true := hw _ (List.mem_of_getElem? (i := 35) rfl)
theorem o_w36 {Z a0} (hw : o_H a0 Z) : (.interfaceMethod "java/util/function/IntUnaryOperator" "java/util/function/IntUnaryOperator" "applyAsInt" "(I)I" : Jvm.Cond).before a0 Z = true := hw _ (List.mem_of_getElem? (i := 36) rfl)
theorem o_w75 {Z a0} (hw : o_H a0 Z) : (.static ⟨"com/example/throng/throng/engine/NumberedAnswers", "lambda$new$0", "([II)I"⟩ : Jvm.Cond).before a0 Z = true := hw _ (List.mem_of_getElem? (i := 75) rfl)
theorem o_pd1 : parseMethodDescriptor "([II)I" = some ⟨[(.array .int), .int], some .int⟩ := by decide +kernel
theorem o_w25 {Z a0} (hw : o_H a0 Z) : (.instantiable "java/lang/Object" 0 : Jvm.Cond).before a0 Z = true := hw _ (List.mem_of_getElem? (i := 25) rfl)
theorem o_d2_9 : decode prog_70_method_9_code 9 = .ok (.ireturn, 1) := by decide +kernel
theorem o_ef_lam2 (m : MethodId) (op : Addr) (bl : Addr) (ix : Int32) : entryFrame m #[(.ref op), (.ref bl), (.int ix)] 3 = mkF m 0 #[.val (.ref op), .val (.ref bl), .val (.int ix)] [] := by first | (simp [entryFrame, mkF, argsToLocals, Value.category]; done) | rfl
theorem o_pf2 : plainFor (⟨"com/example/throng/throng/engine/Groups", "lambda$of$0", "(Ljava/util/function/IntUnaryOperator;[II)I"⟩ : MethodName) = true := by first | exact plainFor_of_name (by first | (simp [plainName, overriddenIn]; done) | decide +kernel) | decide +kernel
def o_Q_lam2 (Z : State) (h0 : Heap) (op : Addr) (bl : Addr) (ix : Int32) (qa : Addr) (kq : ClassId) (vq : List Value) (kb : ClassId) (vb : List Value) (mid : Int32) (rv : Int32) (v : Option Value) (h : Heap) (ms : List Addr) : Prop := (h0 = h) ∧ (ms = []) ∧ (v = some (.int rv))
theorem o_ct_lam2 (l : Launch) (Z : State) (a0 : Array Value) (hw : o_H a0 Z) (EL : List (String × Nat)) (hE : EW Z a0 EL) (n0 : Nat) (ws : List Jvm.Cond) (h0 : Heap) (O : Old Z n0 h0) (op : Addr) (bl : Addr) (ix : Int32) (qa : Addr) (kq : ClassId) (vq : List Value) (kb : ClassId) (vb : List Value) (mid : Int32) (rv : Int32) (L_op : o_Lam Z h0 op (⟨"com/example/throng/throng/engine/NumberedAnswers", "<init>", "(III[I[I[I)V"⟩ : MethodName) 43 29 o_sh0 [(.ref qa)]) (A_qa : Arv Z h0 qa kq .int (4 : Int32) vq (.int 0)) (A_bl : Arv Z h0 bl kb .int (4 : Int32) vb (.int 0)) (hr : ¬ ix < 0 ∧ ix < 4) (hv1 : vb.getD ix.toNatClampNeg (.int 0) = .int mid) (hr2 : ¬ mid < 0 ∧ mid < 4) (hv2 : vq.getD mid.toNatClampNeg (.int 0) = .int rv) :
    o_Ct l Z EL n0 (⟨"com/example/throng/throng/engine/Groups", "lambda$of$0", "(Ljava/util/function/IntUnaryOperator;[II)I"⟩ : MethodName) prog_70_method_9_code 3 (some .int) ws ({ frames := 2, cells := 0, slots := 0, locals := 26 } : Room) #[(.ref op), (.ref bl), (.int ix)] h0 [] (o_Q_lam2 Z h0 op bl ix qa kq vq kb vb mid rv) := by
 refine o_enter (a0 := a0) o_pf2 hE O fun p e s m below meth c T0 w0 => ?_
 rw [o_ef_lam2 m op bl ix]
 refine o_aloadN (pc' := 1) w0 o_d2_0 rfl rfl rfl ?_
 refine o_aloadN (pc' := 2) w0 o_d2_1 rfl rfl rfl ?_
 refine o_iloadN (pc' := 3) w0 o_d2_2 rfl rfl ?_
 refine o_ldI (pc' := 4) w0 (v := (.int mid)) A_bl hr hv1 o_d2_3 rfl ?_
 refine o_callL (pc' := 9) w0 (x := (⟨"com/example/throng/throng/engine/NumberedAnswers", "<init>", "(III[I[I[I)V"⟩ : MethodName)) (xi := (⟨"java/util/function/IntUnaryOperator", "applyAsInt", "(I)I"⟩ : MethodName)) (y := (⟨"com/example/throng/throng/engine/NumberedAnswers", "lambda$new$0", "([II)I"⟩ : MethodName)) (pcS := 43) (idxS := 29) (σ := o_sh0) (vals := [(.ref qa)]) (argsL := [(.int mid)]) (argsT := [(.ref qa), (.int mid)]) (rest := []) (fcode := o_sh0_fc) (fml := 2) (L0 := #[.val (.ref op), .val (.int mid)]) (o_w34 hw) (o_w35 hw) (o_w36 hw) (o_w75 hw) (o_w3 hw) (o_w76 hw) o_sh0_xi o_sh0_y (by decide) L_op o_sh0_fwd o_sh0_f5 o_sh0_f8 (o_ct_lam0 l Z a0 hw EL hE n0 [] h0 (o_old w0) qa mid kq (4 : Int32) vq rv A_qa (hr2) (hv2)) (fun _ _ _ q_ => ⟨_, q_.2.2⟩) rfl rfl o_pd0 rfl o_pd1 rfl o_d2_4 rfl (fun _ => rfl) rfl (fun cK cell U ck blx target hx hmd hc1 hc2 hc3 hO hU hck hh hW kk => (XS.aloadN hU hx rfl (hb hck o_sh0_f0) rfl rfl (LamKit.getCap hx hU hW hmd o_sh0_cap0 hO (by rw [hh]; exact hc1) hc2 (v := (.ref qa)) (by rw [hc3]; rfl) rfl rfl (hb hck o_sh0_f1) (XS.iloadN hU hx rfl (hb hck o_sh0_f4) rfl kk)))) (o_w25 hw) (by decide) (W := 0) rfl (by decide) (by decide) (by decide) fun T1 h3 v4 ms5 w2 q6 => ?_
 obtain ⟨rfl, rfl, rfl⟩ := q6
 show o_Go Z EL n0 p e below s _ _ _ (T1.setTop (mkF m 9 _ [(.int rv)]))
 exact o_retV w2 (t := .int) rfl rfl (Or.inl ⟨rfl, by simp, _, rfl⟩) o_d2_9 (by decide) (by decide) (ms' := []) all0 ⟨rfl, rfl, rfl⟩
theorem o_d3_0 : decode jdk_29_method_69_code 0 = .ok (.iload_n 0, 1) := by decide +kernel
theorem o_d3_1 : decode jdk_29_method_69_code 1 = .ok (.iload_n 1, 1) := by decide +kernel
theorem o_d3_2 : decode jdk_29_method_69_code 2 = .ok (.if_icmp .gt 7, 3) := by decide +kernel
theorem o_d3_9 : decode jdk_29_method_69_code 9 = .ok (.iload_n 1, 1) := by decide +kernel
theorem o_d3_10 : decode jdk_29_method_69_code 10 = .ok (.ireturn, 1) := by decide +kernel
theorem o_d3_5 : decode jdk_29_method_69_code 5 = .ok (.iload_n 0, 1) := by decide +kernel
theorem o_d3_6 : decode jdk_29_method_69_code 6 = .ok (.goto 4, 3) := by decide +kernel
theorem o_ef_minR (m : MethodId) (xx : Int32) (yy : Int32) : entryFrame m #[(.int xx), (.int yy)] 2 = mkF m 0 #[.val (.int xx), .val (.int yy)] [] := by first | (simp [entryFrame, mkF, argsToLocals, Value.category]; done) | rfl
theorem o_pf3 : plainFor (⟨"java/lang/Math", "min", "(II)I"⟩ : MethodName) = true := by first | exact plainFor_of_name (by first | (simp [plainName, overriddenIn]; done) | decide +kernel) | decide +kernel
def o_Q_minR (Z : State) (h0 : Heap) (xx : Int32) (yy : Int32) (v : Option Value) (h : Heap) (ms : List Addr) : Prop := (h0 = h) ∧ (ms = []) ∧ (v = some (.int yy))
theorem o_ct_minR (l : Launch) (Z : State) (a0 : Array Value) (hw : o_H a0 Z) (EL : List (String × Nat)) (hE : EW Z a0 EL) (n0 : Nat) (ws : List Jvm.Cond) (h0 : Heap) (O : Old Z n0 h0) (xx : Int32) (yy : Int32) (hxy : ¬ xx < yy) :
    o_Ct l Z EL n0 (⟨"java/lang/Math", "min", "(II)I"⟩ : MethodName) jdk_29_method_69_code 2 (some .int) ws ({ frames := 0, cells := 0, slots := 0, locals := 0 } : Room) #[(.int xx), (.int yy)] h0 [] (o_Q_minR Z h0 xx yy) := by
 refine o_enter (a0 := a0) o_pf3 hE O fun p e s m below meth c T0 w0 => ?_
 rw [o_ef_minR m xx yy]
 refine o_iloadN (pc' := 1) w0 o_d3_0 rfl rfl ?_
 refine o_iloadN (pc' := 2) w0 o_d3_1 rfl rfl ?_
 refine o_icmp (pc' := 5) w0 o_d3_2 rfl (by decide) (pcY := 9) rfl (fun (hb2 : yy < xx) => ?_) (fun (hb2 : ¬ yy < xx) => ?_)
 ·
  refine o_iloadN (pc' := 10) w0 o_d3_9 rfl rfl ?_
  exact o_retV w0 (t := .int) rfl rfl (Or.inl ⟨rfl, by simp, _, rfl⟩) o_d3_10 (by decide) (by decide) (ms' := []) all0 ⟨rfl, rfl, rfl⟩
 ·
  refine o_iloadN (pc' := 6) w0 o_d3_5 rfl rfl ?_
  refine o_goto w0 o_d3_6 (by decide) (pc' := 10) rfl ?_
  exact o_retV w0 (t := .int) rfl rfl (Or.inl ⟨rfl, by simp, _, rfl⟩) o_d3_10 (by decide) (by decide) (ms' := []) all0 ⟨rfl, rfl, (by rw [o_ai hxy hb2])⟩
theorem o_d4_0 : decode jdk_65_method_123_code 0 = .ok (.iload_n 1, 1) := by decide +kernel
theorem o_d4_1 : decode jdk_65_method_123_code 1 = .ok (.aload_n 0, 1) := by decide +kernel
theorem o_d4_2 : decode jdk_65_method_123_code 2 = .ok (.arraylength, 1) := by decide +kernel
theorem o_d4_3 : decode jdk_65_method_123_code 3 = .ok (.if_icmp .ne 11, 3) := by decide +kernel
theorem o_d4_14 : decode jdk_65_method_123_code 14 = .ok (.iload_n 1, 1) := by decide +kernel
theorem o_d4_15 : decode jdk_65_method_123_code 15 = .ok (.newarray .int, 2) := by decide +kernel
theorem o_w0 {Z a0} (hw : o_H a0 Z) : (.arrayClass Jvm.ClassFile.FieldType.int : Jvm.Cond).before a0 Z = true := hw _ (List.mem_of_getElem? (i := 0) rfl)
theorem o_d4_17 : decode jdk_65_method_123_code 17 = .ok (.astore_n 2, 1) := by decide +kernel
theorem o_d4_18 : decode jdk_65_method_123_code 18 = .ok (.aload_n 0, 1) := by decide +kernel
theorem o_d4_19 : decode jdk_65_method_123_code 19 = .ok (.iconst 0, 1) := by decide +kernel
theorem o_d4_20 : decode jdk_65_method_123_code 20 = .ok (.aload_n 2, 1) := by decide +kernel
theorem o_d4_21 : decode jdk_65_method_123_code 21 = .ok (.iconst 0, 1) := by decide +kernel
theorem o_d4_22 : decode jdk_65_method_123_code 22 = .ok (.aload_n 0, 1) := by decide +kernel
theorem o_d4_23 : decode jdk_65_method_123_code 23 = .ok (.arraylength, 1) := by decide +kernel
theorem o_d4_24 : decode jdk_65_method_123_code 24 = .ok (.iload_n 1, 1) := by decide +kernel
theorem o_d4_25 : decode jdk_65_method_123_code 25 = .ok (.invokestatic 304, 3) := by decide +kernel
theorem o_w46 {Z a0} (hw : o_H a0 Z) : (.code ⟨"java/lang/Math", "min", "(II)I"⟩ jdk_29_method_69_code 2 (Option.some Jvm.ClassFile.FieldType.int) : Jvm.Cond).before a0 Z = true := hw _ (List.mem_of_getElem? (i := 46) rfl)
theorem o_w45 {Z a0} (hw : o_H a0 Z) : (.initialized "java/lang/Math" : Jvm.Cond).before a0 Z = true := hw _ (List.mem_of_getElem? (i := 45) rfl)
theorem o_pd2 : parseMethodDescriptor "(II)I" = some ⟨[.int, .int], some .int⟩ := by decide +kernel
theorem o_w43 {Z a0} (hw : o_H a0 Z) : (.methodLink "java/util/Arrays" 304 ⟨"java/lang/Math", "min", "(II)I"⟩ : Jvm.Cond).before a0 Z = true := hw _ (List.mem_of_getElem? (i := 43) rfl)
theorem o_w44 {Z a0} (hw : o_H a0 Z) : (.static ⟨"java/lang/Math", "min", "(II)I"⟩ : Jvm.Cond).before a0 Z = true := hw _ (List.mem_of_getElem? (i := 44) rfl)
theorem o_d4_28 : decode jdk_65_method_123_code 28 = .ok (.invokestatic 150, 3) := by decide +kernel
theorem o_w47 {Z a0} (hw : o_H a0 Z) : (.methodLink "java/util/Arrays" 150 ⟨"java/lang/System", "arraycopy", "(Ljava/lang/Object;ILjava/lang/Object;II)V"⟩ : Jvm.Cond).before a0 Z = true := hw _ (List.mem_of_getElem? (i := 47) rfl)
theorem o_w50 {Z a0} (hw : o_H a0 Z) : (.native ⟨"java/lang/System", "arraycopy", "(Ljava/lang/Object;ILjava/lang/Object;II)V"⟩ : Jvm.Cond).before a0 Z = true := hw _ (List.mem_of_getElem? (i := 50) rfl)
theorem o_w48 {Z a0} (hw : o_H a0 Z) : (.static ⟨"java/lang/System", "arraycopy", "(Ljava/lang/Object;ILjava/lang/Object;II)V"⟩ : Jvm.Cond).before a0 Z = true := hw _ (List.mem_of_getElem? (i := 48) rfl)
theorem o_w49 {Z a0} (hw : o_H a0 Z) : (.initialized "java/lang/System" : Jvm.Cond).before a0 Z = true := hw _ (List.mem_of_getElem? (i := 49) rfl)
theorem o_d4_31 : decode jdk_65_method_123_code 31 = .ok (.aload_n 2, 1) := by decide +kernel
theorem o_d4_32 : decode jdk_65_method_123_code 32 = .ok (.areturn, 1) := by decide +kernel
theorem o_ef_cpy2 (m : MethodId) (ar : Addr) : entryFrame m #[(.ref ar), (.int (2 : Int32))] 3 = mkF m 0 #[.val (.ref ar), .val (.int (2 : Int32)), .unset] [] := by first | (simp [entryFrame, mkF, argsToLocals, Value.category]; done) | rfl
theorem o_pf4 : plainFor (⟨"java/util/Arrays", "copyOf", "([II)[I"⟩ : MethodName) = true := by first | exact plainFor_of_name (by first | (simp [plainName, overriddenIn]; done) | decide +kernel) | decide +kernel
def o_Q_cpy2 (Z : State) (h0 : Heap) (ar : Addr) (kA : ClassId) (xs : List Int32) (v : Option Value) (h : Heap) (ms : List Addr) : Prop := (Keep h0 h []) ∧ (∃ (r : Addr) (kR : ClassId), (ms = [r]) ∧ (v = some (.ref r)) ∧ (Arv Z h r kR .int (2 : Int32) (o_iv (o_tk xs 2)) (.int 0)) ∧ (h0.size ≤ r))
theorem o_ct_cpy2 (l : Launch) (Z : State) (a0 : Array Value) (hw : o_H a0 Z) (EL : List (String × Nat)) (hE : EW Z a0 EL) (n0 : Nat) (ws : List Jvm.Cond) (h0 : Heap) (O : Old Z n0 h0) (ar : Addr) (kA : ClassId) (xs : List Int32) (A_ar : Arv Z h0 ar kA .int (3 : Int32) (o_iv xs) (.int 0)) :
    o_Ct l Z EL n0 (⟨"java/util/Arrays", "copyOf", "([II)[I"⟩ : MethodName) jdk_65_method_123_code 3 (some (.array .int)) ws ({ frames := 1, cells := 1, slots := 2, locals := 18 } : Room) #[(.ref ar), (.int (2 : Int32))] h0 [] (o_Q_cpy2 Z h0 ar kA xs) := by
 refine o_enter (a0 := a0) o_pf4 hE O fun p e s m below meth c T0 w0 => ?_
 rw [o_ef_cpy2 m ar]
 have K : Keep h0 h0 [] := Keep.refl _ _
 refine o_iloadN (pc' := 1) w0 o_d4_0 rfl rfl ?_
 refine o_aloadN (pc' := 2) w0 o_d4_1 rfl rfl rfl ?_
 refine o_len (pc' := 3) w0 A_ar o_d4_2 rfl ?_
 refine o_icmp (pc' := 6) w0 o_d4_3 rfl (by decide) (pcY := 14) rfl (fun (hb3 : ¬ (2 : Int32) = (3 : Int32)) => ?_) (fun (hb3 : (2 : Int32) = (3 : Int32)) => absurd hb3 (by decide))
 refine o_iloadN (pc' := 15) w0 o_d4_14 rfl rfl ?_
 refine o_newP (pc' := 17) w0 (aty := .int) (z := (2 : Int32)) (vs := [(.int 0), (.int 0)]) (dv := (.int 0)) (cap := 2) (o_w0 hw) o_d4_15 rfl (by decide) (by decide) (by decide) rfl (o_rep 2 (.int 0)) (by decide) (by decide) fun T1 h3 a5 g_a5 w2 E4 ⟨k_a5, A_a5⟩ => ?_
 have ne_ar_a5 : ar ≠ a5 := Nat.ne_of_lt (Nat.lt_of_lt_of_le A_ar.lt (Nat.le_of_eq g_a5))
 have nw_a5 : h0.size ≤ a5 := Nat.le_trans K.1 (Nat.le_of_eq g_a5)
 replace A_ar := A_ar.ext E4
 replace K := K.ext E4
 refine o_astoreN (pc' := 18) w2 o_d4_17 rfl (Ls' := #[.val (.ref ar), .val (.int (2 : Int32)), .val (.ref a5)]) rfl rfl ?_
 refine o_aloadN (pc' := 19) w2 o_d4_18 rfl rfl rfl ?_
 refine o_iconst (pc' := 20) w2 o_d4_19 (x := (0 : Int32)) rfl rfl ?_
 refine o_aloadN (pc' := 21) w2 o_d4_20 rfl rfl rfl ?_
 refine o_iconst (pc' := 22) w2 o_d4_21 (x := (0 : Int32)) rfl rfl ?_
 refine o_aloadN (pc' := 23) w2 o_d4_22 rfl rfl rfl ?_
 refine o_len (pc' := 24) w2 A_ar o_d4_23 rfl ?_
 refine o_iloadN (pc' := 25) w2 o_d4_24 rfl rfl ?_
 refine o_callS (pc' := 28) w2 (o_w43 hw) (o_w44 hw) (o_w45 hw) (o_w46 hw) (by decide) (o_ct_minR l Z a0 hw EL hE n0 [] h3 (o_old w2) (3 : Int32) (2 : Int32) (by decide)) all0 (argsL := [(.int (3 : Int32)), (.int (2 : Int32))]) (rest := [(.int (0 : Int32)), (.ref a5), (.int (0 : Int32)), (.ref ar)]) rfl rfl o_pd2 rfl o_d4_25 rfl (by decide) (W := 4) rfl (by decide) (by decide) (by decide) fun T6 h8 v9 ms10 w7 q11 => ?_
 obtain ⟨rfl, rfl, rfl⟩ := q11
 show o_Go Z EL n0 p e below s _ _ _ (T6.setTop (mkF m 28 _ [(.int (2 : Int32)), (.int (0 : Int32)), (.ref a5), (.int (0 : Int32)), (.ref ar)]))
 refine o_acopy (pc' := 31) w7 (us := (o_iv (o_tk xs 2))) (vs' := (o_iv (o_tk xs 2))) (o_w47 hw) (o_w50 hw) (o_w48 hw) (o_w49 hw) (by simp) A_ar A_a5 rfl (by decide) (by decide) (by decide) (by decide) (by decide) (o_tku xs rfl) (by decide) (List.append_nil _) rfl o_d4_28 rfl (by decide) (W := 0) (Nat.le_of_eq rfl) (by decide) fun T12 h14 w13 K15 A_new => ?_
 clear A_a5
 replace A_ar := A_ar.keep K15 (ninS ne_ar_a5 nin0)
 replace K := K.trans K15 (allS (P := fun x => x ∈ ([] : List Addr) ∨ h0.size ≤ x) (Or.inr nw_a5) all0)
 have A_a5 := A_new; clear A_new
 show o_Go Z EL n0 p e below s _ _ _ (T12.setTop (mkF m 31 _ []))
 refine o_aloadN (pc' := 32) w13 o_d4_31 rfl rfl rfl ?_
 exact o_retV w13 (t := (.array .int)) rfl (o_narR rfl rfl) (Or.inr (Or.inr (Or.inr (Or.inr ⟨rfl, rfl, rfl⟩)))) o_d4_32 (by decide) (by decide) (ms' := [a5]) (allS (P := fun x => x ∈ _) (by simp) all0) ⟨K, a5, k_a5, rfl, rfl, A_a5, nw_a5⟩
theorem o_ef_cpy3 (m : MethodId) (ar : Addr) : entryFrame m #[(.ref ar), (.int (3 : Int32))] 3 = mkF m 0 #[.val (.ref ar), .val (.int (3 : Int32)), .unset] [] := by first | (simp [entryFrame, mkF, argsToLocals, Value.category]; done) | rfl
def o_Q_cpy3 (Z : State) (h0 : Heap) (ar : Addr) (kA : ClassId) (xs : List Int32) (v : Option Value) (h : Heap) (ms : List Addr) : Prop := (Keep h0 h []) ∧ (∃ (r : Addr) (kR : ClassId), (ms = [r]) ∧ (v = some (.ref r)) ∧ (Arv Z h r kR .int (3 : Int32) (o_iv (o_tk xs 3)) (.int 0)) ∧ (h0.size ≤ r))
theorem o_ct_cpy3 (l : Launch) (Z : State) (a0 : Array Value) (hw : o_H a0 Z) (EL : List (String × Nat)) (hE : EW Z a0 EL) (n0 : Nat) (ws : List Jvm.Cond) (h0 : Heap) (O : Old Z n0 h0) (ar : Addr) (kA : ClassId) (xs : List Int32) (A_ar : Arv Z h0 ar kA .int (4 : Int32) (o_iv xs) (.int 0)) :
    o_Ct l Z EL n0 (⟨"java/util/Arrays", "copyOf", "([II)[I"⟩ : MethodName) jdk_65_method_123_code 3 (some (.array .int)) ws ({ frames := 1, cells := 1, slots := 3, locals := 18 } : Room) #[(.ref ar), (.int (3 : Int32))] h0 [] (o_Q_cpy3 Z h0 ar kA xs) := by
 refine o_enter (a0 := a0) o_pf4 hE O fun p e s m below meth c T0 w0 => ?_
 rw [o_ef_cpy3 m ar]
 have K : Keep h0 h0 [] := Keep.refl _ _
 refine o_iloadN (pc' := 1) w0 o_d4_0 rfl rfl ?_
 refine o_aloadN (pc' := 2) w0 o_d4_1 rfl rfl rfl ?_
 refine o_len (pc' := 3) w0 A_ar o_d4_2 rfl ?_
 refine o_icmp (pc' := 6) w0 o_d4_3 rfl (by decide) (pcY := 14) rfl (fun (hb3 : ¬ (3 : Int32) = (4 : Int32)) => ?_) (fun (hb3 : (3 : Int32) = (4 : Int32)) => absurd hb3 (by decide))
 refine o_iloadN (pc' := 15) w0 o_d4_14 rfl rfl ?_
 refine o_newP (pc' := 17) w0 (aty := .int) (z := (3 : Int32)) (vs := [(.int 0), (.int 0), (.int 0)]) (dv := (.int 0)) (cap := 3) (o_w0 hw) o_d4_15 rfl (by decide) (by decide) (by decide) rfl (o_rep 3 (.int 0)) (by decide) (by decide) fun T1 h3 a5 g_a5 w2 E4 ⟨k_a5, A_a5⟩ => ?_
 have ne_ar_a5 : ar ≠ a5 := Nat.ne_of_lt (Nat.lt_of_lt_of_le A_ar.lt (Nat.le_of_eq g_a5))
 have nw_a5 : h0.size ≤ a5 := Nat.le_trans K.1 (Nat.le_of_eq g_a5)
 replace A_ar := A_ar.ext E4
 replace K := K.ext E4
 refine o_astoreN (pc' := 18) w2 o_d4_17 rfl (Ls' := #[.val (.ref ar), .val (.int (3 : Int32)), .val (.ref a5)]) rfl rfl ?_
 refine o_aloadN (pc' := 19) w2 o_d4_18 rfl rfl rfl ?_
 refine o_iconst (pc' := 20) w2 o_d4_19 (x := (0 : Int32)) rfl rfl ?_
 refine o_aloadN (pc' := 21) w2 o_d4_20 rfl rfl rfl ?_
 refine o_iconst (pc' := 22) w2 o_d4_21 (x := (0 : Int32)) rfl rfl ?_
 refine o_aloadN (pc' := 23) w2 o_d4_22 rfl rfl rfl ?_
 refine o_len (pc' := 24) w2 A_ar o_d4_23 rfl ?_
 refine o_iloadN (pc' := 25) w2 o_d4_24 rfl rfl ?_
 refine o_callS (pc' := 28) w2 (o_w43 hw) (o_w44 hw) (o_w45 hw) (o_w46 hw) (by decide) (o_ct_minR l Z a0 hw EL hE n0 [] h3 (o_old w2) (4 : Int32) (3 : Int32) (by decide)) all0 (argsL := [(.int (4 : Int32)), (.int (3 : Int32))]) (rest := [(.int (0 : Int32)), (.ref a5), (.int (0 : Int32)), (.ref ar)]) rfl rfl o_pd2 rfl o_d4_25 rfl (by decide) (W := 4) rfl (by decide) (by decide) (by decide) fun T6 h8 v9 ms10 w7 q11 => ?_
 obtain ⟨rfl, rfl, rfl⟩ := q11
 show o_Go Z EL n0 p e below s _ _ _ (T6.setTop (mkF m 28 _ [(.int (3 : Int32)), (.int (0 : Int32)), (.ref a5), (.int (0 : Int32)), (.ref ar)]))
 refine o_acopy (pc' := 31) w7 (us := (o_iv (o_tk xs 3))) (vs' := (o_iv (o_tk xs 3))) (o_w47 hw) (o_w50 hw) (o_w48 hw) (o_w49 hw) (by simp) A_ar A_a5 rfl (by decide) (by decide) (by decide) (by decide) (by decide) (o_tku xs rfl) (by decide) (List.append_nil _) rfl o_d4_28 rfl (by decide) (W := 0) (Nat.le_of_eq rfl) (by decide) fun T12 h14 w13 K15 A_new => ?_
 clear A_a5
 replace A_ar := A_ar.keep K15 (ninS ne_ar_a5 nin0)
 replace K := K.trans K15 (allS (P := fun x => x ∈ ([] : List Addr) ∨ h0.size ≤ x) (Or.inr nw_a5) all0)
 have A_a5 := A_new; clear A_new
 show o_Go Z EL n0 p e below s _ _ _ (T12.setTop (mkF m 31 _ []))
 refine o_aloadN (pc' := 32) w13 o_d4_31 rfl rfl rfl ?_
 exact o_retV w13 (t := (.array .int)) rfl (o_narR rfl rfl) (Or.inr (Or.inr (Or.inr (Or.inr ⟨rfl, rfl, rfl⟩)))) o_d4_32 (by decide) (by decide) (ms' := [a5]) (allS (P := fun x => x ∈ _) (by simp) all0) ⟨K, a5, k_a5, rfl, rfl, A_a5, nw_a5⟩
theorem o_d5_0 : decode jdk_30_method_1_code 0 = .ok (.aload_n 0, 1) := by decide +kernel
theorem o_d5_1 : decode jdk_30_method_1_code 1 = .ok (.invokespecial 1, 3) := by decide +kernel
theorem o_w61 {Z a0} (hw : o_H a0 Z) : (.methodLink "java/lang/Record" 1 ⟨"java/lang/Object", "<init>", "()V"⟩ : Jvm.Cond).before a0 Z = true := hw _ (List.mem_of_getElem? (i := 61) rfl)
theorem o_w8 {Z a0} (hw : o_H a0 Z) : (.instanceMethod ⟨"java/lang/Object", "<init>", "()V"⟩ : Jvm.Cond).before a0 Z = true := hw _ (List.mem_of_getElem? (i := 8) rfl)
theorem o_w9 {Z a0} (hw : o_H a0 Z) : (.code ⟨"java/lang/Object", "<init>", "()V"⟩ object_method_1_code 1 (Option.none : Option Jvm.ClassFile.FieldType) : Jvm.Cond).before a0 Z = true := hw _ (List.mem_of_getElem? (i := 9) rfl)
theorem o_d5_4 : decode jdk_30_method_1_code 4 = .ok (.return_, 1) := by decide +kernel
theorem o_ef_recInit (m : MethodId) (a1 : Addr) : entryFrame m #[(.ref a1)] 1 = mkF m 0 #[.val (.ref a1)] [] := by first | (simp [entryFrame, mkF, argsToLocals, Value.category]; done) | rfl
theorem o_pf5 : plainFor (⟨"java/lang/Record", "<init>", "()V"⟩ : MethodName) = true := by first | exact plainFor_of_name (by first | (simp [plainName, overriddenIn]; done) | decide +kernel) | decide +kernel
def o_Q_recInit (Z : State) (h0 : Heap) (a1 : Addr) (v : Option Value) (h : Heap) (ms : List Addr) : Prop := (h0 = h) ∧ (ms = []) ∧ (v = none)
theorem o_ct_recInit (l : Launch) (Z : State) (a0 : Array Value) (hw : o_H a0 Z) (EL : List (String × Nat)) (hE : EW Z a0 EL) (n0 : Nat) (ws : List Jvm.Cond) (h0 : Heap) (O : Old Z n0 h0) (a1 : Addr)  :
    o_Ct l Z EL n0 (⟨"java/lang/Record", "<init>", "()V"⟩ : MethodName) jdk_30_method_1_code 1 none ws ({ frames := 1, cells := 0, slots := 0, locals := 12 } : Room) #[(.ref a1)] h0 [] (o_Q_recInit Z h0 a1) := by
 refine o_enter (a0 := a0) o_pf5 hE O fun p e s m below meth c T0 w0 => ?_
 rw [o_ef_recInit m a1]
 refine o_aloadN (pc' := 1) w0 o_d5_0 rfl rfl rfl ?_
 refine o_initO (pc' := 4) w0 (o_w61 hw) (o_w8 hw) (o_w9 hw) rfl o_d5_1 rfl (by decide) (W := 0) (Nat.le_of_eq rfl) (by decide) fun T1 w2 => ?_
 exact o_ret0 w2 rfl o_d5_4 (by decide) (by decide) (ms' := []) all0 ⟨rfl, rfl, rfl⟩
theorem o_d6_0 : decode prog_70_method_1_code 0 = .ok (.aload_n 0, 1) := by decide +kernel
theorem o_d6_1 : decode prog_70_method_1_code 1 = .ok (.invokespecial 1, 3) := by decide +kernel
theorem o_w60 {Z a0} (hw : o_H a0 Z) : (.code ⟨"java/lang/Record", "<init>", "()V"⟩ jdk_30_method_1_code 1 (Option.none : Option Jvm.ClassFile.FieldType) : Jvm.Cond).before a0 Z = true := hw _ (List.mem_of_getElem? (i := 60) rfl)
theorem o_w59 {Z a0} (hw : o_H a0 Z) : (.initialized "java/lang/Record" : Jvm.Cond).before a0 Z = true := hw _ (List.mem_of_getElem? (i := 59) rfl)
theorem o_pd3 : parseMethodDescriptor "()V" = some ⟨[], none⟩ := by decide +kernel
theorem o_w56 {Z a0} (hw : o_H a0 Z) : (.methodLink "com/example/throng/throng/engine/Groups" 1 ⟨"java/lang/Record", "<init>", "()V"⟩ : Jvm.Cond).before a0 Z = true := hw _ (List.mem_of_getElem? (i := 56) rfl)
theorem o_w57 {Z a0} (hw : o_H a0 Z) : (.instanceMethod ⟨"java/lang/Record", "<init>", "()V"⟩ : Jvm.Cond).before a0 Z = true := hw _ (List.mem_of_getElem? (i := 57) rfl)
theorem o_d6_4 : decode prog_70_method_1_code 4 = .ok (.aload_n 0, 1) := by decide +kernel
theorem o_d6_5 : decode prog_70_method_1_code 5 = .ok (.aload_n 1, 1) := by decide +kernel
theorem o_d6_6 : decode prog_70_method_1_code 6 = .ok (.putfield 7, 3) := by decide +kernel
theorem o_w62 {Z a0} (hw : o_H a0 Z) : (.fieldLink "com/example/throng/throng/engine/Groups" 7 "com/example/throng/throng/engine/Groups" "start" "[I" : Jvm.Cond).before a0 Z = true := hw _ (List.mem_of_getElem? (i := 62) rfl)
theorem o_w63 {Z a0} (hw : o_H a0 Z) : (.laysFinal "com/example/throng/throng/engine/Groups" "com/example/throng/throng/engine/Groups" "start" "[I" : Jvm.Cond).before a0 Z = true := hw _ (List.mem_of_getElem? (i := 63) rfl)
theorem o_w52 {Z a0} (hw : o_H a0 Z) : (.instantiable "com/example/throng/throng/engine/Groups" 2 : Jvm.Cond).before a0 Z = true := hw _ (List.mem_of_getElem? (i := 52) rfl)
theorem o_w65 {Z a0} (hw : o_H a0 Z) : (.laysFinal "com/example/throng/throng/engine/Groups" "com/example/throng/throng/engine/Groups" "items" "[I" : Jvm.Cond).before a0 Z = true := hw _ (List.mem_of_getElem? (i := 65) rfl)
theorem o_d6_9 : decode prog_70_method_1_code 9 = .ok (.aload_n 0, 1) := by decide +kernel
theorem o_d6_10 : decode prog_70_method_1_code 10 = .ok (.aload_n 2, 1) := by decide +kernel
theorem o_d6_11 : decode prog_70_method_1_code 11 = .ok (.putfield 13, 3) := by decide +kernel
theorem o_w64 {Z a0} (hw : o_H a0 Z) : (.fieldLink "com/example/throng/throng/engine/Groups" 13 "com/example/throng/throng/engine/Groups" "items" "[I" : Jvm.Cond).before a0 Z = true := hw _ (List.mem_of_getElem? (i := 64) rfl)
theorem o_d6_14 : decode prog_70_method_1_code 14 = .ok (.return_, 1) := by decide +kernel
theorem o_ef_grI (m : MethodId) (a1 : Addr) (r1 : Addr) (r2 : Addr) : entryFrame m #[(.ref a1), (.ref r1), (.ref r2)] 3 = mkF m 0 #[.val (.ref a1), .val (.ref r1), .val (.ref r2)] [] := by first | (simp [entryFrame, mkF, argsToLocals, Value.category]; done) | rfl
theorem o_pf6 : plainFor (⟨"com/example/throng/throng/engine/Groups", "<init>", "([I[I)V"⟩ : MethodName) = true := by first | exact plainFor_of_name (by first | (simp [plainName, overriddenIn]; done) | decide +kernel) | decide +kernel
def o_Q_grI (Z : State) (h0 : Heap) (a1 : Addr) (r1 : Addr) (r2 : Addr) (u1 : Value) (u2 : Value) (v : Option Value) (h : Heap) (ms : List Addr) : Prop := (Keep h0 h [a1]) ∧ (ms = []) ∧ (v = none) ∧ (Exa Z h a1 "com/example/throng/throng/engine/Groups") ∧ (Fld Z h a1 "com/example/throng/throng/engine/Groups" "start" "[I" (.ref r1)) ∧ (Fld Z h a1 "com/example/throng/throng/engine/Groups" "items" "[I" (.ref r2))
theorem o_ct_grI (l : Launch) (Z : State) (a0 : Array Value) (hw : o_H a0 Z) (EL : List (String × Nat)) (hE : EW Z a0 EL) (n0 : Nat) (ws : List Jvm.Cond) (h0 : Heap) (O : Old Z n0 h0) (a1 : Addr) (r1 : Addr) (r2 : Addr) (u1 : Value) (u2 : Value) (E_a1 : Exa Z h0 a1 "com/example/throng/throng/engine/Groups") (F_a1_start : Fld Z h0 a1 "com/example/throng/throng/engine/Groups" "start" "[I" u1) (F_a1_items : Fld Z h0 a1 "com/example/throng/throng/engine/Groups" "items" "[I" u2) :
    o_Ct l Z EL n0 (⟨"com/example/throng/throng/engine/Groups", "<init>", "([I[I)V"⟩ : MethodName) prog_70_method_1_code 3 none ws ({ frames := 2, cells := 0, slots := 0, locals := 24 } : Room) #[(.ref a1), (.ref r1), (.ref r2)] h0 [a1] (o_Q_grI Z h0 a1 r1 r2 u1 u2) := by
 refine o_enter (a0 := a0) o_pf6 hE O fun p e s m below meth c T0 w0 => ?_
 rw [o_ef_grI m a1 r1 r2]
 have K : Keep h0 h0 [a1] := Keep.refl _ _
 refine o_aloadN (pc' := 1) w0 o_d6_0 rfl rfl rfl ?_
 refine o_callI (pc' := 4) w0 rfl (o_w56 hw) (o_w57 hw) (o_w59 hw) (o_w60 hw) (by decide) (o_ct_recInit l Z a0 hw EL hE n0 [] h0 (o_old w0) a1 ) all0 (argsL := []) (rest := []) rfl rfl o_pd3 rfl o_d6_1 rfl (by decide) (W := 0) rfl (by decide) (by decide) (by decide) fun T1 h3 v4 ms5 w2 q6 => ?_
 obtain ⟨rfl, rfl, rfl⟩ := q6
 show o_Go Z EL n0 p e below s _ _ _ (T1.setTop (mkF m 4 _ []))
 refine o_aloadN (pc' := 5) w2 o_d6_4 rfl rfl rfl ?_
 refine o_aloadN (pc' := 6) w2 o_d6_5 rfl rfl rfl ?_
 refine o_putF (pc' := 9) w2 (host := "") (Or.inl (o_w62 hw)) Via.refl (by simp) F_a1_start E_a1 (Or.inr ⟨(o_w63 hw), rfl, rfl⟩) (o_w52 hw) (ty := (.array .int)) (by decide) rfl rfl o_d6_6 rfl fun T7 h9 w8 W10 => ?_
 replace F_a1_start := F_a1_start.same W10
 replace E_a1 := E_a1.wr W10
 replace F_a1_items := F_a1_items.other W10 (Or.inr (slot_ne (Or.inr (o_w65 hw)) (Or.inr (o_w63 hw)) (by decide) (t := (.array .int)) (t' := (.array .int)) (by decide) (by decide)))
 replace K := K.wr W10 (Or.inl (by simp))
 refine o_aloadN (pc' := 10) w8 o_d6_9 rfl rfl rfl ?_
 refine o_aloadN (pc' := 11) w8 o_d6_10 rfl rfl rfl ?_
 refine o_putF (pc' := 14) w8 (host := "") (Or.inl (o_w64 hw)) Via.refl (by simp) F_a1_items E_a1 (Or.inr ⟨(o_w65 hw), rfl, rfl⟩) (o_w52 hw) (ty := (.array .int)) (by decide) rfl rfl o_d6_11 rfl fun T11 h13 w12 W14 => ?_
 replace F_a1_items := F_a1_items.same W14
 replace E_a1 := E_a1.wr W14
 replace F_a1_start := F_a1_start.other W14 (Or.inr (slot_ne (Or.inr (o_w63 hw)) (Or.inr (o_w65 hw)) (by decide) (t := (.array .int)) (t' := (.array .int)) (by decide) (by decide)))
 replace K := K.wr W14 (Or.inl (by simp))
 exact o_ret0 w12 rfl o_d6_14 (by decide) (by decide) (ms' := []) all0 ⟨K, rfl, rfl, E_a1, F_a1_start, F_a1_items⟩
theorem o_d7_0 : decode prog_70_method_8_code 0 = .ok (.aload_n 0, 1) := by decide +kernel
theorem o_d7_1 : decode prog_70_method_8_code 1 = .ok (.getfield 13, 3) := by decide +kernel
theorem o_d7_4 : decode prog_70_method_8_code 4 = .ok (.areturn, 1) := by decide +kernel
theorem o_ef_gItems (m : MethodId) (a1 : Addr) : entryFrame m #[(.ref a1)] 1 = mkF m 0 #[.val (.ref a1)] [] := by first | (simp [entryFrame, mkF, argsToLocals, Value.category]; done) | rfl
theorem o_pf7 : plainFor (⟨"com/example/throng/throng/engine/Groups", "items", "()[I"⟩ : MethodName) = true := by first | exact plainFor_of_name (by first | (simp [plainName, overriddenIn]; done) | decide +kernel) | decide +kernel
def o_Q_gItems (Z : State) (h0 : Heap) (a1 : Addr) (rp : Addr) (v : Option Value) (h : Heap) (ms : List Addr) : Prop := (h0 = h) ∧ (ms = []) ∧ (v = some (.ref rp))
theorem o_ct_gItems (l : Launch) (Z : State) (a0 : Array Value) (hw : o_H a0 Z) (EL : List (String × Nat)) (hE : EW Z a0 EL) (n0 : Nat) (ws : List Jvm.Cond) (h0 : Heap) (O : Old Z n0 h0) (a1 : Addr) (rp : Addr) (F_a1_items : Fld Z h0 a1 "com/example/throng/throng/engine/Groups" "items" "[I" (.ref rp)) :
    o_Ct l Z EL n0 (⟨"com/example/throng/throng/engine/Groups", "items", "()[I"⟩ : MethodName) prog_70_method_8_code 1 (some (.array .int)) ws ({ frames := 0, cells := 0, slots := 0, locals := 0 } : Room) #[(.ref a1)] h0 [] (o_Q_gItems Z h0 a1 rp) := by
 refine o_enter (a0 := a0) o_pf7 hE O fun p e s m below meth c T0 w0 => ?_
 rw [o_ef_gItems m a1]
 refine o_aloadN (pc' := 1) w0 o_d7_0 rfl rfl rfl ?_
 refine o_getF (pc' := 4) w0 (host := "") (Or.inl (o_w64 hw)) Via.refl F_a1_items o_d7_1 rfl fun T1 w2 => ?_
 exact o_retV w2 (t := (.array .int)) rfl (o_narR rfl rfl) (Or.inr (Or.inr (Or.inr (Or.inr ⟨rfl, rfl, rfl⟩)))) o_d7_4 (by decide) (by decide) (ms' := []) all0 ⟨rfl, rfl, rfl⟩
theorem o_d8_0 : decode prog_70_method_7_code 0 = .ok (.aload_n 0, 1) := by decide +kernel
theorem o_d8_1 : decode prog_70_method_7_code 1 = .ok (.getfield 7, 3) := by decide +kernel
theorem o_d8_4 : decode prog_70_method_7_code 4 = .ok (.areturn, 1) := by decide +kernel
theorem o_ef_gStart (m : MethodId) (a1 : Addr) : entryFrame m #[(.ref a1)] 1 = mkF m 0 #[.val (.ref a1)] [] := by first | (simp [entryFrame, mkF, argsToLocals, Value.category]; done) | rfl
theorem o_pf8 : plainFor (⟨"com/example/throng/throng/engine/Groups", "start", "()[I"⟩ : MethodName) = true := by first | exact plainFor_of_name (by first | (simp [plainName, overriddenIn]; done) | decide +kernel) | decide +kernel
def o_Q_gStart (Z : State) (h0 : Heap) (a1 : Addr) (rp : Addr) (v : Option Value) (h : Heap) (ms : List Addr) : Prop := (h0 = h) ∧ (ms = []) ∧ (v = some (.ref rp))
theorem o_ct_gStart (l : Launch) (Z : State) (a0 : Array Value) (hw : o_H a0 Z) (EL : List (String × Nat)) (hE : EW Z a0 EL) (n0 : Nat) (ws : List Jvm.Cond) (h0 : Heap) (O : Old Z n0 h0) (a1 : Addr) (rp : Addr) (F_a1_start : Fld Z h0 a1 "com/example/throng/throng/engine/Groups" "start" "[I" (.ref rp)) :
    o_Ct l Z EL n0 (⟨"com/example/throng/throng/engine/Groups", "start", "()[I"⟩ : MethodName) prog_70_method_7_code 1 (some (.array .int)) ws ({ frames := 0, cells := 0, slots := 0, locals := 0 } : Room) #[(.ref a1)] h0 [] (o_Q_gStart Z h0 a1 rp) := by
 refine o_enter (a0 := a0) o_pf8 hE O fun p e s m below meth c T0 w0 => ?_
 rw [o_ef_gStart m a1]
 refine o_aloadN (pc' := 1) w0 o_d8_0 rfl rfl rfl ?_
 refine o_getF (pc' := 4) w0 (host := "") (Or.inl (o_w62 hw)) Via.refl F_a1_start o_d8_1 rfl fun T1 w2 => ?_
 exact o_retV w2 (t := (.array .int)) rfl (o_narR rfl rfl) (Or.inr (Or.inr (Or.inr (Or.inr ⟨rfl, rfl, rfl⟩)))) o_d8_4 (by decide) (by decide) (ms' := []) all0 ⟨rfl, rfl, rfl⟩
theorem o_d9_0 : decode prog_70_method_2_code 0 = .ok (.iload_n 0, 1) := by decide +kernel
theorem o_d9_1 : decode prog_70_method_2_code 1 = .ok (.iconst 1, 1) := by decide +kernel
theorem o_d9_2 : decode prog_70_method_2_code 2 = .ok (.iadd, 1) := by decide +kernel
theorem o_d9_3 : decode prog_70_method_2_code 3 = .ok (.newarray .int, 2) := by decide +kernel
theorem o_d9_5 : decode prog_70_method_2_code 5 = .ok (.astore_n 3, 1) := by decide +kernel
theorem o_d9_6 : decode prog_70_method_2_code 6 = .ok (.iconst 0, 1) := by decide +kernel
theorem o_d9_7 : decode prog_70_method_2_code 7 = .ok (.istore 4, 2) := by decide +kernel
theorem o_d9_9 : decode prog_70_method_2_code 9 = .ok (.iload 4, 2) := by decide +kernel
theorem o_d9_11 : decode prog_70_method_2_code 11 = .ok (.iload_n 1, 1) := by decide +kernel
theorem o_d9_12 : decode prog_70_method_2_code 12 = .ok (.if_icmp .ge 25, 3) := by decide +kernel
theorem o_d9_15 : decode prog_70_method_2_code 15 = .ok (.aload_n 3, 1) := by decide +kernel
theorem o_d9_16 : decode prog_70_method_2_code 16 = .ok (.aload_n 2, 1) := by decide +kernel
theorem o_d9_17 : decode prog_70_method_2_code 17 = .ok (.iload 4, 2) := by decide +kernel
theorem o_d9_19 : decode prog_70_method_2_code 19 = .ok (.invokeinterface 16 2, 5) := by decide +kernel
theorem o_w38 {Z a0} (hw : o_H a0 Z) : (.code ⟨"com/example/throng/throng/engine/NumberedAnswers", "lambda$new$1", "([II)I"⟩ prog_86_method_12_code 2 (Option.some Jvm.ClassFile.FieldType.int) : Jvm.Cond).before a0 Z = true := hw _ (List.mem_of_getElem? (i := 38) rfl)
theorem o_w37 {Z a0} (hw : o_H a0 Z) : (.static ⟨"com/example/throng/throng/engine/NumberedAnswers", "lambda$new$1", "([II)I"⟩ : Jvm.Cond).before a0 Z = true := hw _ (List.mem_of_getElem? (i := 37) rfl)
theorem o_d9_24 : decode prog_70_method_2_code 24 = .ok (.iconst 1, 1) := by decide +kernel
theorem o_d9_25 : decode prog_70_method_2_code 25 = .ok (.iadd, 1) := by decide +kernel
theorem o_d9_26 : decode prog_70_method_2_code 26 = .ok (.dup2, 1) := by decide +kernel
theorem o_d9_27 : decode prog_70_method_2_code 27 = .ok (.iaload, 1) := by decide +kernel
theorem o_d9_28 : decode prog_70_method_2_code 28 = .ok (.iconst 1, 1) := by decide +kernel
theorem o_d9_29 : decode prog_70_method_2_code 29 = .ok (.iadd, 1) := by decide +kernel
theorem o_d9_30 : decode prog_70_method_2_code 30 = .ok (.iastore, 1) := by decide +kernel
theorem o_d9_31 : decode prog_70_method_2_code 31 = .ok (.iinc 4 1, 3) := by decide +kernel
theorem o_d9_34 : decode prog_70_method_2_code 34 = .ok (.goto (-25), 3) := by decide +kernel
theorem o_d9_37 : decode prog_70_method_2_code 37 = .ok (.iconst 0, 1) := by decide +kernel
theorem o_d9_38 : decode prog_70_method_2_code 38 = .ok (.istore 4, 2) := by decide +kernel
theorem o_d9_40 : decode prog_70_method_2_code 40 = .ok (.iload 4, 2) := by decide +kernel
theorem o_d9_42 : decode prog_70_method_2_code 42 = .ok (.iload_n 0, 1) := by decide +kernel
theorem o_d9_43 : decode prog_70_method_2_code 43 = .ok (.if_icmp .ge 22, 3) := by decide +kernel
theorem o_d9_46 : decode prog_70_method_2_code 46 = .ok (.aload_n 3, 1) := by decide +kernel
theorem o_d9_47 : decode prog_70_method_2_code 47 = .ok (.iload 4, 2) := by decide +kernel
theorem o_d9_49 : decode prog_70_method_2_code 49 = .ok (.iconst 1, 1) := by decide +kernel
theorem o_d9_50 : decode prog_70_method_2_code 50 = .ok (.iadd, 1) := by decide +kernel
theorem o_d9_51 : decode prog_70_method_2_code 51 = .ok (.dup2, 1) := by decide +kernel
theorem o_d9_52 : decode prog_70_method_2_code 52 = .ok (.iaload, 1) := by decide +kernel
theorem o_d9_53 : decode prog_70_method_2_code 53 = .ok (.aload_n 3, 1) := by decide +kernel
theorem o_d9_54 : decode prog_70_method_2_code 54 = .ok (.iload 4, 2) := by decide +kernel
theorem o_d9_56 : decode prog_70_method_2_code 56 = .ok (.iaload, 1) := by decide +kernel
theorem o_d9_57 : decode prog_70_method_2_code 57 = .ok (.iadd, 1) := by decide +kernel
theorem o_d9_58 : decode prog_70_method_2_code 58 = .ok (.iastore, 1) := by decide +kernel
theorem o_d9_59 : decode prog_70_method_2_code 59 = .ok (.iinc 4 1, 3) := by decide +kernel
theorem o_d9_62 : decode prog_70_method_2_code 62 = .ok (.goto (-22), 3) := by decide +kernel
theorem o_d9_65 : decode prog_70_method_2_code 65 = .ok (.iload_n 1, 1) := by decide +kernel
theorem o_d9_66 : decode prog_70_method_2_code 66 = .ok (.newarray .int, 2) := by decide +kernel
theorem o_d9_68 : decode prog_70_method_2_code 68 = .ok (.astore 4, 2) := by decide +kernel
theorem o_d9_70 : decode prog_70_method_2_code 70 = .ok (.aload_n 3, 1) := by decide +kernel
theorem o_d9_71 : decode prog_70_method_2_code 71 = .ok (.iload_n 0, 1) := by decide +kernel
theorem o_d9_72 : decode prog_70_method_2_code 72 = .ok (.invokestatic 22, 3) := by decide +kernel
theorem o_w42 {Z a0} (hw : o_H a0 Z) : (.code ⟨"java/util/Arrays", "copyOf", "([II)[I"⟩ jdk_65_method_123_code 3 (Option.some (Jvm.ClassFile.FieldType.array Jvm.ClassFile.FieldType.int)) : Jvm.Cond).before a0 Z = true := hw _ (List.mem_of_getElem? (i := 42) rfl)
theorem o_w41 {Z a0} (hw : o_H a0 Z) : (.initialized "java/util/Arrays" : Jvm.Cond).before a0 Z = true := hw _ (List.mem_of_getElem? (i := 41) rfl)
theorem o_pd4 : parseMethodDescriptor "([II)[I" = some ⟨[(.array .int), .int], some (.array .int)⟩ := by decide +kernel
theorem o_w39 {Z a0} (hw : o_H a0 Z) : (.methodLink "com/example/throng/throng/engine/Groups" 22 ⟨"java/util/Arrays", "copyOf", "([II)[I"⟩ : Jvm.Cond).before a0 Z = true := hw _ (List.mem_of_getElem? (i := 39) rfl)
theorem o_w40 {Z a0} (hw : o_H a0 Z) : (.static ⟨"java/util/Arrays", "copyOf", "([II)[I"⟩ : Jvm.Cond).before a0 Z = true := hw _ (List.mem_of_getElem? (i := 40) rfl)
theorem o_d9_75 : decode prog_70_method_2_code 75 = .ok (.astore 5, 2) := by decide +kernel
theorem o_d9_77 : decode prog_70_method_2_code 77 = .ok (.iconst 0, 1) := by decide +kernel
theorem o_d9_78 : decode prog_70_method_2_code 78 = .ok (.istore 6, 2) := by decide +kernel
theorem o_d9_80 : decode prog_70_method_2_code 80 = .ok (.iload 6, 2) := by decide +kernel
theorem o_d9_82 : decode prog_70_method_2_code 82 = .ok (.iload_n 1, 1) := by decide +kernel
theorem o_d9_83 : decode prog_70_method_2_code 83 = .ok (.if_icmp .ge 30, 3) := by decide +kernel
theorem o_d9_86 : decode prog_70_method_2_code 86 = .ok (.aload 4, 2) := by decide +kernel
theorem o_d9_88 : decode prog_70_method_2_code 88 = .ok (.aload 5, 2) := by decide +kernel
theorem o_d9_90 : decode prog_70_method_2_code 90 = .ok (.aload_n 2, 1) := by decide +kernel
theorem o_d9_91 : decode prog_70_method_2_code 91 = .ok (.iload 6, 2) := by decide +kernel
theorem o_d9_93 : decode prog_70_method_2_code 93 = .ok (.invokeinterface 16 2, 5) := by decide +kernel
theorem o_d9_98 : decode prog_70_method_2_code 98 = .ok (.dup2, 1) := by decide +kernel
theorem o_d9_99 : decode prog_70_method_2_code 99 = .ok (.iaload, 1) := by decide +kernel
theorem o_d9_100 : decode prog_70_method_2_code 100 = .ok (.dup_x2, 1) := by decide +kernel
theorem o_d9_101 : decode prog_70_method_2_code 101 = .ok (.iconst 1, 1) := by decide +kernel
theorem o_d9_102 : decode prog_70_method_2_code 102 = .ok (.iadd, 1) := by decide +kernel
theorem o_d9_103 : decode prog_70_method_2_code 103 = .ok (.iastore, 1) := by decide +kernel
theorem o_d9_104 : decode prog_70_method_2_code 104 = .ok (.iload 6, 2) := by decide +kernel
theorem o_d9_106 : decode prog_70_method_2_code 106 = .ok (.iastore, 1) := by decide +kernel
theorem o_zz0 : ∀ (f0 : Fin 3) (f1 : Fin 3) (f2 : Fin 3) (f3 : Fin 3), ¬ (List.getD (o_st (o_tk (o_pf (o_cnt 3 [f0.val, f1.val, f2.val, f3.val]) 3) 3) []).1 f0.val 0) < 0 ∧ (List.getD (o_st (o_tk (o_pf (o_cnt 3 [f0.val, f1.val, f2.val, f3.val]) 3) 3) []).1 f0.val 0) < 4 := by decide +kernel
theorem o_d9_107 : decode prog_70_method_2_code 107 = .ok (.iinc 6 1, 3) := by decide +kernel
theorem o_d9_110 : decode prog_70_method_2_code 110 = .ok (.goto (-30), 3) := by decide +kernel
theorem o_zz1 : ∀ (f0 : Fin 3) (f1 : Fin 3) (f2 : Fin 3) (f3 : Fin 3), ¬ (List.getD (o_st (o_tk (o_pf (o_cnt 3 [f0.val, f1.val, f2.val, f3.val]) 3) 3) [f0.val]).1 f1.val 0) < 0 ∧ (List.getD (o_st (o_tk (o_pf (o_cnt 3 [f0.val, f1.val, f2.val, f3.val]) 3) 3) [f0.val]).1 f1.val 0) < 4 := by decide +kernel
theorem o_zz2 : ∀ (f0 : Fin 3) (f1 : Fin 3) (f2 : Fin 3) (f3 : Fin 3), ¬ (List.getD (o_st (o_tk (o_pf (o_cnt 3 [f0.val, f1.val, f2.val, f3.val]) 3) 3) [f0.val, f1.val]).1 f2.val 0) < 0 ∧ (List.getD (o_st (o_tk (o_pf (o_cnt 3 [f0.val, f1.val, f2.val, f3.val]) 3) 3) [f0.val, f1.val]).1 f2.val 0) < 4 := by decide +kernel
theorem o_zz3 : ∀ (f0 : Fin 3) (f1 : Fin 3) (f2 : Fin 3) (f3 : Fin 3), ¬ (List.getD (o_st (o_tk (o_pf (o_cnt 3 [f0.val, f1.val, f2.val, f3.val]) 3) 3) [f0.val, f1.val, f2.val]).1 f3.val 0) < 0 ∧ (List.getD (o_st (o_tk (o_pf (o_cnt 3 [f0.val, f1.val, f2.val, f3.val]) 3) 3) [f0.val, f1.val, f2.val]).1 f3.val 0) < 4 := by decide +kernel
theorem o_d9_113 : decode prog_70_method_2_code 113 = .ok (.new 8, 3) := by decide +kernel
theorem o_w51 {Z a0} (hw : o_H a0 Z) : (.classLink "com/example/throng/throng/engine/Groups" 8 "com/example/throng/throng/engine/Groups" : Jvm.Cond).before a0 Z = true := hw _ (List.mem_of_getElem? (i := 51) rfl)
theorem o_w29 {Z a0} (hw : o_H a0 Z) : (.initialized "com/example/throng/throng/engine/Groups" : Jvm.Cond).before a0 Z = true := hw _ (List.mem_of_getElem? (i := 29) rfl)
theorem o_d9_116 : decode prog_70_method_2_code 116 = .ok (.dup, 1) := by decide +kernel
theorem o_d9_117 : decode prog_70_method_2_code 117 = .ok (.aload_n 3, 1) := by decide +kernel
theorem o_d9_118 : decode prog_70_method_2_code 118 = .ok (.aload 4, 2) := by decide +kernel
theorem o_d9_120 : decode prog_70_method_2_code 120 = .ok (.invokespecial 28, 3) := by decide +kernel
theorem o_w55 {Z a0} (hw : o_H a0 Z) : (.code ⟨"com/example/throng/throng/engine/Groups", "<init>", "([I[I)V"⟩ prog_70_method_1_code 3 (Option.none : Option Jvm.ClassFile.FieldType) : Jvm.Cond).before a0 Z = true := hw _ (List.mem_of_getElem? (i := 55) rfl)
theorem o_pd5 : parseMethodDescriptor "([I[I)V" = some ⟨[(.array .int), (.array .int)], none⟩ := by decide +kernel
theorem o_w53 {Z a0} (hw : o_H a0 Z) : (.methodLink "com/example/throng/throng/engine/Groups" 28 ⟨"com/example/throng/throng/engine/Groups", "<init>", "([I[I)V"⟩ : Jvm.Cond).before a0 Z = true := hw _ (List.mem_of_getElem? (i := 53) rfl)
theorem o_w54 {Z a0} (hw : o_H a0 Z) : (.instanceMethod ⟨"com/example/throng/throng/engine/Groups", "<init>", "([I[I)V"⟩ : Jvm.Cond).before a0 Z = true := hw _ (List.mem_of_getElem? (i := 54) rfl)
theorem o_d9_123 : decode prog_70_method_2_code 123 = .ok (.areturn, 1) := by decide +kernel
theorem o_ef_ofA (m : MethodId) (op : Addr) : entryFrame m #[(.int (3 : Int32)), (.int (4 : Int32)), (.ref op)] 7 = mkF m 0 #[.val (.int (3 : Int32)), .val (.int (4 : Int32)), .val (.ref op), .unset, .unset, .unset, .unset] [] := by first | (simp [entryFrame, mkF, argsToLocals, Value.category]; done) | rfl
theorem o_pf9 : plainFor (⟨"com/example/throng/throng/engine/Groups", "of", "(IILjava/util/function/IntUnaryOperator;)Lcom/example/throng/throng/engine/Groups;"⟩ : MethodName) = true := by first | exact plainFor_of_name (by first | (simp [plainName, overriddenIn]; done) | decide +kernel) | decide +kernel
def o_Q_ofA (Z : State) (h0 : Heap) (op : Addr) (la : Addr) (kl : ClassId) (f0 : Fin 3) (f1 : Fin 3) (f2 : Fin 3) (f3 : Fin 3) (v : Option Value) (h : Heap) (ms : List Addr) : Prop := (Keep h0 h []) ∧ (∃ (r : Addr) (sa : Addr) (ia : Addr) (ki : ClassId), (ms = [ia]) ∧ (v = some (.ref r)) ∧ (Exa Z h r "com/example/throng/throng/engine/Groups") ∧ (Fld Z h r "com/example/throng/throng/engine/Groups" "start" "[I" (.ref sa)) ∧ (Fld Z h r "com/example/throng/throng/engine/Groups" "items" "[I" (.ref ia)) ∧ (Arv Z h ia ki .int (4 : Int32) (o_iv (o_itm 3 [f0.val, f1.val, f2.val, f3.val])) (.int 0)) ∧ (h0.size ≤ r) ∧ (h0.size ≤ ia) ∧ (r ≠ ia))
theorem o_ct_ofA (l : Launch) (Z : State) (a0 : Array Value) (hw : o_H a0 Z) (EL : List (String × Nat)) (hE : EW Z a0 EL) (n0 : Nat) (ws : List Jvm.Cond) (h0 : Heap) (O : Old Z n0 h0) (op : Addr) (la : Addr) (kl : ClassId) (f0 : Fin 3) (f1 : Fin 3) (f2 : Fin 3) (f3 : Fin 3) (L_op : o_Lam Z h0 op (⟨"com/example/throng/throng/engine/NumberedAnswers", "<init>", "(III[I[I[I)V"⟩ : MethodName) 51 33 o_sh1 [(.ref la)]) (A_la : Arv Z h0 la kl .int (4 : Int32) [(.int (Int32.ofNat f0.val)), (.int (Int32.ofNat f1.val)), (.int (Int32.ofNat f2.val)), (.int (Int32.ofNat f3.val))] (.int 0)) :
    o_Ct l Z EL n0 (⟨"com/example/throng/throng/engine/Groups", "of", "(IILjava/util/function/IntUnaryOperator;)Lcom/example/throng/throng/engine/Groups;"⟩ : MethodName) prog_70_method_2_code 7 (some (.object "com/example/throng/throng/engine/Groups")) ws ({ frames := 3, cells := 4, slots := 13, locals := 39 } : Room) #[(.int (3 : Int32)), (.int (4 : Int32)), (.ref op)] h0 [] (o_Q_ofA Z h0 op la kl f0 f1 f2 f3) := by
 refine o_enter (a0 := a0) o_pf9 hE O fun p e s m below meth c T0 w0 => ?_
 rw [o_ef_ofA m op]
 have K : Keep h0 h0 [] := Keep.refl _ _
 refine o_iloadN (pc' := 1) w0 o_d9_0 rfl rfl ?_
 refine o_iconst (pc' := 2) w0 o_d9_1 (x := (1 : Int32)) rfl rfl ?_
 refine o_iadd (pc' := 3) w0 o_d9_2 (z := (4 : Int32)) (by decide) rfl ?_
 refine o_newP (pc' := 5) w0 (aty := .int) (z := (4 : Int32)) (vs := (o_iv (o_cnt 3 []))) (dv := (.int 0)) (cap := 4) (o_w0 hw) o_d9_3 rfl (by decide) (by decide) (by decide) rfl (o_ivr 4) (by decide) (by decide) fun T1 h3 a5 g_a5 w2 E4 ⟨k_a5, A_a5⟩ => ?_
 have ne_la_a5 : la ≠ a5 := Nat.ne_of_lt (Nat.lt_of_lt_of_le A_la.lt (Nat.le_of_eq g_a5))
 have ne_op_a5 : op ≠ a5 := Nat.ne_of_lt (Nat.lt_of_lt_of_le L_op.lt (Nat.le_of_eq g_a5))
 have nw_a5 : h0.size ≤ a5 := Nat.le_trans K.1 (Nat.le_of_eq g_a5)
 replace L_op := L_op.ext E4
 replace A_la := A_la.ext E4
 replace K := K.ext E4
 refine o_astoreN (pc' := 6) w2 o_d9_5 rfl (Ls' := #[.val (.int (3 : Int32)), .val (.int (4 : Int32)), .val (.ref op), .val (.ref a5), .unset, .unset, .unset]) rfl rfl ?_
 refine o_iconst (pc' := 7) w2 o_d9_6 (x := (0 : Int32)) rfl rfl ?_
 refine o_istore (pc' := 9) w2 o_d9_7 (Ls' := #[.val (.int (3 : Int32)), .val (.int (4 : Int32)), .val (.ref op), .val (.ref a5), .val (.int (0 : Int32)), .unset, .unset]) rfl rfl ?_
 refine o_iload (pc' := 11) w2 o_d9_9 rfl rfl ?_
 refine o_iloadN (pc' := 12) w2 o_d9_11 rfl rfl ?_
 refine o_icmp (pc' := 15) w2 o_d9_12 rfl (by decide) (pcY := 37) rfl (fun (hb12 : ¬ (0 : Int32) < (4 : Int32)) => absurd hb12 (by decide)) (fun (hb12 : (0 : Int32) < (4 : Int32)) => ?_)
 refine o_aloadN (pc' := 16) w2 o_d9_15 rfl rfl rfl ?_
 refine o_aloadN (pc' := 17) w2 o_d9_16 rfl rfl rfl ?_
 refine o_iload (pc' := 19) w2 o_d9_17 rfl rfl ?_
 refine o_callL (pc' := 24) w2 (x := (⟨"com/example/throng/throng/engine/NumberedAnswers", "<init>", "(III[I[I[I)V"⟩ : MethodName)) (xi := (⟨"java/util/function/IntUnaryOperator", "applyAsInt", "(I)I"⟩ : MethodName)) (y := (⟨"com/example/throng/throng/engine/NumberedAnswers", "lambda$new$1", "([II)I"⟩ : MethodName)) (pcS := 51) (idxS := 33) (σ := o_sh1) (vals := [(.ref la)]) (argsL := [(.int (0 : Int32))]) (argsT := [(.ref la), (.int (0 : Int32))]) (rest := [(.ref a5)]) (fcode := o_sh1_fc) (fml := 2) (L0 := #[.val (.ref op), .val (.int (0 : Int32))]) (o_w34 hw) (o_w35 hw) (o_w36 hw) (o_w37 hw) (o_w3 hw) (o_w38 hw) o_sh1_xi o_sh1_y (by decide) L_op o_sh1_fwd o_sh1_f5 o_sh1_f8 (o_ct_lam1 l Z a0 hw EL hE n0 [] h3 (o_old w2) la (0 : Int32) kl (4 : Int32) [(.int (Int32.ofNat f0.val)), (.int (Int32.ofNat f1.val)), (.int (Int32.ofNat f2.val)), (.int (Int32.ofNat f3.val))] (Int32.ofNat f0.val) A_la (by decide) (rfl)) (fun _ _ _ q_ => ⟨_, q_.2.2⟩) rfl rfl o_pd0 rfl o_pd1 rfl o_d9_19 rfl (fun _ => rfl) rfl (fun cK cell U ck blx target hx hmd hc1 hc2 hc3 hO hU hck hh hW kk => (XS.aloadN hU hx rfl (hb hck o_sh1_f0) rfl rfl (LamKit.getCap hx hU hW hmd o_sh1_cap0 hO (by rw [hh]; exact hc1) hc2 (v := (.ref la)) (by rw [hc3]; rfl) rfl rfl (hb hck o_sh1_f1) (XS.iloadN hU hx rfl (hb hck o_sh1_f4) rfl kk)))) (o_w25 hw) (by decide) (W := 1) rfl (by decide) (by decide) (by decide) fun T6 h8 v9 ms10 w7 q11 => ?_
 obtain ⟨rfl, rfl, rfl⟩ := q11
 show o_Go Z EL n0 p e below s _ _ _ (T6.setTop (mkF m 24 _ [(.int (Int32.ofNat f0.val)), (.ref a5)]))
 refine o_iconst (pc' := 25) w7 o_d9_24 (x := (1 : Int32)) rfl rfl ?_
 refine o_iadd (pc' := 26) w7 o_d9_25 (z := ((Int32.ofNat f0.val) + (1 : Int32))) rfl rfl ?_
 refine o_dup2 (pc' := 27) w7 o_d9_26 rfl rfl rfl ?_
 refine o_ldI (pc' := 28) w7 (v := (.int (List.getD (o_cnt 3 []) (f0.val + 1) 0))) A_a5 (o_jb3 f0).1 (o_ivg (o_jb3 f0).2.1) o_d9_27 rfl ?_
 refine o_iconst (pc' := 29) w7 o_d9_28 (x := (1 : Int32)) rfl rfl ?_
 refine o_iadd (pc' := 30) w7 o_d9_29 (z := ((List.getD (o_cnt 3 []) (f0.val + 1) 0) + (1 : Int32))) rfl rfl ?_
 refine o_stI (pc' := 31) w7 (i := (f0.val + 1)) (xv := (.int ((List.getD (o_cnt 3 []) (f0.val + 1) 0) + (1 : Int32)))) (vs' := (o_iv (o_cnt 3 [f0.val]))) (by simp) A_a5 (o_jb3 f0).1 (o_jb3 f0).2.1 (by have := f0.isLt; rw [o_ivl, o_cntl]; omega) rfl rfl (o_ivs _ _ _) o_d9_30 rfl fun T12 h14 w13 W15 A_new => ?_
 clear A_a5
 replace L_op := L_op.other W15 ne_op_a5
 replace A_la := A_la.other W15 ne_la_a5
 replace K := K.wr W15 (Or.inr nw_a5)
 have A_a5 := A_new
 clear A_new
 refine o_iinc (pc' := 34) w13 o_d9_31 rfl (y := (1 : Int32)) (by decide) (Ls' := #[.val (.int (3 : Int32)), .val (.int (4 : Int32)), .val (.ref op), .val (.ref a5), .val (.int (1 : Int32)), .unset, .unset]) rfl rfl ?_
 refine o_goto w13 o_d9_34 (by decide) (pc' := 9) rfl ?_
 refine o_iload (pc' := 11) w13 o_d9_9 rfl rfl ?_
 refine o_iloadN (pc' := 12) w13 o_d9_11 rfl rfl ?_
 refine o_icmp (pc' := 15) w13 o_d9_12 rfl (by decide) (pcY := 37) rfl (fun (hb12_1 : ¬ (1 : Int32) < (4 : Int32)) => absurd hb12_1 (by decide)) (fun (hb12_1 : (1 : Int32) < (4 : Int32)) => ?_)
 refine o_aloadN (pc' := 16) w13 o_d9_15 rfl rfl rfl ?_
 refine o_aloadN (pc' := 17) w13 o_d9_16 rfl rfl rfl ?_
 refine o_iload (pc' := 19) w13 o_d9_17 rfl rfl ?_
 refine o_callL (pc' := 24) w13 (x := (⟨"com/example/throng/throng/engine/NumberedAnswers", "<init>", "(III[I[I[I)V"⟩ : MethodName)) (xi := (⟨"java/util/function/IntUnaryOperator", "applyAsInt", "(I)I"⟩ : MethodName)) (y := (⟨"com/example/throng/throng/engine/NumberedAnswers", "lambda$new$1", "([II)I"⟩ : MethodName)) (pcS := 51) (idxS := 33) (σ := o_sh1) (vals := [(.ref la)]) (argsL := [(.int (1 : Int32))]) (argsT := [(.ref la), (.int (1 : Int32))]) (rest := [(.ref a5)]) (fcode := o_sh1_fc) (fml := 2) (L0 := #[.val (.ref op), .val (.int (1 : Int32))]) (o_w34 hw) (o_w35 hw) (o_w36 hw) (o_w37 hw) (o_w3 hw) (o_w38 hw) o_sh1_xi o_sh1_y (by decide) L_op o_sh1_fwd o_sh1_f5 o_sh1_f8 (o_ct_lam1 l Z a0 hw EL hE n0 [] h14 (o_old w13) la (1 : Int32) kl (4 : Int32) [(.int (Int32.ofNat f0.val)), (.int (Int32.ofNat f1.val)), (.int (Int32.ofNat f2.val)), (.int (Int32.ofNat f3.val))] (Int32.ofNat f1.val) A_la (by decide) (rfl)) (fun _ _ _ q_ => ⟨_, q_.2.2⟩) rfl rfl o_pd0 rfl o_pd1 rfl o_d9_19 rfl (fun _ => rfl) rfl (fun cK cell U ck blx target hx hmd hc1 hc2 hc3 hO hU hck hh hW kk => (XS.aloadN hU hx rfl (hb hck o_sh1_f0) rfl rfl (LamKit.getCap hx hU hW hmd o_sh1_cap0 hO (by rw [hh]; exact hc1) hc2 (v := (.ref la)) (by rw [hc3]; rfl) rfl rfl (hb hck o_sh1_f1) (XS.iloadN hU hx rfl (hb hck o_sh1_f4) rfl kk)))) (o_w25 hw) (by decide) (W := 1) rfl (by decide) (by decide) (by decide) fun T16 h18 v19 ms20 w17 q21 => ?_
 obtain ⟨rfl, rfl, rfl⟩ := q21
 show o_Go Z EL n0 p e below s _ _ _ (T16.setTop (mkF m 24 _ [(.int (Int32.ofNat f1.val)), (.ref a5)]))
 refine o_iconst (pc' := 25) w17 o_d9_24 (x := (1 : Int32)) rfl rfl ?_
 refine o_iadd (pc' := 26) w17 o_d9_25 (z := ((Int32.ofNat f1.val) + (1 : Int32))) rfl rfl ?_
 refine o_dup2 (pc' := 27) w17 o_d9_26 rfl rfl rfl ?_
 refine o_ldI (pc' := 28) w17 (v := (.int (List.getD (o_cnt 3 [f0.val]) (f1.val + 1) 0))) A_a5 (o_jb3 f1).1 (o_ivg (o_jb3 f1).2.1) o_d9_27 rfl ?_
 refine o_iconst (pc' := 29) w17 o_d9_28 (x := (1 : Int32)) rfl rfl ?_
 refine o_iadd (pc' := 30) w17 o_d9_29 (z := ((List.getD (o_cnt 3 [f0.val]) (f1.val + 1) 0) + (1 : Int32))) rfl rfl ?_
 refine o_stI (pc' := 31) w17 (i := (f1.val + 1)) (xv := (.int ((List.getD (o_cnt 3 [f0.val]) (f1.val + 1) 0) + (1 : Int32)))) (vs' := (o_iv (o_cnt 3 [f0.val, f1.val]))) (by simp) A_a5 (o_jb3 f1).1 (o_jb3 f1).2.1 (by have := f1.isLt; rw [o_ivl, o_cntl]; omega) rfl rfl (o_ivs _ _ _) o_d9_30 rfl fun T22 h24 w23 W25 A_new => ?_
 clear A_a5
 replace L_op := L_op.other W25 ne_op_a5
 replace A_la := A_la.other W25 ne_la_a5
 replace K := K.wr W25 (Or.inr nw_a5)
 have A_a5 := A_new
 clear A_new
 refine o_iinc (pc' := 34) w23 o_d9_31 rfl (y := (2 : Int32)) (by decide) (Ls' := #[.val (.int (3 : Int32)), .val (.int (4 : Int32)), .val (.ref op), .val (.ref a5), .val (.int (2 : Int32)), .unset, .unset]) rfl rfl ?_
 refine o_goto w23 o_d9_34 (by decide) (pc' := 9) rfl ?_
 refine o_iload (pc' := 11) w23 o_d9_9 rfl rfl ?_
 refine o_iloadN (pc' := 12) w23 o_d9_11 rfl rfl ?_
 refine o_icmp (pc' := 15) w23 o_d9_12 rfl (by decide) (pcY := 37) rfl (fun (hb12_2 : ¬ (2 : Int32) < (4 : Int32)) => absurd hb12_2 (by decide)) (fun (hb12_2 : (2 : Int32) < (4 : Int32)) => ?_)
 refine o_aloadN (pc' := 16) w23 o_d9_15 rfl rfl rfl ?_
 refine o_aloadN (pc' := 17) w23 o_d9_16 rfl rfl rfl ?_
 refine o_iload (pc' := 19) w23 o_d9_17 rfl rfl ?_
 refine o_callL (pc' := 24) w23 (x := (⟨"com/example/throng/throng/engine/NumberedAnswers", "<init>", "(III[I[I[I)V"⟩ : MethodName)) (xi := (⟨"java/util/function/IntUnaryOperator", "applyAsInt", "(I)I"⟩ : MethodName)) (y := (⟨"com/example/throng/throng/engine/NumberedAnswers", "lambda$new$1", "([II)I"⟩ : MethodName)) (pcS := 51) (idxS := 33) (σ := o_sh1) (vals := [(.ref la)]) (argsL := [(.int (2 : Int32))]) (argsT := [(.ref la), (.int (2 : Int32))]) (rest := [(.ref a5)]) (fcode := o_sh1_fc) (fml := 2) (L0 := #[.val (.ref op), .val (.int (2 : Int32))]) (o_w34 hw) (o_w35 hw) (o_w36 hw) (o_w37 hw) (o_w3 hw) (o_w38 hw) o_sh1_xi o_sh1_y (by decide) L_op o_sh1_fwd o_sh1_f5 o_sh1_f8 (o_ct_lam1 l Z a0 hw EL hE n0 [] h24 (o_old w23) la (2 : Int32) kl (4 : Int32) [(.int (Int32.ofNat f0.val)), (.int (Int32.ofNat f1.val)), (.int (Int32.ofNat f2.val)), (.int (Int32.ofNat f3.val))] (Int32.ofNat f2.val) A_la (by decide) (rfl)) (fun _ _ _ q_ => ⟨_, q_.2.2⟩) rfl rfl o_pd0 rfl o_pd1 rfl o_d9_19 rfl (fun _ => rfl) rfl (fun cK cell U ck blx target hx hmd hc1 hc2 hc3 hO hU hck hh hW kk => (XS.aloadN hU hx rfl (hb hck o_sh1_f0) rfl rfl (LamKit.getCap hx hU hW hmd o_sh1_cap0 hO (by rw [hh]; exact hc1) hc2 (v := (.ref la)) (by rw [hc3]; rfl) rfl rfl (hb hck o_sh1_f1) (XS.iloadN hU hx rfl (hb hck o_sh1_f4) rfl kk)))) (o_w25 hw) (by decide) (W := 1) rfl (by decide) (by decide) (by decide) fun T26 h28 v29 ms30 w27 q31 => ?_
 obtain ⟨rfl, rfl, rfl⟩ := q31
 show o_Go Z EL n0 p e below s _ _ _ (T26.setTop (mkF m 24 _ [(.int (Int32.ofNat f2.val)), (.ref a5)]))
 refine o_iconst (pc' := 25) w27 o_d9_24 (x := (1 : Int32)) rfl rfl ?_
 refine o_iadd (pc' := 26) w27 o_d9_25 (z := ((Int32.ofNat f2.val) + (1 : Int32))) rfl rfl ?_
 refine o_dup2 (pc' := 27) w27 o_d9_26 rfl rfl rfl ?_
 refine o_ldI (pc' := 28) w27 (v := (.int (List.getD (o_cnt 3 [f0.val, f1.val]) (f2.val + 1) 0))) A_a5 (o_jb3 f2).1 (o_ivg (o_jb3 f2).2.1) o_d9_27 rfl ?_
 refine o_iconst (pc' := 29) w27 o_d9_28 (x := (1 : Int32)) rfl rfl ?_
 refine o_iadd (pc' := 30) w27 o_d9_29 (z := ((List.getD (o_cnt 3 [f0.val, f1.val]) (f2.val + 1) 0) + (1 : Int32))) rfl rfl ?_
 refine o_stI (pc' := 31) w27 (i := (f2.val + 1)) (xv := (.int ((List.getD (o_cnt 3 [f0.val, f1.val]) (f2.val + 1) 0) + (1 : Int32)))) (vs' := (o_iv (o_cnt 3 [f0.val, f1.val, f2.val]))) (by simp) A_a5 (o_jb3 f2).1 (o_jb3 f2).2.1 (by have := f2.isLt; rw [o_ivl, o_cntl]; omega) rfl rfl (o_ivs _ _ _) o_d9_30 rfl fun T32 h34 w33 W35 A_new => ?_
 clear A_a5
 replace L_op := L_op.other W35 ne_op_a5
 replace A_la := A_la.other W35 ne_la_a5
 replace K := K.wr W35 (Or.inr nw_a5)
 have A_a5 := A_new
 clear A_new
 refine o_iinc (pc' := 34) w33 o_d9_31 rfl (y := (3 : Int32)) (by decide) (Ls' := #[.val (.int (3 : Int32)), .val (.int (4 : Int32)), .val (.ref op), .val (.ref a5), .val (.int (3 : Int32)), .unset, .unset]) rfl rfl ?_
 refine o_goto w33 o_d9_34 (by decide) (pc' := 9) rfl ?_
 refine o_iload (pc' := 11) w33 o_d9_9 rfl rfl ?_
 refine o_iloadN (pc' := 12) w33 o_d9_11 rfl rfl ?_
 refine o_icmp (pc' := 15) w33 o_d9_12 rfl (by decide) (pcY := 37) rfl (fun (hb12_3 : ¬ (3 : Int32) < (4 : Int32)) => absurd hb12_3 (by decide)) (fun (hb12_3 : (3 : Int32) < (4 : Int32)) => ?_)
 refine o_aloadN (pc' := 16) w33 o_d9_15 rfl rfl rfl ?_
 refine o_aloadN (pc' := 17) w33 o_d9_16 rfl rfl rfl ?_
 refine o_iload (pc' := 19) w33 o_d9_17 rfl rfl ?_
 refine o_callL (pc' := 24) w33 (x := (⟨"com/example/throng/throng/engine/NumberedAnswers", "<init>", "(III[I[I[I)V"⟩ : MethodName)) (xi := (⟨"java/util/function/IntUnaryOperator", "applyAsInt", "(I)I"⟩ : MethodName)) (y := (⟨"com/example/throng/throng/engine/NumberedAnswers", "lambda$new$1", "([II)I"⟩ : MethodName)) (pcS := 51) (idxS := 33) (σ := o_sh1) (vals := [(.ref la)]) (argsL := [(.int (3 : Int32))]) (argsT := [(.ref la), (.int (3 : Int32))]) (rest := [(.ref a5)]) (fcode := o_sh1_fc) (fml := 2) (L0 := #[.val (.ref op), .val (.int (3 : Int32))]) (o_w34 hw) (o_w35 hw) (o_w36 hw) (o_w37 hw) (o_w3 hw) (o_w38 hw) o_sh1_xi o_sh1_y (by decide) L_op o_sh1_fwd o_sh1_f5 o_sh1_f8 (o_ct_lam1 l Z a0 hw EL hE n0 [] h34 (o_old w33) la (3 : Int32) kl (4 : Int32) [(.int (Int32.ofNat f0.val)), (.int (Int32.ofNat f1.val)), (.int (Int32.ofNat f2.val)), (.int (Int32.ofNat f3.val))] (Int32.ofNat f3.val) A_la (by decide) (rfl)) (fun _ _ _ q_ => ⟨_, q_.2.2⟩) rfl rfl o_pd0 rfl o_pd1 rfl o_d9_19 rfl (fun _ => rfl) rfl (fun cK cell U ck blx target hx hmd hc1 hc2 hc3 hO hU hck hh hW kk => (XS.aloadN hU hx rfl (hb hck o_sh1_f0) rfl rfl (LamKit.getCap hx hU hW hmd o_sh1_cap0 hO (by rw [hh]; exact hc1) hc2 (v := (.ref la)) (by rw [hc3]; rfl) rfl rfl (hb hck o_sh1_f1) (XS.iloadN hU hx rfl (hb hck o_sh1_f4) rfl kk)))) (o_w25 hw) (by decide) (W := 1) rfl (by decide) (by decide) (by decide) fun T36 h38 v39 ms40 w37 q41 => ?_
 obtain ⟨rfl, rfl, rfl⟩ := q41
 show o_Go Z EL n0 p e below s _ _ _ (T36.setTop (mkF m 24 _ [(.int (Int32.ofNat f3.val)), (.ref a5)]))
 refine o_iconst (pc' := 25) w37 o_d9_24 (x := (1 : Int32)) rfl rfl ?_
 refine o_iadd (pc' := 26) w37 o_d9_25 (z := ((Int32.ofNat f3.val) + (1 : Int32))) rfl rfl ?_
 refine o_dup2 (pc' := 27) w37 o_d9_26 rfl rfl rfl ?_
 refine o_ldI (pc' := 28) w37 (v := (.int (List.getD (o_cnt 3 [f0.val, f1.val, f2.val]) (f3.val + 1) 0))) A_a5 (o_jb3 f3).1 (o_ivg (o_jb3 f3).2.1) o_d9_27 rfl ?_
 refine o_iconst (pc' := 29) w37 o_d9_28 (x := (1 : Int32)) rfl rfl ?_
 refine o_iadd (pc' := 30) w37 o_d9_29 (z := ((List.getD (o_cnt 3 [f0.val, f1.val, f2.val]) (f3.val + 1) 0) + (1 : Int32))) rfl rfl ?_
 refine o_stI (pc' := 31) w37 (i := (f3.val + 1)) (xv := (.int ((List.getD (o_cnt 3 [f0.val, f1.val, f2.val]) (f3.val + 1) 0) + (1 : Int32)))) (vs' := (o_iv (o_cnt 3 [f0.val, f1.val, f2.val, f3.val]))) (by simp) A_a5 (o_jb3 f3).1 (o_jb3 f3).2.1 (by have := f3.isLt; rw [o_ivl, o_cntl]; omega) rfl rfl (o_ivs _ _ _) o_d9_30 rfl fun T42 h44 w43 W45 A_new => ?_
 clear A_a5
 replace L_op := L_op.other W45 ne_op_a5
 replace A_la := A_la.other W45 ne_la_a5
 replace K := K.wr W45 (Or.inr nw_a5)
 have A_a5 := A_new
 clear A_new
 refine o_iinc (pc' := 34) w43 o_d9_31 rfl (y := (4 : Int32)) (by decide) (Ls' := #[.val (.int (3 : Int32)), .val (.int (4 : Int32)), .val (.ref op), .val (.ref a5), .val (.int (4 : Int32)), .unset, .unset]) rfl rfl ?_
 refine o_goto w43 o_d9_34 (by decide) (pc' := 9) rfl ?_
 refine o_iload (pc' := 11) w43 o_d9_9 rfl rfl ?_
 refine o_iloadN (pc' := 12) w43 o_d9_11 rfl rfl ?_
 refine o_icmp (pc' := 15) w43 o_d9_12 rfl (by decide) (pcY := 37) rfl (fun (hb12_4 : ¬ (4 : Int32) < (4 : Int32)) => ?_) (fun (hb12_4 : (4 : Int32) < (4 : Int32)) => absurd hb12_4 (by decide))
 refine o_iconst (pc' := 38) w43 o_d9_37 (x := (0 : Int32)) rfl rfl ?_
 refine o_istore (pc' := 40) w43 o_d9_38 (Ls' := #[.val (.int (3 : Int32)), .val (.int (4 : Int32)), .val (.ref op), .val (.ref a5), .val (.int (0 : Int32)), .unset, .unset]) rfl rfl ?_
 refine o_iload (pc' := 42) w43 o_d9_40 rfl rfl ?_
 refine o_iloadN (pc' := 43) w43 o_d9_42 rfl rfl ?_
 refine o_icmp (pc' := 46) w43 o_d9_43 rfl (by decide) (pcY := 65) rfl (fun (hb43 : ¬ (0 : Int32) < (3 : Int32)) => absurd hb43 (by decide)) (fun (hb43 : (0 : Int32) < (3 : Int32)) => ?_)
 refine o_aloadN (pc' := 47) w43 o_d9_46 rfl rfl rfl ?_
 refine o_iload (pc' := 49) w43 o_d9_47 rfl rfl ?_
 refine o_iconst (pc' := 50) w43 o_d9_49 (x := (1 : Int32)) rfl rfl ?_
 refine o_iadd (pc' := 51) w43 o_d9_50 (z := (1 : Int32)) (by decide) rfl ?_
 refine o_dup2 (pc' := 52) w43 o_d9_51 rfl rfl rfl ?_
 refine o_ldI (pc' := 53) w43 (v := (.int (List.getD (o_pf (o_cnt 3 [f0.val, f1.val, f2.val, f3.val]) 0) 1 0))) A_a5 (by decide) (o_ivg rfl) o_d9_52 rfl ?_
 refine o_aloadN (pc' := 54) w43 o_d9_53 rfl rfl rfl ?_
 refine o_iload (pc' := 56) w43 o_d9_54 rfl rfl ?_
 refine o_ldI (pc' := 57) w43 (v := (.int (List.getD (o_pf (o_cnt 3 [f0.val, f1.val, f2.val, f3.val]) 0) 0 0))) A_a5 (by decide) (o_ivg rfl) o_d9_56 rfl ?_
 refine o_iadd (pc' := 58) w43 o_d9_57 (z := ((List.getD (o_pf (o_cnt 3 [f0.val, f1.val, f2.val, f3.val]) 0) 1 0) + (List.getD (o_pf (o_cnt 3 [f0.val, f1.val, f2.val, f3.val]) 0) 0 0))) rfl rfl ?_
 refine o_stI (pc' := 59) w43 (i := 1) (xv := (.int ((List.getD (o_pf (o_cnt 3 [f0.val, f1.val, f2.val, f3.val]) 0) 1 0) + (List.getD (o_pf (o_cnt 3 [f0.val, f1.val, f2.val, f3.val]) 0) 0 0)))) (vs' := (o_iv (o_pf (o_cnt 3 [f0.val, f1.val, f2.val, f3.val]) 1))) (by simp) A_a5 (by decide) rfl (by rw [o_ivl, o_cntl]; decide) rfl rfl (o_ivs _ _ _) o_d9_58 rfl fun T46 h48 w47 W49 A_new => ?_
 clear A_a5
 replace L_op := L_op.other W49 ne_op_a5
 replace A_la := A_la.other W49 ne_la_a5
 replace K := K.wr W49 (Or.inr nw_a5)
 have A_a5 := A_new
 clear A_new
 refine o_iinc (pc' := 62) w47 o_d9_59 rfl (y := (1 : Int32)) (by decide) (Ls' := #[.val (.int (3 : Int32)), .val (.int (4 : Int32)), .val (.ref op), .val (.ref a5), .val (.int (1 : Int32)), .unset, .unset]) rfl rfl ?_
 refine o_goto w47 o_d9_62 (by decide) (pc' := 40) rfl ?_
 refine o_iload (pc' := 42) w47 o_d9_40 rfl rfl ?_
 refine o_iloadN (pc' := 43) w47 o_d9_42 rfl rfl ?_
 refine o_icmp (pc' := 46) w47 o_d9_43 rfl (by decide) (pcY := 65) rfl (fun (hb43_1 : ¬ (1 : Int32) < (3 : Int32)) => absurd hb43_1 (by decide)) (fun (hb43_1 : (1 : Int32) < (3 : Int32)) => ?_)
 refine o_aloadN (pc' := 47) w47 o_d9_46 rfl rfl rfl ?_
 refine o_iload (pc' := 49) w47 o_d9_47 rfl rfl ?_
 refine o_iconst (pc' := 50) w47 o_d9_49 (x := (1 : Int32)) rfl rfl ?_
 refine o_iadd (pc' := 51) w47 o_d9_50 (z := (2 : Int32)) (by decide) rfl ?_
 refine o_dup2 (pc' := 52) w47 o_d9_51 rfl rfl rfl ?_
 refine o_ldI (pc' := 53) w47 (v := (.int (List.getD (o_pf (o_cnt 3 [f0.val, f1.val, f2.val, f3.val]) 1) 2 0))) A_a5 (by decide) (o_ivg rfl) o_d9_52 rfl ?_
 refine o_aloadN (pc' := 54) w47 o_d9_53 rfl rfl rfl ?_
 refine o_iload (pc' := 56) w47 o_d9_54 rfl rfl ?_
 refine o_ldI (pc' := 57) w47 (v := (.int (List.getD (o_pf (o_cnt 3 [f0.val, f1.val, f2.val, f3.val]) 1) 1 0))) A_a5 (by decide) (o_ivg rfl) o_d9_56 rfl ?_
 refine o_iadd (pc' := 58) w47 o_d9_57 (z := ((List.getD (o_pf (o_cnt 3 [f0.val, f1.val, f2.val, f3.val]) 1) 2 0) + (List.getD (o_pf (o_cnt 3 [f0.val, f1.val, f2.val, f3.val]) 1) 1 0))) rfl rfl ?_
 refine o_stI (pc' := 59) w47 (i := 2) (xv := (.int ((List.getD (o_pf (o_cnt 3 [f0.val, f1.val, f2.val, f3.val]) 1) 2 0) + (List.getD (o_pf (o_cnt 3 [f0.val, f1.val, f2.val, f3.val]) 1) 1 0)))) (vs' := (o_iv (o_pf (o_cnt 3 [f0.val, f1.val, f2.val, f3.val]) 2))) (by simp) A_a5 (by decide) rfl (by rw [o_ivl, o_pfl, o_cntl]; decide) rfl rfl (o_ivs _ _ _) o_d9_58 rfl fun T50 h52 w51 W53 A_new => ?_
 clear A_a5
 replace L_op := L_op.other W53 ne_op_a5
 replace A_la := A_la.other W53 ne_la_a5
 replace K := K.wr W53 (Or.inr nw_a5)
 have A_a5 := A_new
 clear A_new
 refine o_iinc (pc' := 62) w51 o_d9_59 rfl (y := (2 : Int32)) (by decide) (Ls' := #[.val (.int (3 : Int32)), .val (.int (4 : Int32)), .val (.ref op), .val (.ref a5), .val (.int (2 : Int32)), .unset, .unset]) rfl rfl ?_
 refine o_goto w51 o_d9_62 (by decide) (pc' := 40) rfl ?_
 refine o_iload (pc' := 42) w51 o_d9_40 rfl rfl ?_
 refine o_iloadN (pc' := 43) w51 o_d9_42 rfl rfl ?_
 refine o_icmp (pc' := 46) w51 o_d9_43 rfl (by decide) (pcY := 65) rfl (fun (hb43_2 : ¬ (2 : Int32) < (3 : Int32)) => absurd hb43_2 (by decide)) (fun (hb43_2 : (2 : Int32) < (3 : Int32)) => ?_)
 refine o_aloadN (pc' := 47) w51 o_d9_46 rfl rfl rfl ?_
 refine o_iload (pc' := 49) w51 o_d9_47 rfl rfl ?_
 refine o_iconst (pc' := 50) w51 o_d9_49 (x := (1 : Int32)) rfl rfl ?_
 refine o_iadd (pc' := 51) w51 o_d9_50 (z := (3 : Int32)) (by decide) rfl ?_
 refine o_dup2 (pc' := 52) w51 o_d9_51 rfl rfl rfl ?_
 refine o_ldI (pc' := 53) w51 (v := (.int (List.getD (o_pf (o_cnt 3 [f0.val, f1.val, f2.val, f3.val]) 2) 3 0))) A_a5 (by decide) (o_ivg rfl) o_d9_52 rfl ?_
 refine o_aloadN (pc' := 54) w51 o_d9_53 rfl rfl rfl ?_
 refine o_iload (pc' := 56) w51 o_d9_54 rfl rfl ?_
 refine o_ldI (pc' := 57) w51 (v := (.int (List.getD (o_pf (o_cnt 3 [f0.val, f1.val, f2.val, f3.val]) 2) 2 0))) A_a5 (by decide) (o_ivg rfl) o_d9_56 rfl ?_
 refine o_iadd (pc' := 58) w51 o_d9_57 (z := ((List.getD (o_pf (o_cnt 3 [f0.val, f1.val, f2.val, f3.val]) 2) 3 0) + (List.getD (o_pf (o_cnt 3 [f0.val, f1.val, f2.val, f3.val]) 2) 2 0))) rfl rfl ?_
 refine o_stI (pc' := 59) w51 (i := 3) (xv := (.int ((List.getD (o_pf (o_cnt 3 [f0.val, f1.val, f2.val, f3.val]) 2) 3 0) + (List.getD (o_pf (o_cnt 3 [f0.val, f1.val, f2.val, f3.val]) 2) 2 0)))) (vs' := (o_iv (o_pf (o_cnt 3 [f0.val, f1.val, f2.val, f3.val]) 3))) (by simp) A_a5 (by decide) rfl (by rw [o_ivl, o_pfl, o_cntl]; decide) rfl rfl (o_ivs _ _ _) o_d9_58 rfl fun T54 h56 w55 W57 A_new => ?_
 clear A_a5
 replace L_op := L_op.other W57 ne_op_a5
 replace A_la := A_la.other W57 ne_la_a5
 replace K := K.wr W57 (Or.inr nw_a5)
 have A_a5 := A_new
 clear A_new
 refine o_iinc (pc' := 62) w55 o_d9_59 rfl (y := (3 : Int32)) (by decide) (Ls' := #[.val (.int (3 : Int32)), .val (.int (4 : Int32)), .val (.ref op), .val (.ref a5), .val (.int (3 : Int32)), .unset, .unset]) rfl rfl ?_
 refine o_goto w55 o_d9_62 (by decide) (pc' := 40) rfl ?_
 refine o_iload (pc' := 42) w55 o_d9_40 rfl rfl ?_
 refine o_iloadN (pc' := 43) w55 o_d9_42 rfl rfl ?_
 refine o_icmp (pc' := 46) w55 o_d9_43 rfl (by decide) (pcY := 65) rfl (fun (hb43_3 : ¬ (3 : Int32) < (3 : Int32)) => ?_) (fun (hb43_3 : (3 : Int32) < (3 : Int32)) => absurd hb43_3 (by decide))
 refine o_iloadN (pc' := 66) w55 o_d9_65 rfl rfl ?_
 refine o_newP (pc' := 68) w55 (aty := .int) (z := (4 : Int32)) (vs := (o_iv (List.replicate 4 0))) (dv := (.int 0)) (cap := 4) (o_w0 hw) o_d9_66 rfl (by decide) (by decide) (by decide) rfl (o_ivr 4) (by decide) (by decide) fun T58 h60 a62 g_a62 w59 E61 ⟨k_a62, A_a62⟩ => ?_
 have ne_a5_a62 : a5 ≠ a62 := Nat.ne_of_lt (Nat.lt_of_lt_of_le A_a5.lt (Nat.le_of_eq g_a62))
 have ne_la_a62 : la ≠ a62 := Nat.ne_of_lt (Nat.lt_of_lt_of_le A_la.lt (Nat.le_of_eq g_a62))
 have ne_op_a62 : op ≠ a62 := Nat.ne_of_lt (Nat.lt_of_lt_of_le L_op.lt (Nat.le_of_eq g_a62))
 have nw_a62 : h0.size ≤ a62 := Nat.le_trans K.1 (Nat.le_of_eq g_a62)
 replace L_op := L_op.ext E61
 replace A_la := A_la.ext E61
 replace A_a5 := A_a5.ext E61
 replace K := K.ext E61
 refine o_astore (pc' := 70) w59 o_d9_68 rfl (Ls' := #[.val (.int (3 : Int32)), .val (.int (4 : Int32)), .val (.ref op), .val (.ref a5), .val (.ref a62), .unset, .unset]) rfl rfl ?_
 refine o_aloadN (pc' := 71) w59 o_d9_70 rfl rfl rfl ?_
 refine o_iloadN (pc' := 72) w59 o_d9_71 rfl rfl ?_
 refine o_callS (pc' := 75) w59 (o_w39 hw) (o_w40 hw) (o_w41 hw) (o_w42 hw) (by decide) (o_ct_cpy3 l Z a0 hw EL hE n0 [] h60 (o_old w59) a5 k_a5 (o_pf (o_cnt 3 [f0.val, f1.val, f2.val, f3.val]) 3) A_a5) all0 (argsL := [(.ref a5), (.int (3 : Int32))]) (rest := []) rfl rfl o_pd4 rfl o_d9_72 rfl (by decide) (W := 0) rfl (by decide) (by decide) (by decide) fun T63 h65 v66 ms67 w64 q68 => ?_
 obtain ⟨K71, r_69, kR_70, rfl, rfl, nw_A_r_69, p72_cpy3_0⟩ := q68
 have ne_a5_r_69 : a5 ≠ r_69 := Nat.ne_of_lt (Nat.lt_of_lt_of_le A_a5.lt p72_cpy3_0)
 have ne_a62_r_69 : a62 ≠ r_69 := Nat.ne_of_lt (Nat.lt_of_lt_of_le A_a62.lt p72_cpy3_0)
 have ne_la_r_69 : la ≠ r_69 := Nat.ne_of_lt (Nat.lt_of_lt_of_le A_la.lt p72_cpy3_0)
 have ne_op_r_69 : op ≠ r_69 := Nat.ne_of_lt (Nat.lt_of_lt_of_le L_op.lt p72_cpy3_0)
 have nw_r_69 : h0.size ≤ r_69 := Nat.le_trans K.1 p72_cpy3_0
 replace L_op := L_op.keep K71 nin0
 replace A_la := A_la.keep K71 nin0
 replace A_a5 := A_a5.keep K71 nin0
 replace A_a62 := A_a62.keep K71 nin0
 replace K := K.trans K71 all0
 have A_r_69 := nw_A_r_69; clear nw_A_r_69
 show o_Go Z EL n0 p e below s _ _ _ (T63.setTop (mkF m 75 _ [(.ref r_69)]))
 refine o_astore (pc' := 77) w64 o_d9_75 rfl (Ls' := #[.val (.int (3 : Int32)), .val (.int (4 : Int32)), .val (.ref op), .val (.ref a5), .val (.ref a62), .val (.ref r_69), .unset]) rfl rfl ?_
 refine o_iconst (pc' := 78) w64 o_d9_77 (x := (0 : Int32)) rfl rfl ?_
 refine o_istore (pc' := 80) w64 o_d9_78 (Ls' := #[.val (.int (3 : Int32)), .val (.int (4 : Int32)), .val (.ref op), .val (.ref a5), .val (.ref a62), .val (.ref r_69), .val (.int (0 : Int32))]) rfl rfl ?_
 refine o_iload (pc' := 82) w64 o_d9_80 rfl rfl ?_
 refine o_iloadN (pc' := 83) w64 o_d9_82 rfl rfl ?_
 refine o_icmp (pc' := 86) w64 o_d9_83 rfl (by decide) (pcY := 113) rfl (fun (hb83 : ¬ (0 : Int32) < (4 : Int32)) => absurd hb83 (by decide)) (fun (hb83 : (0 : Int32) < (4 : Int32)) => ?_)
 refine o_aload (pc' := 88) w64 o_d9_86 rfl rfl rfl ?_
 refine o_aload (pc' := 90) w64 o_d9_88 rfl rfl rfl ?_
 refine o_aloadN (pc' := 91) w64 o_d9_90 rfl rfl rfl ?_
 refine o_iload (pc' := 93) w64 o_d9_91 rfl rfl ?_
 refine o_callL (pc' := 98) w64 (x := (⟨"com/example/throng/throng/engine/NumberedAnswers", "<init>", "(III[I[I[I)V"⟩ : MethodName)) (xi := (⟨"java/util/function/IntUnaryOperator", "applyAsInt", "(I)I"⟩ : MethodName)) (y := (⟨"com/example/throng/throng/engine/NumberedAnswers", "lambda$new$1", "([II)I"⟩ : MethodName)) (pcS := 51) (idxS := 33) (σ := o_sh1) (vals := [(.ref la)]) (argsL := [(.int (0 : Int32))]) (argsT := [(.ref la), (.int (0 : Int32))]) (rest := [(.ref r_69), (.ref a62)]) (fcode := o_sh1_fc) (fml := 2) (L0 := #[.val (.ref op), .val (.int (0 : Int32))]) (o_w34 hw) (o_w35 hw) (o_w36 hw) (o_w37 hw) (o_w3 hw) (o_w38 hw) o_sh1_xi o_sh1_y (by decide) L_op o_sh1_fwd o_sh1_f5 o_sh1_f8 (o_ct_lam1 l Z a0 hw EL hE n0 [] h65 (o_old w64) la (0 : Int32) kl (4 : Int32) [(.int (Int32.ofNat f0.val)), (.int (Int32.ofNat f1.val)), (.int (Int32.ofNat f2.val)), (.int (Int32.ofNat f3.val))] (Int32.ofNat f0.val) A_la (by decide) (rfl)) (fun _ _ _ q_ => ⟨_, q_.2.2⟩) rfl rfl o_pd0 rfl o_pd1 rfl o_d9_93 rfl (fun _ => rfl) rfl (fun cK cell U ck blx target hx hmd hc1 hc2 hc3 hO hU hck hh hW kk => (XS.aloadN hU hx rfl (hb hck o_sh1_f0) rfl rfl (LamKit.getCap hx hU hW hmd o_sh1_cap0 hO (by rw [hh]; exact hc1) hc2 (v := (.ref la)) (by rw [hc3]; rfl) rfl rfl (hb hck o_sh1_f1) (XS.iloadN hU hx rfl (hb hck o_sh1_f4) rfl kk)))) (o_w25 hw) (by decide) (W := 2) rfl (by decide) (by decide) (by decide) fun T72 h74 v75 ms76 w73 q77 => ?_
 obtain ⟨rfl, rfl, rfl⟩ := q77
 show o_Go Z EL n0 p e below s _ _ _ (T72.setTop (mkF m 98 _ [(.int (Int32.ofNat f0.val)), (.ref r_69), (.ref a62)]))
 refine o_dup2 (pc' := 99) w73 o_d9_98 rfl rfl rfl ?_
 refine o_ldI (pc' := 100) w73 (v := (.int (List.getD (o_st (o_tk (o_pf (o_cnt 3 [f0.val, f1.val, f2.val, f3.val]) 3) 3) []).1 f0.val 0))) A_r_69 (o_jb3 f0).2.2.1 (o_ivg (o_jb3 f0).2.2.2) o_d9_99 rfl ?_
 refine o_dupX2 (pc' := 101) w73 o_d9_100 rfl rfl rfl rfl ?_
 refine o_iconst (pc' := 102) w73 o_d9_101 (x := (1 : Int32)) rfl rfl ?_
 refine o_iadd (pc' := 103) w73 o_d9_102 (z := ((List.getD (o_st (o_tk (o_pf (o_cnt 3 [f0.val, f1.val, f2.val, f3.val]) 3) 3) []).1 f0.val 0) + (1 : Int32))) rfl rfl ?_
 refine o_stI (pc' := 104) w73 (i := f0.val) (xv := (.int ((List.getD (o_st (o_tk (o_pf (o_cnt 3 [f0.val, f1.val, f2.val, f3.val]) 3) 3) []).1 f0.val 0) + (1 : Int32)))) (vs' := (o_iv (o_st (o_tk (o_pf (o_cnt 3 [f0.val, f1.val, f2.val, f3.val]) 3) 3) [f0.val]).1)) (by simp) A_r_69 (o_jb3 f0).2.2.1 (o_jb3 f0).2.2.2 (by show f0.val < (o_iv (o_st (o_tk (o_pf (o_cnt 3 [f0.val, f1.val, f2.val, f3.val]) 3) 3) []).1).length; rw [o_ivl, (o_stl _ _).1, o_tkl]; exact f0.isLt) rfl rfl (o_ivs _ _ _) o_d9_103 rfl fun T78 h80 w79 W81 A_new => ?_
 clear A_r_69
 replace L_op := L_op.other W81 ne_op_r_69
 replace A_la := A_la.other W81 ne_la_r_69
 replace A_a5 := A_a5.other W81 ne_a5_r_69
 replace A_a62 := A_a62.other W81 ne_a62_r_69
 replace K := K.wr W81 (Or.inr nw_r_69)
 have A_r_69 := A_new
 clear A_new
 refine o_iload (pc' := 106) w79 o_d9_104 rfl rfl ?_
 refine o_stI (pc' := 107) w79 (i := (List.getD (o_st (o_tk (o_pf (o_cnt 3 [f0.val, f1.val, f2.val, f3.val]) 3) 3) []).1 f0.val 0).toNatClampNeg) (xv := (.int (0 : Int32))) (vs' := (o_iv (o_st (o_tk (o_pf (o_cnt 3 [f0.val, f1.val, f2.val, f3.val]) 3) 3) [f0.val]).2.1)) (by simp) A_a62 (o_zz0 f0 f1 f2 f3) rfl (by show _ < (o_iv (o_st (o_tk (o_pf (o_cnt 3 [f0.val, f1.val, f2.val, f3.val]) 3) 3) []).2.1).length; rw [o_ivl, (o_stl _ _).2]; exact o_pn (o_zz0 f0 f1 f2 f3)) rfl rfl (o_ivs _ _ _) o_d9_106 rfl fun T82 h84 w83 W85 A_new => ?_
 clear A_a62
 replace L_op := L_op.other W85 ne_op_a62
 replace A_la := A_la.other W85 ne_la_a62
 replace A_a5 := A_a5.other W85 ne_a5_a62
 replace A_r_69 := A_r_69.other W85 (Ne.symm ne_a62_r_69)
 replace K := K.wr W85 (Or.inr nw_a62)
 have A_a62 := A_new
 clear A_new
 refine o_iinc (pc' := 110) w83 o_d9_107 rfl (y := (1 : Int32)) (by decide) (Ls' := #[.val (.int (3 : Int32)), .val (.int (4 : Int32)), .val (.ref op), .val (.ref a5), .val (.ref a62), .val (.ref r_69), .val (.int (1 : Int32))]) rfl rfl ?_
 refine o_goto w83 o_d9_110 (by decide) (pc' := 80) rfl ?_
 refine o_iload (pc' := 82) w83 o_d9_80 rfl rfl ?_
 refine o_iloadN (pc' := 83) w83 o_d9_82 rfl rfl ?_
 refine o_icmp (pc' := 86) w83 o_d9_83 rfl (by decide) (pcY := 113) rfl (fun (hb83_1 : ¬ (1 : Int32) < (4 : Int32)) => absurd hb83_1 (by decide)) (fun (hb83_1 : (1 : Int32) < (4 : Int32)) => ?_)
 refine o_aload (pc' := 88) w83 o_d9_86 rfl rfl rfl ?_
 refine o_aload (pc' := 90) w83 o_d9_88 rfl rfl rfl ?_
 refine o_aloadN (pc' := 91) w83 o_d9_90 rfl rfl rfl ?_
 refine o_iload (pc' := 93) w83 o_d9_91 rfl rfl ?_
 refine o_callL (pc' := 98) w83 (x := (⟨"com/example/throng/throng/engine/NumberedAnswers", "<init>", "(III[I[I[I)V"⟩ : MethodName)) (xi := (⟨"java/util/function/IntUnaryOperator", "applyAsInt", "(I)I"⟩ : MethodName)) (y := (⟨"com/example/throng/throng/engine/NumberedAnswers", "lambda$new$1", "([II)I"⟩ : MethodName)) (pcS := 51) (idxS := 33) (σ := o_sh1) (vals := [(.ref la)]) (argsL := [(.int (1 : Int32))]) (argsT := [(.ref la), (.int (1 : Int32))]) (rest := [(.ref r_69), (.ref a62)]) (fcode := o_sh1_fc) (fml := 2) (L0 := #[.val (.ref op), .val (.int (1 : Int32))]) (o_w34 hw) (o_w35 hw) (o_w36 hw) (o_w37 hw) (o_w3 hw) (o_w38 hw) o_sh1_xi o_sh1_y (by decide) L_op o_sh1_fwd o_sh1_f5 o_sh1_f8 (o_ct_lam1 l Z a0 hw EL hE n0 [] h84 (o_old w83) la (1 : Int32) kl (4 : Int32) [(.int (Int32.ofNat f0.val)), (.int (Int32.ofNat f1.val)), (.int (Int32.ofNat f2.val)), (.int (Int32.ofNat f3.val))] (Int32.ofNat f1.val) A_la (by decide) (rfl)) (fun _ _ _ q_ => ⟨_, q_.2.2⟩) rfl rfl o_pd0 rfl o_pd1 rfl o_d9_93 rfl (fun _ => rfl) rfl (fun cK cell U ck blx target hx hmd hc1 hc2 hc3 hO hU hck hh hW kk => (XS.aloadN hU hx rfl (hb hck o_sh1_f0) rfl rfl (LamKit.getCap hx hU hW hmd o_sh1_cap0 hO (by rw [hh]; exact hc1) hc2 (v := (.ref la)) (by rw [hc3]; rfl) rfl rfl (hb hck o_sh1_f1) (XS.iloadN hU hx rfl (hb hck o_sh1_f4) rfl kk)))) (o_w25 hw) (by decide) (W := 2) rfl (by decide) (by decide) (by decide) fun T86 h88 v89 ms90 w87 q91 => ?_
 obtain ⟨rfl, rfl, rfl⟩ := q91
 show o_Go Z EL n0 p e below s _ _ _ (T86.setTop (mkF m 98 _ [(.int (Int32.ofNat f1.val)), (.ref r_69), (.ref a62)]))
 refine o_dup2 (pc' := 99) w87 o_d9_98 rfl rfl rfl ?_
 refine o_ldI (pc' := 100) w87 (v := (.int (List.getD (o_st (o_tk (o_pf (o_cnt 3 [f0.val, f1.val, f2.val, f3.val]) 3) 3) [f0.val]).1 f1.val 0))) A_r_69 (o_jb3 f1).2.2.1 (o_ivg (o_jb3 f1).2.2.2) o_d9_99 rfl ?_
 refine o_dupX2 (pc' := 101) w87 o_d9_100 rfl rfl rfl rfl ?_
 refine o_iconst (pc' := 102) w87 o_d9_101 (x := (1 : Int32)) rfl rfl ?_
 refine o_iadd (pc' := 103) w87 o_d9_102 (z := ((List.getD (o_st (o_tk (o_pf (o_cnt 3 [f0.val, f1.val, f2.val, f3.val]) 3) 3) [f0.val]).1 f1.val 0) + (1 : Int32))) rfl rfl ?_
 refine o_stI (pc' := 104) w87 (i := f1.val) (xv := (.int ((List.getD (o_st (o_tk (o_pf (o_cnt 3 [f0.val, f1.val, f2.val, f3.val]) 3) 3) [f0.val]).1 f1.val 0) + (1 : Int32)))) (vs' := (o_iv (o_st (o_tk (o_pf (o_cnt 3 [f0.val, f1.val, f2.val, f3.val]) 3) 3) [f0.val, f1.val]).1)) (by simp) A_r_69 (o_jb3 f1).2.2.1 (o_jb3 f1).2.2.2 (by show f1.val < (o_iv (o_st (o_tk (o_pf (o_cnt 3 [f0.val, f1.val, f2.val, f3.val]) 3) 3) [f0.val]).1).length; rw [o_ivl, (o_stl _ _).1, o_tkl]; exact f1.isLt) rfl rfl (o_ivs _ _ _) o_d9_103 rfl fun T92 h94 w93 W95 A_new => ?_
 clear A_r_69
 replace L_op := L_op.other W95 ne_op_r_69
 replace A_la := A_la.other W95 ne_la_r_69
 replace A_a5 := A_a5.other W95 ne_a5_r_69
 replace A_a62 := A_a62.other W95 ne_a62_r_69
 replace K := K.wr W95 (Or.inr nw_r_69)
 have A_r_69 := A_new
 clear A_new
 refine o_iload (pc' := 106) w93 o_d9_104 rfl rfl ?_
 refine o_stI (pc' := 107) w93 (i := (List.getD (o_st (o_tk (o_pf (o_cnt 3 [f0.val, f1.val, f2.val, f3.val]) 3) 3) [f0.val]).1 f1.val 0).toNatClampNeg) (xv := (.int (1 : Int32))) (vs' := (o_iv (o_st (o_tk (o_pf (o_cnt 3 [f0.val, f1.val, f2.val, f3.val]) 3) 3) [f0.val, f1.val]).2.1)) (by simp) A_a62 (o_zz1 f0 f1 f2 f3) rfl (by show _ < (o_iv (o_st (o_tk (o_pf (o_cnt 3 [f0.val, f1.val, f2.val, f3.val]) 3) 3) [f0.val]).2.1).length; rw [o_ivl, (o_stl _ _).2]; exact o_pn (o_zz1 f0 f1 f2 f3)) rfl rfl (o_ivs _ _ _) o_d9_106 rfl fun T96 h98 w97 W99 A_new => ?_
 clear A_a62
 replace L_op := L_op.other W99 ne_op_a62
 replace A_la := A_la.other W99 ne_la_a62
 replace A_a5 := A_a5.other W99 ne_a5_a62
 replace A_r_69 := A_r_69.other W99 (Ne.symm ne_a62_r_69)
 replace K := K.wr W99 (Or.inr nw_a62)
 have A_a62 := A_new
 clear A_new
 refine o_iinc (pc' := 110) w97 o_d9_107 rfl (y := (2 : Int32)) (by decide) (Ls' := #[.val (.int (3 : Int32)), .val (.int (4 : Int32)), .val (.ref op), .val (.ref a5), .val (.ref a62), .val (.ref r_69), .val (.int (2 : Int32))]) rfl rfl ?_
 refine o_goto w97 o_d9_110 (by decide) (pc' := 80) rfl ?_
 refine o_iload (pc' := 82) w97 o_d9_80 rfl rfl ?_
 refine o_iloadN (pc' := 83) w97 o_d9_82 rfl rfl ?_
 refine o_icmp (pc' := 86) w97 o_d9_83 rfl (by decide) (pcY := 113) rfl (fun (hb83_2 : ¬ (2 : Int32) < (4 : Int32)) => absurd hb83_2 (by decide)) (fun (hb83_2 : (2 : Int32) < (4 : Int32)) => ?_)
 refine o_aload (pc' := 88) w97 o_d9_86 rfl rfl rfl ?_
 refine o_aload (pc' := 90) w97 o_d9_88 rfl rfl rfl ?_
 refine o_aloadN (pc' := 91) w97 o_d9_90 rfl rfl rfl ?_
 refine o_iload (pc' := 93) w97 o_d9_91 rfl rfl ?_
 refine o_callL (pc' := 98) w97 (x := (⟨"com/example/throng/throng/engine/NumberedAnswers", "<init>", "(III[I[I[I)V"⟩ : MethodName)) (xi := (⟨"java/util/function/IntUnaryOperator", "applyAsInt", "(I)I"⟩ : MethodName)) (y := (⟨"com/example/throng/throng/engine/NumberedAnswers", "lambda$new$1", "([II)I"⟩ : MethodName)) (pcS := 51) (idxS := 33) (σ := o_sh1) (vals := [(.ref la)]) (argsL := [(.int (2 : Int32))]) (argsT := [(.ref la), (.int (2 : Int32))]) (rest := [(.ref r_69), (.ref a62)]) (fcode := o_sh1_fc) (fml := 2) (L0 := #[.val (.ref op), .val (.int (2 : Int32))]) (o_w34 hw) (o_w35 hw) (o_w36 hw) (o_w37 hw) (o_w3 hw) (o_w38 hw) o_sh1_xi o_sh1_y (by decide) L_op o_sh1_fwd o_sh1_f5 o_sh1_f8 (o_ct_lam1 l Z a0 hw EL hE n0 [] h98 (o_old w97) la (2 : Int32) kl (4 : Int32) [(.int (Int32.ofNat f0.val)), (.int (Int32.ofNat f1.val)), (.int (Int32.ofNat f2.val)), (.int (Int32.ofNat f3.val))] (Int32.ofNat f2.val) A_la (by decide) (rfl)) (fun _ _ _ q_ => ⟨_, q_.2.2⟩) rfl rfl o_pd0 rfl o_pd1 rfl o_d9_93 rfl (fun _ => rfl) rfl (fun cK cell U ck blx target hx hmd hc1 hc2 hc3 hO hU hck hh hW kk => (XS.aloadN hU hx rfl (hb hck o_sh1_f0) rfl rfl (LamKit.getCap hx hU hW hmd o_sh1_cap0 hO (by rw [hh]; exact hc1) hc2 (v := (.ref la)) (by rw [hc3]; rfl) rfl rfl (hb hck o_sh1_f1) (XS.iloadN hU hx rfl (hb hck o_sh1_f4) rfl kk)))) (o_w25 hw) (by decide) (W := 2) rfl (by decide) (by decide) (by decide) fun T100 h102 v103 ms104 w101 q105 => ?_
 obtain ⟨rfl, rfl, rfl⟩ := q105
 show o_Go Z EL n0 p e below s _ _ _ (T100.setTop (mkF m 98 _ [(.int (Int32.ofNat f2.val)), (.ref r_69), (.ref a62)]))
 refine o_dup2 (pc' := 99) w101 o_d9_98 rfl rfl rfl ?_
 refine o_ldI (pc' := 100) w101 (v := (.int (List.getD (o_st (o_tk (o_pf (o_cnt 3 [f0.val, f1.val, f2.val, f3.val]) 3) 3) [f0.val, f1.val]).1 f2.val 0))) A_r_69 (o_jb3 f2).2.2.1 (o_ivg (o_jb3 f2).2.2.2) o_d9_99 rfl ?_
 refine o_dupX2 (pc' := 101) w101 o_d9_100 rfl rfl rfl rfl ?_
 refine o_iconst (pc' := 102) w101 o_d9_101 (x := (1 : Int32)) rfl rfl ?_
 refine o_iadd (pc' := 103) w101 o_d9_102 (z := ((List.getD (o_st (o_tk (o_pf (o_cnt 3 [f0.val, f1.val, f2.val, f3.val]) 3) 3) [f0.val, f1.val]).1 f2.val 0) + (1 : Int32))) rfl rfl ?_
 refine o_stI (pc' := 104) w101 (i := f2.val) (xv := (.int ((List.getD (o_st (o_tk (o_pf (o_cnt 3 [f0.val, f1.val, f2.val, f3.val]) 3) 3) [f0.val, f1.val]).1 f2.val 0) + (1 : Int32)))) (vs' := (o_iv (o_st (o_tk (o_pf (o_cnt 3 [f0.val, f1.val, f2.val, f3.val]) 3) 3) [f0.val, f1.val, f2.val]).1)) (by simp) A_r_69 (o_jb3 f2).2.2.1 (o_jb3 f2).2.2.2 (by show f2.val < (o_iv (o_st (o_tk (o_pf (o_cnt 3 [f0.val, f1.val, f2.val, f3.val]) 3) 3) [f0.val, f1.val]).1).length; rw [o_ivl, (o_stl _ _).1, o_tkl]; exact f2.isLt) rfl rfl (o_ivs _ _ _) o_d9_103 rfl fun T106 h108 w107 W109 A_new => ?_
 clear A_r_69
 replace L_op := L_op.other W109 ne_op_r_69
 replace A_la := A_la.other W109 ne_la_r_69
 replace A_a5 := A_a5.other W109 ne_a5_r_69
 replace A_a62 := A_a62.other W109 ne_a62_r_69
 replace K := K.wr W109 (Or.inr nw_r_69)
 have A_r_69 := A_new
 clear A_new
 refine o_iload (pc' := 106) w107 o_d9_104 rfl rfl ?_
 refine o_stI (pc' := 107) w107 (i := (List.getD (o_st (o_tk (o_pf (o_cnt 3 [f0.val, f1.val, f2.val, f3.val]) 3) 3) [f0.val, f1.val]).1 f2.val 0).toNatClampNeg) (xv := (.int (2 : Int32))) (vs' := (o_iv (o_st (o_tk (o_pf (o_cnt 3 [f0.val, f1.val, f2.val, f3.val]) 3) 3) [f0.val, f1.val, f2.val]).2.1)) (by simp) A_a62 (o_zz2 f0 f1 f2 f3) rfl (by show _ < (o_iv (o_st (o_tk (o_pf (o_cnt 3 [f0.val, f1.val, f2.val, f3.val]) 3) 3) [f0.val, f1.val]).2.1).length; rw [o_ivl, (o_stl _ _).2]; exact o_pn (o_zz2 f0 f1 f2 f3)) rfl rfl (o_ivs _ _ _) o_d9_106 rfl fun T110 h112 w111 W113 A_new => ?_
 clear A_a62
 replace L_op := L_op.other W113 ne_op_a62
 replace A_la := A_la.other W113 ne_la_a62
 replace A_a5 := A_a5.other W113 ne_a5_a62
 replace A_r_69 := A_r_69.other W113 (Ne.symm ne_a62_r_69)
 replace K := K.wr W113 (Or.inr nw_a62)
 have A_a62 := A_new
 clear A_new
 refine o_iinc (pc' := 110) w111 o_d9_107 rfl (y := (3 : Int32)) (by decide) (Ls' := #[.val (.int (3 : Int32)), .val (.int (4 : Int32)), .val (.ref op), .val (.ref a5), .val (.ref a62), .val (.ref r_69), .val (.int (3 : Int32))]) rfl rfl ?_
 refine o_goto w111 o_d9_110 (by decide) (pc' := 80) rfl ?_
 refine o_iload (pc' := 82) w111 o_d9_80 rfl rfl ?_
 refine o_iloadN (pc' := 83) w111 o_d9_82 rfl rfl ?_
 refine o_icmp (pc' := 86) w111 o_d9_83 rfl (by decide) (pcY := 113) rfl (fun (hb83_3 : ¬ (3 : Int32) < (4 : Int32)) => absurd hb83_3 (by decide)) (fun (hb83_3 : (3 : Int32) < (4 : Int32)) => ?_)
 refine o_aload (pc' := 88) w111 o_d9_86 rfl rfl rfl ?_
 refine o_aload (pc' := 90) w111 o_d9_88 rfl rfl rfl ?_
 refine o_aloadN (pc' := 91) w111 o_d9_90 rfl rfl rfl ?_
 refine o_iload (pc' := 93) w111 o_d9_91 rfl rfl ?_
 refine o_callL (pc' := 98) w111 (x := (⟨"com/example/throng/throng/engine/NumberedAnswers", "<init>", "(III[I[I[I)V"⟩ : MethodName)) (xi := (⟨"java/util/function/IntUnaryOperator", "applyAsInt", "(I)I"⟩ : MethodName)) (y := (⟨"com/example/throng/throng/engine/NumberedAnswers", "lambda$new$1", "([II)I"⟩ : MethodName)) (pcS := 51) (idxS := 33) (σ := o_sh1) (vals := [(.ref la)]) (argsL := [(.int (3 : Int32))]) (argsT := [(.ref la), (.int (3 : Int32))]) (rest := [(.ref r_69), (.ref a62)]) (fcode := o_sh1_fc) (fml := 2) (L0 := #[.val (.ref op), .val (.int (3 : Int32))]) (o_w34 hw) (o_w35 hw) (o_w36 hw) (o_w37 hw) (o_w3 hw) (o_w38 hw) o_sh1_xi o_sh1_y (by decide) L_op o_sh1_fwd o_sh1_f5 o_sh1_f8 (o_ct_lam1 l Z a0 hw EL hE n0 [] h112 (o_old w111) la (3 : Int32) kl (4 : Int32) [(.int (Int32.ofNat f0.val)), (.int (Int32.ofNat f1.val)), (.int (Int32.ofNat f2.val)), (.int (Int32.ofNat f3.val))] (Int32.ofNat f3.val) A_la (by decide) (rfl)) (fun _ _ _ q_ => ⟨_, q_.2.2⟩) rfl rfl o_pd0 rfl o_pd1 rfl o_d9_93 rfl (fun _ => rfl) rfl (fun cK cell U ck blx target hx hmd hc1 hc2 hc3 hO hU hck hh hW kk => (XS.aloadN hU hx rfl (hb hck o_sh1_f0) rfl rfl (LamKit.getCap hx hU hW hmd o_sh1_cap0 hO (by rw [hh]; exact hc1) hc2 (v := (.ref la)) (by rw [hc3]; rfl) rfl rfl (hb hck o_sh1_f1) (XS.iloadN hU hx rfl (hb hck o_sh1_f4) rfl kk)))) (o_w25 hw) (by decide) (W := 2) rfl (by decide) (by decide) (by decide) fun T114 h116 v117 ms118 w115 q119 => ?_
 obtain ⟨rfl, rfl, rfl⟩ := q119
 show o_Go Z EL n0 p e below s _ _ _ (T114.setTop (mkF m 98 _ [(.int (Int32.ofNat f3.val)), (.ref r_69), (.ref a62)]))
 refine o_dup2 (pc' := 99) w115 o_d9_98 rfl rfl rfl ?_
 refine o_ldI (pc' := 100) w115 (v := (.int (List.getD (o_st (o_tk (o_pf (o_cnt 3 [f0.val, f1.val, f2.val, f3.val]) 3) 3) [f0.val, f1.val, f2.val]).1 f3.val 0))) A_r_69 (o_jb3 f3).2.2.1 (o_ivg (o_jb3 f3).2.2.2) o_d9_99 rfl ?_
 refine o_dupX2 (pc' := 101) w115 o_d9_100 rfl rfl rfl rfl ?_
 refine o_iconst (pc' := 102) w115 o_d9_101 (x := (1 : Int32)) rfl rfl ?_
 refine o_iadd (pc' := 103) w115 o_d9_102 (z := ((List.getD (o_st (o_tk (o_pf (o_cnt 3 [f0.val, f1.val, f2.val, f3.val]) 3) 3) [f0.val, f1.val, f2.val]).1 f3.val 0) + (1 : Int32))) rfl rfl ?_
 refine o_stI (pc' := 104) w115 (i := f3.val) (xv := (.int ((List.getD (o_st (o_tk (o_pf (o_cnt 3 [f0.val, f1.val, f2.val, f3.val]) 3) 3) [f0.val, f1.val, f2.val]).1 f3.val 0) + (1 : Int32)))) (vs' := (o_iv (o_st (o_tk (o_pf (o_cnt 3 [f0.val, f1.val, f2.val, f3.val]) 3) 3) [f0.val, f1.val, f2.val, f3.val]).1)) (by simp) A_r_69 (o_jb3 f3).2.2.1 (o_jb3 f3).2.2.2 (by show f3.val < (o_iv (o_st (o_tk (o_pf (o_cnt 3 [f0.val, f1.val, f2.val, f3.val]) 3) 3) [f0.val, f1.val, f2.val]).1).length; rw [o_ivl, (o_stl _ _).1, o_tkl]; exact f3.isLt) rfl rfl (o_ivs _ _ _) o_d9_103 rfl fun T120 h122 w121 W123 A_new => ?_
 clear A_r_69
 replace L_op := L_op.other W123 ne_op_r_69
 replace A_la := A_la.other W123 ne_la_r_69
 replace A_a5 := A_a5.other W123 ne_a5_r_69
 replace A_a62 := A_a62.other W123 ne_a62_r_69
 replace K := K.wr W123 (Or.inr nw_r_69)
 have A_r_69 := A_new
 clear A_new
 refine o_iload (pc' := 106) w121 o_d9_104 rfl rfl ?_
 refine o_stI (pc' := 107) w121 (i := (List.getD (o_st (o_tk (o_pf (o_cnt 3 [f0.val, f1.val, f2.val, f3.val]) 3) 3) [f0.val, f1.val, f2.val]).1 f3.val 0).toNatClampNeg) (xv := (.int (3 : Int32))) (vs' := (o_iv (o_st (o_tk (o_pf (o_cnt 3 [f0.val, f1.val, f2.val, f3.val]) 3) 3) [f0.val, f1.val, f2.val, f3.val]).2.1)) (by simp) A_a62 (o_zz3 f0 f1 f2 f3) rfl (by show _ < (o_iv (o_st (o_tk (o_pf (o_cnt 3 [f0.val, f1.val, f2.val, f3.val]) 3) 3) [f0.val, f1.val, f2.val]).2.1).length; rw [o_ivl, (o_stl _ _).2]; exact o_pn (o_zz3 f0 f1 f2 f3)) rfl rfl (o_ivs _ _ _) o_d9_106 rfl fun T124 h126 w125 W127 A_new => ?_
 clear A_a62
 replace L_op := L_op.other W127 ne_op_a62
 replace A_la := A_la.other W127 ne_la_a62
 replace A_a5 := A_a5.other W127 ne_a5_a62
 replace A_r_69 := A_r_69.other W127 (Ne.symm ne_a62_r_69)
 replace K := K.wr W127 (Or.inr nw_a62)
 have A_a62 := A_new
 clear A_new
 refine o_iinc (pc' := 110) w125 o_d9_107 rfl (y := (4 : Int32)) (by decide) (Ls' := #[.val (.int (3 : Int32)), .val (.int (4 : Int32)), .val (.ref op), .val (.ref a5), .val (.ref a62), .val (.ref r_69), .val (.int (4 : Int32))]) rfl rfl ?_
 refine o_goto w125 o_d9_110 (by decide) (pc' := 80) rfl ?_
 refine o_iload (pc' := 82) w125 o_d9_80 rfl rfl ?_
 refine o_iloadN (pc' := 83) w125 o_d9_82 rfl rfl ?_
 refine o_icmp (pc' := 86) w125 o_d9_83 rfl (by decide) (pcY := 113) rfl (fun (hb83_4 : ¬ (4 : Int32) < (4 : Int32)) => ?_) (fun (hb83_4 : (4 : Int32) < (4 : Int32)) => absurd hb83_4 (by decide))
 refine o_newO (pc' := 116) w125 (o_w51 hw) (o_w52 hw) (o_w29 hw) o_d9_113 rfl (by decide) (by decide) fun T128 h130 a132 g_a132 w129 E131 ⟨E_a132, D133⟩ => ?_
 have ne_a5_a132 : a5 ≠ a132 := Nat.ne_of_lt (Nat.lt_of_lt_of_le A_a5.lt (Nat.le_of_eq g_a132))
 have ne_a62_a132 : a62 ≠ a132 := Nat.ne_of_lt (Nat.lt_of_lt_of_le A_a62.lt (Nat.le_of_eq g_a132))
 have ne_la_a132 : la ≠ a132 := Nat.ne_of_lt (Nat.lt_of_lt_of_le A_la.lt (Nat.le_of_eq g_a132))
 have ne_op_a132 : op ≠ a132 := Nat.ne_of_lt (Nat.lt_of_lt_of_le L_op.lt (Nat.le_of_eq g_a132))
 have ne_r_69_a132 : r_69 ≠ a132 := Nat.ne_of_lt (Nat.lt_of_lt_of_le A_r_69.lt (Nat.le_of_eq g_a132))
 have nw_a132 : h0.size ≤ a132 := Nat.le_trans K.1 (Nat.le_of_eq g_a132)
 replace L_op := L_op.ext E131
 replace A_la := A_la.ext E131
 replace A_a5 := A_a5.ext E131
 replace A_a62 := A_a62.ext E131
 replace A_r_69 := A_r_69.ext E131
 replace K := K.ext E131
 have F_a132_start : Fld Z h130 a132 "com/example/throng/throng/engine/Groups" "start" "[I" .null := D133 (Or.inr (o_w63 hw)) (ty := (.array .int)) (by decide)
 have F_a132_items : Fld Z h130 a132 "com/example/throng/throng/engine/Groups" "items" "[I" .null := D133 (Or.inr (o_w65 hw)) (ty := (.array .int)) (by decide)
 refine o_dup (pc' := 117) w129 o_d9_116 rfl rfl ?_
 refine o_aloadN (pc' := 118) w129 o_d9_117 rfl rfl rfl ?_
 refine o_aload (pc' := 120) w129 o_d9_118 rfl rfl rfl ?_
 refine o_callI (pc' := 123) w129 rfl (o_w53 hw) (o_w54 hw) (o_w29 hw) (o_w55 hw) (by decide) (o_ct_grI l Z a0 hw EL hE n0 [] h130 (o_old w129) a132 a5 a62 .null .null E_a132 F_a132_start F_a132_items) (allS (P := fun x => x ∈ _) (by simp) all0) (argsL := [(.ref a5), (.ref a62)]) (rest := [(.ref a132)]) rfl rfl o_pd5 rfl o_d9_120 rfl (by decide) (W := 1) rfl (by decide) (by decide) (by decide) fun T134 h136 v137 ms138 w135 q139 => ?_
 obtain ⟨K140, rfl, rfl, nw_E_a132, nw_F_a132_start, nw_F_a132_items⟩ := q139
 replace L_op := L_op.keep K140 (ninS ne_op_a132 nin0)
 replace A_la := A_la.keep K140 (ninS ne_la_a132 nin0)
 replace A_a5 := A_a5.keep K140 (ninS ne_a5_a132 nin0)
 replace A_a62 := A_a62.keep K140 (ninS ne_a62_a132 nin0)
 replace A_r_69 := A_r_69.keep K140 (ninS ne_r_69_a132 nin0)
 replace K := K.trans K140 (allS (P := fun x => x ∈ ([] : List Addr) ∨ h0.size ≤ x) (Or.inr nw_a132) all0)
 have E_a132 := nw_E_a132; clear nw_E_a132
 have F_a132_start := nw_F_a132_start; clear nw_F_a132_start
 have F_a132_items := nw_F_a132_items; clear nw_F_a132_items
 show o_Go Z EL n0 p e below s _ _ _ (T134.setTop (mkF m 123 _ [(.ref a132)]))
 exact o_retV w135 (t := (.object "com/example/throng/throng/engine/Groups")) rfl (o_narR rfl rfl) (Or.inr (Or.inr (Or.inr (Or.inr ⟨rfl, rfl, rfl⟩)))) o_d9_123 (by decide) (by decide) (ms' := [a62]) (allS (P := fun x => x ∈ _) (by simp) all0) ⟨K, a132, a5, a62, k_a62, rfl, rfl, E_a132, F_a132_start, F_a132_items, A_a62, nw_a132, nw_a62, (Ne.symm ne_a62_a132)⟩
theorem o_w74 {Z a0} (hw : o_H a0 Z) : (.code ⟨"com/example/throng/throng/engine/Groups", "lambda$of$0", "(Ljava/util/function/IntUnaryOperator;[II)I"⟩ prog_70_method_9_code 3 (Option.some Jvm.ClassFile.FieldType.int) : Jvm.Cond).before a0 Z = true := hw _ (List.mem_of_getElem? (i := 74) rfl)
theorem o_w73 {Z a0} (hw : o_H a0 Z) : (.static ⟨"com/example/throng/throng/engine/Groups", "lambda$of$0", "(Ljava/util/function/IntUnaryOperator;[II)I"⟩ : Jvm.Cond).before a0 Z = true := hw _ (List.mem_of_getElem? (i := 73) rfl)
theorem o_pd6 : parseMethodDescriptor "(Ljava/util/function/IntUnaryOperator;[II)I" = some ⟨[(.object "java/util/function/IntUnaryOperator"), (.array .int), .int], some .int⟩ := by decide +kernel
theorem o_zz4 : ∀ (u0 : Fin 2) (u1 : Fin 2) (u2 : Fin 2) (u3 : Fin 2), ¬ (List.getD (o_st (o_tk (o_pf (o_cnt 2 [u0.val, u1.val, u2.val, u3.val]) 2) 2) []).1 u0.val 0) < 0 ∧ (List.getD (o_st (o_tk (o_pf (o_cnt 2 [u0.val, u1.val, u2.val, u3.val]) 2) 2) []).1 u0.val 0) < 4 := by decide +kernel
theorem o_zz5 : ∀ (u0 : Fin 2) (u1 : Fin 2) (u2 : Fin 2) (u3 : Fin 2), ¬ (List.getD (o_st (o_tk (o_pf (o_cnt 2 [u0.val, u1.val, u2.val, u3.val]) 2) 2) [u0.val]).1 u1.val 0) < 0 ∧ (List.getD (o_st (o_tk (o_pf (o_cnt 2 [u0.val, u1.val, u2.val, u3.val]) 2) 2) [u0.val]).1 u1.val 0) < 4 := by decide +kernel
theorem o_zz6 : ∀ (u0 : Fin 2) (u1 : Fin 2) (u2 : Fin 2) (u3 : Fin 2), ¬ (List.getD (o_st (o_tk (o_pf (o_cnt 2 [u0.val, u1.val, u2.val, u3.val]) 2) 2) [u0.val, u1.val]).1 u2.val 0) < 0 ∧ (List.getD (o_st (o_tk (o_pf (o_cnt 2 [u0.val, u1.val, u2.val, u3.val]) 2) 2) [u0.val, u1.val]).1 u2.val 0) < 4 := by decide +kernel
theorem o_zz7 : ∀ (u0 : Fin 2) (u1 : Fin 2) (u2 : Fin 2) (u3 : Fin 2), ¬ (List.getD (o_st (o_tk (o_pf (o_cnt 2 [u0.val, u1.val, u2.val, u3.val]) 2) 2) [u0.val, u1.val, u2.val]).1 u3.val 0) < 0 ∧ (List.getD (o_st (o_tk (o_pf (o_cnt 2 [u0.val, u1.val, u2.val, u3.val]) 2) 2) [u0.val, u1.val, u2.val]).1 u3.val 0) < 4 := by decide +kernel
theorem o_ef_ofB (m : MethodId) (op : Addr) : entryFrame m #[(.int (2 : Int32)), (.int (4 : Int32)), (.ref op)] 7 = mkF m 0 #[.val (.int (2 : Int32)), .val (.int (4 : Int32)), .val (.ref op), .unset, .unset, .unset, .unset] [] := by first | (simp [entryFrame, mkF, argsToLocals, Value.category]; done) | rfl
def o_Q_ofB (Z : State) (h0 : Heap) (op : Addr) (op0 : Addr) (bl : Addr) (qa : Addr) (kq : ClassId) (vq : List Value) (kb : ClassId) (vb : List Value) (mid0 : Int32) (mid1 : Int32) (mid2 : Int32) (mid3 : Int32) (u0 : Fin 2) (u1 : Fin 2) (u2 : Fin 2) (u3 : Fin 2) (v : Option Value) (h : Heap) (ms : List Addr) : Prop := (Keep h0 h []) ∧ (∃ (r : Addr) (sa : Addr) (ia : Addr) (ki : ClassId), (ms = [ia]) ∧ (v = some (.ref r)) ∧ (Exa Z h r "com/example/throng/throng/engine/Groups") ∧ (Fld Z h r "com/example/throng/throng/engine/Groups" "start" "[I" (.ref sa)) ∧ (Fld Z h r "com/example/throng/throng/engine/Groups" "items" "[I" (.ref ia)) ∧ (Arv Z h ia ki .int (4 : Int32) (o_iv (o_itm 2 [u0.val, u1.val, u2.val, u3.val])) (.int 0)) ∧ (h0.size ≤ r) ∧ (h0.size ≤ ia) ∧ (r ≠ ia))
theorem o_ct_ofB (l : Launch) (Z : State) (a0 : Array Value) (hw : o_H a0 Z) (EL : List (String × Nat)) (hE : EW Z a0 EL) (n0 : Nat) (ws : List Jvm.Cond) (h0 : Heap) (O : Old Z n0 h0) (op : Addr) (op0 : Addr) (bl : Addr) (qa : Addr) (kq : ClassId) (vq : List Value) (kb : ClassId) (vb : List Value) (mid0 : Int32) (mid1 : Int32) (mid2 : Int32) (mid3 : Int32) (u0 : Fin 2) (u1 : Fin 2) (u2 : Fin 2) (u3 : Fin 2) (L_op : o_Lam Z h0 op (⟨"com/example/throng/throng/engine/Groups", "of", "(IILjava/util/function/IntUnaryOperator;ILjava/util/function/IntUnaryOperator;)Lcom/example/throng/throng/engine/Groups;"⟩ : MethodName) 17 38 o_sh2 [(.ref op0), (.ref bl)]) (L_op0 : o_Lam Z h0 op0 (⟨"com/example/throng/throng/engine/NumberedAnswers", "<init>", "(III[I[I[I)V"⟩ : MethodName) 43 29 o_sh0 [(.ref qa)]) (A_qa : Arv Z h0 qa kq .int (4 : Int32) vq (.int 0)) (A_bl : Arv Z h0 bl kb .int (4 : Int32) vb (.int 0)) (mm0 : vb.getD 0 (.int 0) = .int mid0 ∧ (¬ mid0 < 0 ∧ mid0 < 4) ∧ vq.getD mid0.toNatClampNeg (.int 0) = .int (Int32.ofNat u0.val)) (mm1 : vb.getD 1 (.int 0) = .int mid1 ∧ (¬ mid1 < 0 ∧ mid1 < 4) ∧ vq.getD mid1.toNatClampNeg (.int 0) = .int (Int32.ofNat u1.val)) (mm2 : vb.getD 2 (.int 0) = .int mid2 ∧ (¬ mid2 < 0 ∧ mid2 < 4) ∧ vq.getD mid2.toNatClampNeg (.int 0) = .int (Int32.ofNat u2.val)) (mm3 : vb.getD 3 (.int 0) = .int mid3 ∧ (¬ mid3 < 0 ∧ mid3 < 4) ∧ vq.getD mid3.toNatClampNeg (.int 0) = .int (Int32.ofNat u3.val)) :
    o_Ct l Z EL n0 (⟨"com/example/throng/throng/engine/Groups", "of", "(IILjava/util/function/IntUnaryOperator;)Lcom/example/throng/throng/engine/Groups;"⟩ : MethodName) prog_70_method_2_code 7 (some (.object "com/example/throng/throng/engine/Groups")) ws ({ frames := 4, cells := 4, slots := 11, locals := 55 } : Room) #[(.int (2 : Int32)), (.int (4 : Int32)), (.ref op)] h0 [] (o_Q_ofB Z h0 op op0 bl qa kq vq kb vb mid0 mid1 mid2 mid3 u0 u1 u2 u3) := by
 refine o_enter (a0 := a0) o_pf9 hE O fun p e s m below meth c T0 w0 => ?_
 rw [o_ef_ofB m op]
 have K : Keep h0 h0 [] := Keep.refl _ _
 refine o_iloadN (pc' := 1) w0 o_d9_0 rfl rfl ?_
 refine o_iconst (pc' := 2) w0 o_d9_1 (x := (1 : Int32)) rfl rfl ?_
 refine o_iadd (pc' := 3) w0 o_d9_2 (z := (3 : Int32)) (by decide) rfl ?_
 refine o_newP (pc' := 5) w0 (aty := .int) (z := (3 : Int32)) (vs := (o_iv (o_cnt 2 []))) (dv := (.int 0)) (cap := 3) (o_w0 hw) o_d9_3 rfl (by decide) (by decide) (by decide) rfl (o_ivr 3) (by decide) (by decide) fun T1 h3 a5 g_a5 w2 E4 ⟨k_a5, A_a5⟩ => ?_
 have ne_bl_a5 : bl ≠ a5 := Nat.ne_of_lt (Nat.lt_of_lt_of_le A_bl.lt (Nat.le_of_eq g_a5))
 have ne_op_a5 : op ≠ a5 := Nat.ne_of_lt (Nat.lt_of_lt_of_le L_op.lt (Nat.le_of_eq g_a5))
 have ne_op0_a5 : op0 ≠ a5 := Nat.ne_of_lt (Nat.lt_of_lt_of_le L_op0.lt (Nat.le_of_eq g_a5))
 have ne_qa_a5 : qa ≠ a5 := Nat.ne_of_lt (Nat.lt_of_lt_of_le A_qa.lt (Nat.le_of_eq g_a5))
 have nw_a5 : h0.size ≤ a5 := Nat.le_trans K.1 (Nat.le_of_eq g_a5)
 replace L_op := L_op.ext E4
 replace L_op0 := L_op0.ext E4
 replace A_qa := A_qa.ext E4
 replace A_bl := A_bl.ext E4
 replace K := K.ext E4
 refine o_astoreN (pc' := 6) w2 o_d9_5 rfl (Ls' := #[.val (.int (2 : Int32)), .val (.int (4 : Int32)), .val (.ref op), .val (.ref a5), .unset, .unset, .unset]) rfl rfl ?_
 refine o_iconst (pc' := 7) w2 o_d9_6 (x := (0 : Int32)) rfl rfl ?_
 refine o_istore (pc' := 9) w2 o_d9_7 (Ls' := #[.val (.int (2 : Int32)), .val (.int (4 : Int32)), .val (.ref op), .val (.ref a5), .val (.int (0 : Int32)), .unset, .unset]) rfl rfl ?_
 refine o_iload (pc' := 11) w2 o_d9_9 rfl rfl ?_
 refine o_iloadN (pc' := 12) w2 o_d9_11 rfl rfl ?_
 refine o_icmp (pc' := 15) w2 o_d9_12 rfl (by decide) (pcY := 37) rfl (fun (hb12 : ¬ (0 : Int32) < (4 : Int32)) => absurd hb12 (by decide)) (fun (hb12 : (0 : Int32) < (4 : Int32)) => ?_)
 refine o_aloadN (pc' := 16) w2 o_d9_15 rfl rfl rfl ?_
 refine o_aloadN (pc' := 17) w2 o_d9_16 rfl rfl rfl ?_
 refine o_iload (pc' := 19) w2 o_d9_17 rfl rfl ?_
 refine o_callL (pc' := 24) w2 (x := (⟨"com/example/throng/throng/engine/Groups", "of", "(IILjava/util/function/IntUnaryOperator;ILjava/util/function/IntUnaryOperator;)Lcom/example/throng/throng/engine/Groups;"⟩ : MethodName)) (xi := (⟨"java/util/function/IntUnaryOperator", "applyAsInt", "(I)I"⟩ : MethodName)) (y := (⟨"com/example/throng/throng/engine/Groups", "lambda$of$0", "(Ljava/util/function/IntUnaryOperator;[II)I"⟩ : MethodName)) (pcS := 17) (idxS := 38) (σ := o_sh2) (vals := [(.ref op0), (.ref bl)]) (argsL := [(.int (0 : Int32))]) (argsT := [(.ref op0), (.ref bl), (.int (0 : Int32))]) (rest := [(.ref a5)]) (fcode := o_sh2_fc) (fml := 2) (L0 := #[.val (.ref op), .val (.int (0 : Int32))]) (o_w34 hw) (o_w35 hw) (o_w36 hw) (o_w73 hw) (o_w29 hw) (o_w74 hw) o_sh2_xi o_sh2_y (by decide) L_op o_sh2_fwd o_sh2_f9 o_sh2_f12 (o_ct_lam2 l Z a0 hw EL hE n0 [] h3 (o_old w2) op0 bl (0 : Int32) qa kq vq kb vb mid0 (Int32.ofNat u0.val) L_op0 A_qa A_bl (by decide) (mm0.1) (mm0.2.1) (mm0.2.2)) (fun _ _ _ q_ => ⟨_, q_.2.2⟩) rfl rfl o_pd0 rfl o_pd6 rfl o_d9_19 rfl (fun _ => rfl) rfl (fun cK cell U ck blx target hx hmd hc1 hc2 hc3 hO hU hck hh hW kk => (XS.aloadN hU hx rfl (hb hck o_sh2_f0) rfl rfl (LamKit.getCap hx hU hW hmd o_sh2_cap0 hO (by rw [hh]; exact hc1) hc2 (v := (.ref op0)) (by rw [hc3]; rfl) rfl rfl (hb hck o_sh2_f1) (XS.aloadN hU hx rfl (hb hck o_sh2_f4) rfl rfl (LamKit.getCap hx hU hW hmd o_sh2_cap1 hO (by rw [hh]; exact hc1) hc2 (v := (.ref bl)) (by rw [hc3]; rfl) rfl rfl (hb hck o_sh2_f5) (XS.iloadN hU hx rfl (hb hck o_sh2_f8) rfl kk)))))) (o_w25 hw) (by decide) (W := 1) rfl (by decide) (by decide) (by decide) fun T6 h8 v9 ms10 w7 q11 => ?_
 obtain ⟨rfl, rfl, rfl⟩ := q11
 show o_Go Z EL n0 p e below s _ _ _ (T6.setTop (mkF m 24 _ [(.int (Int32.ofNat u0.val)), (.ref a5)]))
 refine o_iconst (pc' := 25) w7 o_d9_24 (x := (1 : Int32)) rfl rfl ?_
 refine o_iadd (pc' := 26) w7 o_d9_25 (z := ((Int32.ofNat u0.val) + (1 : Int32))) rfl rfl ?_
 refine o_dup2 (pc' := 27) w7 o_d9_26 rfl rfl rfl ?_
 refine o_ldI (pc' := 28) w7 (v := (.int (List.getD (o_cnt 2 []) (u0.val + 1) 0))) A_a5 (o_jb2 u0).1 (o_ivg (o_jb2 u0).2.1) o_d9_27 rfl ?_
 refine o_iconst (pc' := 29) w7 o_d9_28 (x := (1 : Int32)) rfl rfl ?_
 refine o_iadd (pc' := 30) w7 o_d9_29 (z := ((List.getD (o_cnt 2 []) (u0.val + 1) 0) + (1 : Int32))) rfl rfl ?_
 refine o_stI (pc' := 31) w7 (i := (u0.val + 1)) (xv := (.int ((List.getD (o_cnt 2 []) (u0.val + 1) 0) + (1 : Int32)))) (vs' := (o_iv (o_cnt 2 [u0.val]))) (by simp) A_a5 (o_jb2 u0).1 (o_jb2 u0).2.1 (by have := u0.isLt; rw [o_ivl, o_cntl]; omega) rfl rfl (o_ivs _ _ _) o_d9_30 rfl fun T12 h14 w13 W15 A_new => ?_
 clear A_a5
 replace L_op := L_op.other W15 ne_op_a5
 replace L_op0 := L_op0.other W15 ne_op0_a5
 replace A_qa := A_qa.other W15 ne_qa_a5
 replace A_bl := A_bl.other W15 ne_bl_a5
 replace K := K.wr W15 (Or.inr nw_a5)
 have A_a5 := A_new
 clear A_new
 refine o_iinc (pc' := 34) w13 o_d9_31 rfl (y := (1 : Int32)) (by decide) (Ls' := #[.val (.int (2 : Int32)), .val (.int (4 : Int32)), .val (.ref op), .val (.ref a5), .val (.int (1 : Int32)), .unset, .unset]) rfl rfl ?_
 refine o_goto w13 o_d9_34 (by decide) (pc' := 9) rfl ?_
 refine o_iload (pc' := 11) w13 o_d9_9 rfl rfl ?_
 refine o_iloadN (pc' := 12) w13 o_d9_11 rfl rfl ?_
 refine o_icmp (pc' := 15) w13 o_d9_12 rfl (by decide) (pcY := 37) rfl (fun (hb12_1 : ¬ (1 : Int32) < (4 : Int32)) => absurd hb12_1 (by decide)) (fun (hb12_1 : (1 : Int32) < (4 : Int32)) => ?_)
 refine o_aloadN (pc' := 16) w13 o_d9_15 rfl rfl rfl ?_
 refine o_aloadN (pc' := 17) w13 o_d9_16 rfl rfl rfl ?_
 refine o_iload (pc' := 19) w13 o_d9_17 rfl rfl ?_
 refine o_callL (pc' := 24) w13 (x := (⟨"com/example/throng/throng/engine/Groups", "of", "(IILjava/util/function/IntUnaryOperator;ILjava/util/function/IntUnaryOperator;)Lcom/example/throng/throng/engine/Groups;"⟩ : MethodName)) (xi := (⟨"java/util/function/IntUnaryOperator", "applyAsInt", "(I)I"⟩ : MethodName)) (y := (⟨"com/example/throng/throng/engine/Groups", "lambda$of$0", "(Ljava/util/function/IntUnaryOperator;[II)I"⟩ : MethodName)) (pcS := 17) (idxS := 38) (σ := o_sh2) (vals := [(.ref op0), (.ref bl)]) (argsL := [(.int (1 : Int32))]) (argsT := [(.ref op0), (.ref bl), (.int (1 : Int32))]) (rest := [(.ref a5)]) (fcode := o_sh2_fc) (fml := 2) (L0 := #[.val (.ref op), .val (.int (1 : Int32))]) (o_w34 hw) (o_w35 hw) (o_w36 hw) (o_w73 hw) (o_w29 hw) (o_w74 hw) o_sh2_xi o_sh2_y (by decide) L_op o_sh2_fwd o_sh2_f9 o_sh2_f12 (o_ct_lam2 l Z a0 hw EL hE n0 [] h14 (o_old w13) op0 bl (1 : Int32) qa kq vq kb vb mid1 (Int32.ofNat u1.val) L_op0 A_qa A_bl (by decide) (mm1.1) (mm1.2.1) (mm1.2.2)) (fun _ _ _ q_ => ⟨_, q_.2.2⟩) rfl rfl o_pd0 rfl o_pd6 rfl o_d9_19 rfl (fun _ => rfl) rfl (fun cK cell U ck blx target hx hmd hc1 hc2 hc3 hO hU hck hh hW kk => (XS.aloadN hU hx rfl (hb hck o_sh2_f0) rfl rfl (LamKit.getCap hx hU hW hmd o_sh2_cap0 hO (by rw [hh]; exact hc1) hc2 (v := (.ref op0)) (by rw [hc3]; rfl) rfl rfl (hb hck o_sh2_f1) (XS.aloadN hU hx rfl (hb hck o_sh2_f4) rfl rfl (LamKit.getCap hx hU hW hmd o_sh2_cap1 hO (by rw [hh]; exact hc1) hc2 (v := (.ref bl)) (by rw [hc3]; rfl) rfl rfl (hb hck o_sh2_f5) (XS.iloadN hU hx rfl (hb hck o_sh2_f8) rfl kk)))))) (o_w25 hw) (by decide) (W := 1) rfl (by decide) (by decide) (by decide) fun T16 h18 v19 ms20 w17 q21 => ?_
 obtain ⟨rfl, rfl, rfl⟩ := q21
 show o_Go Z EL n0 p e below s _ _ _ (T16.setTop (mkF m 24 _ [(.int (Int32.ofNat u1.val)), (.ref a5)]))
 refine o_iconst (pc' := 25) w17 o_d9_24 (x := (1 : Int32)) rfl rfl ?_
 refine o_iadd (pc' := 26) w17 o_d9_25 (z := ((Int32.ofNat u1.val) + (1 : Int32))) rfl rfl ?_
 refine o_dup2 (pc' := 27) w17 o_d9_26 rfl rfl rfl ?_
 refine o_ldI (pc' := 28) w17 (v := (.int (List.getD (o_cnt 2 [u0.val]) (u1.val + 1) 0))) A_a5 (o_jb2 u1).1 (o_ivg (o_jb2 u1).2.1) o_d9_27 rfl ?_
 refine o_iconst (pc' := 29) w17 o_d9_28 (x := (1 : Int32)) rfl rfl ?_
 refine o_iadd (pc' := 30) w17 o_d9_29 (z := ((List.getD (o_cnt 2 [u0.val]) (u1.val + 1) 0) + (1 : Int32))) rfl rfl ?_
 refine o_stI (pc' := 31) w17 (i := (u1.val + 1)) (xv := (.int ((List.getD (o_cnt 2 [u0.val]) (u1.val + 1) 0) + (1 : Int32)))) (vs' := (o_iv (o_cnt 2 [u0.val, u1.val]))) (by simp) A_a5 (o_jb2 u1).1 (o_jb2 u1).2.1 (by have := u1.isLt; rw [o_ivl, o_cntl]; omega) rfl rfl (o_ivs _ _ _) o_d9_30 rfl fun T22 h24 w23 W25 A_new => ?_
 clear A_a5
 replace L_op := L_op.other W25 ne_op_a5
 replace L_op0 := L_op0.other W25 ne_op0_a5
 replace A_qa := A_qa.other W25 ne_qa_a5
 replace A_bl := A_bl.other W25 ne_bl_a5
 replace K := K.wr W25 (Or.inr nw_a5)
 have A_a5 := A_new
 clear A_new
 refine o_iinc (pc' := 34) w23 o_d9_31 rfl (y := (2 : Int32)) (by decide) (Ls' := #[.val (.int (2 : Int32)), .val (.int (4 : Int32)), .val (.ref op), .val (.ref a5), .val (.int (2 : Int32)), .unset, .unset]) rfl rfl ?_
 refine o_goto w23 o_d9_34 (by decide) (pc' := 9) rfl ?_
 refine o_iload (pc' := 11) w23 o_d9_9 rfl rfl ?_
 refine o_iloadN (pc' := 12) w23 o_d9_11 rfl rfl ?_
 refine o_icmp (pc' := 15) w23 o_d9_12 rfl (by decide) (pcY := 37) rfl (fun (hb12_2 : ¬ (2 : Int32) < (4 : Int32)) => absurd hb12_2 (by decide)) (fun (hb12_2 : (2 : Int32) < (4 : Int32)) => ?_)
 refine o_aloadN (pc' := 16) w23 o_d9_15 rfl rfl rfl ?_
 refine o_aloadN (pc' := 17) w23 o_d9_16 rfl rfl rfl ?_
 refine o_iload (pc' := 19) w23 o_d9_17 rfl rfl ?_
 refine o_callL (pc' := 24) w23 (x := (⟨"com/example/throng/throng/engine/Groups", "of", "(IILjava/util/function/IntUnaryOperator;ILjava/util/function/IntUnaryOperator;)Lcom/example/throng/throng/engine/Groups;"⟩ : MethodName)) (xi := (⟨"java/util/function/IntUnaryOperator", "applyAsInt", "(I)I"⟩ : MethodName)) (y := (⟨"com/example/throng/throng/engine/Groups", "lambda$of$0", "(Ljava/util/function/IntUnaryOperator;[II)I"⟩ : MethodName)) (pcS := 17) (idxS := 38) (σ := o_sh2) (vals := [(.ref op0), (.ref bl)]) (argsL := [(.int (2 : Int32))]) (argsT := [(.ref op0), (.ref bl), (.int (2 : Int32))]) (rest := [(.ref a5)]) (fcode := o_sh2_fc) (fml := 2) (L0 := #[.val (.ref op), .val (.int (2 : Int32))]) (o_w34 hw) (o_w35 hw) (o_w36 hw) (o_w73 hw) (o_w29 hw) (o_w74 hw) o_sh2_xi o_sh2_y (by decide) L_op o_sh2_fwd o_sh2_f9 o_sh2_f12 (o_ct_lam2 l Z a0 hw EL hE n0 [] h24 (o_old w23) op0 bl (2 : Int32) qa kq vq kb vb mid2 (Int32.ofNat u2.val) L_op0 A_qa A_bl (by decide) (mm2.1) (mm2.2.1) (mm2.2.2)) (fun _ _ _ q_ => ⟨_, q_.2.2⟩) rfl rfl o_pd0 rfl o_pd6 rfl o_d9_19 rfl (fun _ => rfl) rfl (fun cK cell U ck blx target hx hmd hc1 hc2 hc3 hO hU hck hh hW kk => (XS.aloadN hU hx rfl (hb hck o_sh2_f0) rfl rfl (LamKit.getCap hx hU hW hmd o_sh2_cap0 hO (by rw [hh]; exact hc1) hc2 (v := (.ref op0)) (by rw [hc3]; rfl) rfl rfl (hb hck o_sh2_f1) (XS.aloadN hU hx rfl (hb hck o_sh2_f4) rfl rfl (LamKit.getCap hx hU hW hmd o_sh2_cap1 hO (by rw [hh]; exact hc1) hc2 (v := (.ref bl)) (by rw [hc3]; rfl) rfl rfl (hb hck o_sh2_f5) (XS.iloadN hU hx rfl (hb hck o_sh2_f8) rfl kk)))))) (o_w25 hw) (by decide) (W := 1) rfl (by decide) (by decide) (by decide) fun T26 h28 v29 ms30 w27 q31 => ?_
 obtain ⟨rfl, rfl, rfl⟩ := q31
 show o_Go Z EL n0 p e below s _ _ _ (T26.setTop (mkF m 24 _ [(.int (Int32.ofNat u2.val)), (.ref a5)]))
 refine o_iconst (pc' := 25) w27 o_d9_24 (x := (1 : Int32)) rfl rfl ?_
 refine o_iadd (pc' := 26) w27 o_d9_25 (z := ((Int32.ofNat u2.val) + (1 : Int32))) rfl rfl ?_
 refine o_dup2 (pc' := 27) w27 o_d9_26 rfl rfl rfl ?_
 refine o_ldI (pc' := 28) w27 (v := (.int (List.getD (o_cnt 2 [u0.val, u1.val]) (u2.val + 1) 0))) A_a5 (o_jb2 u2).1 (o_ivg (o_jb2 u2).2.1) o_d9_27 rfl ?_
 refine o_iconst (pc' := 29) w27 o_d9_28 (x := (1 : Int32)) rfl rfl ?_
 refine o_iadd (pc' := 30) w27 o_d9_29 (z := ((List.getD (o_cnt 2 [u0.val, u1.val]) (u2.val + 1) 0) + (1 : Int32))) rfl rfl ?_
 refine o_stI (pc' := 31) w27 (i := (u2.val + 1)) (xv := (.int ((List.getD (o_cnt 2 [u0.val, u1.val]) (u2.val + 1) 0) + (1 : Int32)))) (vs' := (o_iv (o_cnt 2 [u0.val, u1.val, u2.val]))) (by simp) A_a5 (o_jb2 u2).1 (o_jb2 u2).2.1 (by have := u2.isLt; rw [o_ivl, o_cntl]; omega) rfl rfl (o_ivs _ _ _) o_d9_30 rfl fun T32 h34 w33 W35 A_new => ?_
 clear A_a5
 replace L_op := L_op.other W35 ne_op_a5
 replace L_op0 := L_op0.other W35 ne_op0_a5
 replace A_qa := A_qa.other W35 ne_qa_a5
 replace A_bl := A_bl.other W35 ne_bl_a5
 replace K := K.wr W35 (Or.inr nw_a5)
 have A_a5 := A_new
 clear A_new
 refine o_iinc (pc' := 34) w33 o_d9_31 rfl (y := (3 : Int32)) (by decide) (Ls' := #[.val (.int (2 : Int32)), .val (.int (4 : Int32)), .val (.ref op), .val (.ref a5), .val (.int (3 : Int32)), .unset, .unset]) rfl rfl ?_
 refine o_goto w33 o_d9_34 (by decide) (pc' := 9) rfl ?_
 refine o_iload (pc' := 11) w33 o_d9_9 rfl rfl ?_
 refine o_iloadN (pc' := 12) w33 o_d9_11 rfl rfl ?_
 refine o_icmp (pc' := 15) w33 o_d9_12 rfl (by decide) (pcY := 37) rfl (fun (hb12_3 : ¬ (3 : Int32) < (4 : Int32)) => absurd hb12_3 (by decide)) (fun (hb12_3 : (3 : Int32) < (4 : Int32)) => ?_)
 refine o_aloadN (pc' := 16) w33 o_d9_15 rfl rfl rfl ?_
 refine o_aloadN (pc' := 17) w33 o_d9_16 rfl rfl rfl ?_
 refine o_iload (pc' := 19) w33 o_d9_17 rfl rfl ?_
 refine o_callL (pc' := 24) w33 (x := (⟨"com/example/throng/throng/engine/Groups", "of", "(IILjava/util/function/IntUnaryOperator;ILjava/util/function/IntUnaryOperator;)Lcom/example/throng/throng/engine/Groups;"⟩ : MethodName)) (xi := (⟨"java/util/function/IntUnaryOperator", "applyAsInt", "(I)I"⟩ : MethodName)) (y := (⟨"com/example/throng/throng/engine/Groups", "lambda$of$0", "(Ljava/util/function/IntUnaryOperator;[II)I"⟩ : MethodName)) (pcS := 17) (idxS := 38) (σ := o_sh2) (vals := [(.ref op0), (.ref bl)]) (argsL := [(.int (3 : Int32))]) (argsT := [(.ref op0), (.ref bl), (.int (3 : Int32))]) (rest := [(.ref a5)]) (fcode := o_sh2_fc) (fml := 2) (L0 := #[.val (.ref op), .val (.int (3 : Int32))]) (o_w34 hw) (o_w35 hw) (o_w36 hw) (o_w73 hw) (o_w29 hw) (o_w74 hw) o_sh2_xi o_sh2_y (by decide) L_op o_sh2_fwd o_sh2_f9 o_sh2_f12 (o_ct_lam2 l Z a0 hw EL hE n0 [] h34 (o_old w33) op0 bl (3 : Int32) qa kq vq kb vb mid3 (Int32.ofNat u3.val) L_op0 A_qa A_bl (by decide) (mm3.1) (mm3.2.1) (mm3.2.2)) (fun _ _ _ q_ => ⟨_, q_.2.2⟩) rfl rfl o_pd0 rfl o_pd6 rfl o_d9_19 rfl (fun _ => rfl) rfl (fun cK cell U ck blx target hx hmd hc1 hc2 hc3 hO hU hck hh hW kk => (XS.aloadN hU hx rfl (hb hck o_sh2_f0) rfl rfl (LamKit.getCap hx hU hW hmd o_sh2_cap0 hO (by rw [hh]; exact hc1) hc2 (v := (.ref op0)) (by rw [hc3]; rfl) rfl rfl (hb hck o_sh2_f1) (XS.aloadN hU hx rfl (hb hck o_sh2_f4) rfl rfl (LamKit.getCap hx hU hW hmd o_sh2_cap1 hO (by rw [hh]; exact hc1) hc2 (v := (.ref bl)) (by rw [hc3]; rfl) rfl rfl (hb hck o_sh2_f5) (XS.iloadN hU hx rfl (hb hck o_sh2_f8) rfl kk)))))) (o_w25 hw) (by decide) (W := 1) rfl (by decide) (by decide) (by decide) fun T36 h38 v39 ms40 w37 q41 => ?_
 obtain ⟨rfl, rfl, rfl⟩ := q41
 show o_Go Z EL n0 p e below s _ _ _ (T36.setTop (mkF m 24 _ [(.int (Int32.ofNat u3.val)), (.ref a5)]))
 refine o_iconst (pc' := 25) w37 o_d9_24 (x := (1 : Int32)) rfl rfl ?_
 refine o_iadd (pc' := 26) w37 o_d9_25 (z := ((Int32.ofNat u3.val) + (1 : Int32))) rfl rfl ?_
 refine o_dup2 (pc' := 27) w37 o_d9_26 rfl rfl rfl ?_
 refine o_ldI (pc' := 28) w37 (v := (.int (List.getD (o_cnt 2 [u0.val, u1.val, u2.val]) (u3.val + 1) 0))) A_a5 (o_jb2 u3).1 (o_ivg (o_jb2 u3).2.1) o_d9_27 rfl ?_
 refine o_iconst (pc' := 29) w37 o_d9_28 (x := (1 : Int32)) rfl rfl ?_
 refine o_iadd (pc' := 30) w37 o_d9_29 (z := ((List.getD (o_cnt 2 [u0.val, u1.val, u2.val]) (u3.val + 1) 0) + (1 : Int32))) rfl rfl ?_
 refine o_stI (pc' := 31) w37 (i := (u3.val + 1)) (xv := (.int ((List.getD (o_cnt 2 [u0.val, u1.val, u2.val]) (u3.val + 1) 0) + (1 : Int32)))) (vs' := (o_iv (o_cnt 2 [u0.val, u1.val, u2.val, u3.val]))) (by simp) A_a5 (o_jb2 u3).1 (o_jb2 u3).2.1 (by have := u3.isLt; rw [o_ivl, o_cntl]; omega) rfl rfl (o_ivs _ _ _) o_d9_30 rfl fun T42 h44 w43 W45 A_new => ?_
 clear A_a5
 replace L_op := L_op.other W45 ne_op_a5
 replace L_op0 := L_op0.other W45 ne_op0_a5
 replace A_qa := A_qa.other W45 ne_qa_a5
 replace A_bl := A_bl.other W45 ne_bl_a5
 replace K := K.wr W45 (Or.inr nw_a5)
 have A_a5 := A_new
 clear A_new
 refine o_iinc (pc' := 34) w43 o_d9_31 rfl (y := (4 : Int32)) (by decide) (Ls' := #[.val (.int (2 : Int32)), .val (.int (4 : Int32)), .val (.ref op), .val (.ref a5), .val (.int (4 : Int32)), .unset, .unset]) rfl rfl ?_
 refine o_goto w43 o_d9_34 (by decide) (pc' := 9) rfl ?_
 refine o_iload (pc' := 11) w43 o_d9_9 rfl rfl ?_
 refine o_iloadN (pc' := 12) w43 o_d9_11 rfl rfl ?_
 refine o_icmp (pc' := 15) w43 o_d9_12 rfl (by decide) (pcY := 37) rfl (fun (hb12_4 : ¬ (4 : Int32) < (4 : Int32)) => ?_) (fun (hb12_4 : (4 : Int32) < (4 : Int32)) => absurd hb12_4 (by decide))
 refine o_iconst (pc' := 38) w43 o_d9_37 (x := (0 : Int32)) rfl rfl ?_
 refine o_istore (pc' := 40) w43 o_d9_38 (Ls' := #[.val (.int (2 : Int32)), .val (.int (4 : Int32)), .val (.ref op), .val (.ref a5), .val (.int (0 : Int32)), .unset, .unset]) rfl rfl ?_
 refine o_iload (pc' := 42) w43 o_d9_40 rfl rfl ?_
 refine o_iloadN (pc' := 43) w43 o_d9_42 rfl rfl ?_
 refine o_icmp (pc' := 46) w43 o_d9_43 rfl (by decide) (pcY := 65) rfl (fun (hb43 : ¬ (0 : Int32) < (2 : Int32)) => absurd hb43 (by decide)) (fun (hb43 : (0 : Int32) < (2 : Int32)) => ?_)
 refine o_aloadN (pc' := 47) w43 o_d9_46 rfl rfl rfl ?_
 refine o_iload (pc' := 49) w43 o_d9_47 rfl rfl ?_
 refine o_iconst (pc' := 50) w43 o_d9_49 (x := (1 : Int32)) rfl rfl ?_
 refine o_iadd (pc' := 51) w43 o_d9_50 (z := (1 : Int32)) (by decide) rfl ?_
 refine o_dup2 (pc' := 52) w43 o_d9_51 rfl rfl rfl ?_
 refine o_ldI (pc' := 53) w43 (v := (.int (List.getD (o_pf (o_cnt 2 [u0.val, u1.val, u2.val, u3.val]) 0) 1 0))) A_a5 (by decide) (o_ivg rfl) o_d9_52 rfl ?_
 refine o_aloadN (pc' := 54) w43 o_d9_53 rfl rfl rfl ?_
 refine o_iload (pc' := 56) w43 o_d9_54 rfl rfl ?_
 refine o_ldI (pc' := 57) w43 (v := (.int (List.getD (o_pf (o_cnt 2 [u0.val, u1.val, u2.val, u3.val]) 0) 0 0))) A_a5 (by decide) (o_ivg rfl) o_d9_56 rfl ?_
 refine o_iadd (pc' := 58) w43 o_d9_57 (z := ((List.getD (o_pf (o_cnt 2 [u0.val, u1.val, u2.val, u3.val]) 0) 1 0) + (List.getD (o_pf (o_cnt 2 [u0.val, u1.val, u2.val, u3.val]) 0) 0 0))) rfl rfl ?_
 refine o_stI (pc' := 59) w43 (i := 1) (xv := (.int ((List.getD (o_pf (o_cnt 2 [u0.val, u1.val, u2.val, u3.val]) 0) 1 0) + (List.getD (o_pf (o_cnt 2 [u0.val, u1.val, u2.val, u3.val]) 0) 0 0)))) (vs' := (o_iv (o_pf (o_cnt 2 [u0.val, u1.val, u2.val, u3.val]) 1))) (by simp) A_a5 (by decide) rfl (by rw [o_ivl, o_cntl]; decide) rfl rfl (o_ivs _ _ _) o_d9_58 rfl fun T46 h48 w47 W49 A_new => ?_
 clear A_a5
 replace L_op := L_op.other W49 ne_op_a5
 replace L_op0 := L_op0.other W49 ne_op0_a5
 replace A_qa := A_qa.other W49 ne_qa_a5
 replace A_bl := A_bl.other W49 ne_bl_a5
 replace K := K.wr W49 (Or.inr nw_a5)
 have A_a5 := A_new
 clear A_new
 refine o_iinc (pc' := 62) w47 o_d9_59 rfl (y := (1 : Int32)) (by decide) (Ls' := #[.val (.int (2 : Int32)), .val (.int (4 : Int32)), .val (.ref op), .val (.ref a5), .val (.int (1 : Int32)), .unset, .unset]) rfl rfl ?_
 refine o_goto w47 o_d9_62 (by decide) (pc' := 40) rfl ?_
 refine o_iload (pc' := 42) w47 o_d9_40 rfl rfl ?_
 refine o_iloadN (pc' := 43) w47 o_d9_42 rfl rfl ?_
 refine o_icmp (pc' := 46) w47 o_d9_43 rfl (by decide) (pcY := 65) rfl (fun (hb43_1 : ¬ (1 : Int32) < (2 : Int32)) => absurd hb43_1 (by decide)) (fun (hb43_1 : (1 : Int32) < (2 : Int32)) => ?_)
 refine o_aloadN (pc' := 47) w47 o_d9_46 rfl rfl rfl ?_
 refine o_iload (pc' := 49) w47 o_d9_47 rfl rfl ?_
 refine o_iconst (pc' := 50) w47 o_d9_49 (x := (1 : Int32)) rfl rfl ?_
 refine o_iadd (pc' := 51) w47 o_d9_50 (z := (2 : Int32)) (by decide) rfl ?_
 refine o_dup2 (pc' := 52) w47 o_d9_51 rfl rfl rfl ?_
 refine o_ldI (pc' := 53) w47 (v := (.int (List.getD (o_pf (o_cnt 2 [u0.val, u1.val, u2.val, u3.val]) 1) 2 0))) A_a5 (by decide) (o_ivg rfl) o_d9_52 rfl ?_
 refine o_aloadN (pc' := 54) w47 o_d9_53 rfl rfl rfl ?_
 refine o_iload (pc' := 56) w47 o_d9_54 rfl rfl ?_
 refine o_ldI (pc' := 57) w47 (v := (.int (List.getD (o_pf (o_cnt 2 [u0.val, u1.val, u2.val, u3.val]) 1) 1 0))) A_a5 (by decide) (o_ivg rfl) o_d9_56 rfl ?_
 refine o_iadd (pc' := 58) w47 o_d9_57 (z := ((List.getD (o_pf (o_cnt 2 [u0.val, u1.val, u2.val, u3.val]) 1) 2 0) + (List.getD (o_pf (o_cnt 2 [u0.val, u1.val, u2.val, u3.val]) 1) 1 0))) rfl rfl ?_
 refine o_stI (pc' := 59) w47 (i := 2) (xv := (.int ((List.getD (o_pf (o_cnt 2 [u0.val, u1.val, u2.val, u3.val]) 1) 2 0) + (List.getD (o_pf (o_cnt 2 [u0.val, u1.val, u2.val, u3.val]) 1) 1 0)))) (vs' := (o_iv (o_pf (o_cnt 2 [u0.val, u1.val, u2.val, u3.val]) 2))) (by simp) A_a5 (by decide) rfl (by rw [o_ivl, o_pfl, o_cntl]; decide) rfl rfl (o_ivs _ _ _) o_d9_58 rfl fun T50 h52 w51 W53 A_new => ?_
 clear A_a5
 replace L_op := L_op.other W53 ne_op_a5
 replace L_op0 := L_op0.other W53 ne_op0_a5
 replace A_qa := A_qa.other W53 ne_qa_a5
 replace A_bl := A_bl.other W53 ne_bl_a5
 replace K := K.wr W53 (Or.inr nw_a5)
 have A_a5 := A_new
 clear A_new
 refine o_iinc (pc' := 62) w51 o_d9_59 rfl (y := (2 : Int32)) (by decide) (Ls' := #[.val (.int (2 : Int32)), .val (.int (4 : Int32)), .val (.ref op), .val (.ref a5), .val (.int (2 : Int32)), .unset, .unset]) rfl rfl ?_
 refine o_goto w51 o_d9_62 (by decide) (pc' := 40) rfl ?_
 refine o_iload (pc' := 42) w51 o_d9_40 rfl rfl ?_
 refine o_iloadN (pc' := 43) w51 o_d9_42 rfl rfl ?_
 refine o_icmp (pc' := 46) w51 o_d9_43 rfl (by decide) (pcY := 65) rfl (fun (hb43_2 : ¬ (2 : Int32) < (2 : Int32)) => ?_) (fun (hb43_2 : (2 : Int32) < (2 : Int32)) => absurd hb43_2 (by decide))
 refine o_iloadN (pc' := 66) w51 o_d9_65 rfl rfl ?_
 refine o_newP (pc' := 68) w51 (aty := .int) (z := (4 : Int32)) (vs := (o_iv (List.replicate 4 0))) (dv := (.int 0)) (cap := 4) (o_w0 hw) o_d9_66 rfl (by decide) (by decide) (by decide) rfl (o_ivr 4) (by decide) (by decide) fun T54 h56 a58 g_a58 w55 E57 ⟨k_a58, A_a58⟩ => ?_
 have ne_a5_a58 : a5 ≠ a58 := Nat.ne_of_lt (Nat.lt_of_lt_of_le A_a5.lt (Nat.le_of_eq g_a58))
 have ne_bl_a58 : bl ≠ a58 := Nat.ne_of_lt (Nat.lt_of_lt_of_le A_bl.lt (Nat.le_of_eq g_a58))
 have ne_op_a58 : op ≠ a58 := Nat.ne_of_lt (Nat.lt_of_lt_of_le L_op.lt (Nat.le_of_eq g_a58))
 have ne_op0_a58 : op0 ≠ a58 := Nat.ne_of_lt (Nat.lt_of_lt_of_le L_op0.lt (Nat.le_of_eq g_a58))
 have ne_qa_a58 : qa ≠ a58 := Nat.ne_of_lt (Nat.lt_of_lt_of_le A_qa.lt (Nat.le_of_eq g_a58))
 have nw_a58 : h0.size ≤ a58 := Nat.le_trans K.1 (Nat.le_of_eq g_a58)
 replace L_op := L_op.ext E57
 replace L_op0 := L_op0.ext E57
 replace A_qa := A_qa.ext E57
 replace A_bl := A_bl.ext E57
 replace A_a5 := A_a5.ext E57
 replace K := K.ext E57
 refine o_astore (pc' := 70) w55 o_d9_68 rfl (Ls' := #[.val (.int (2 : Int32)), .val (.int (4 : Int32)), .val (.ref op), .val (.ref a5), .val (.ref a58), .unset, .unset]) rfl rfl ?_
 refine o_aloadN (pc' := 71) w55 o_d9_70 rfl rfl rfl ?_
 refine o_iloadN (pc' := 72) w55 o_d9_71 rfl rfl ?_
 refine o_callS (pc' := 75) w55 (o_w39 hw) (o_w40 hw) (o_w41 hw) (o_w42 hw) (by decide) (o_ct_cpy2 l Z a0 hw EL hE n0 [] h56 (o_old w55) a5 k_a5 (o_pf (o_cnt 2 [u0.val, u1.val, u2.val, u3.val]) 2) A_a5) all0 (argsL := [(.ref a5), (.int (2 : Int32))]) (rest := []) rfl rfl o_pd4 rfl o_d9_72 rfl (by decide) (W := 0) rfl (by decide) (by decide) (by decide) fun T59 h61 v62 ms63 w60 q64 => ?_
 obtain ⟨K67, r_65, kR_66, rfl, rfl, nw_A_r_65, p72_cpy2_0⟩ := q64
 have ne_a5_r_65 : a5 ≠ r_65 := Nat.ne_of_lt (Nat.lt_of_lt_of_le A_a5.lt p72_cpy2_0)
 have ne_a58_r_65 : a58 ≠ r_65 := Nat.ne_of_lt (Nat.lt_of_lt_of_le A_a58.lt p72_cpy2_0)
 have ne_bl_r_65 : bl ≠ r_65 := Nat.ne_of_lt (Nat.lt_of_lt_of_le A_bl.lt p72_cpy2_0)
 have ne_op_r_65 : op ≠ r_65 := Nat.ne_of_lt (Nat.lt_of_lt_of_le L_op.lt p72_cpy2_0)
 have ne_op0_r_65 : op0 ≠ r_65 := Nat.ne_of_lt (Nat.lt_of_lt_of_le L_op0.lt p72_cpy2_0)
 have ne_qa_r_65 : qa ≠ r_65 := Nat.ne_of_lt (Nat.lt_of_lt_of_le A_qa.lt p72_cpy2_0)
 have nw_r_65 : h0.size ≤ r_65 := Nat.le_trans K.1 p72_cpy2_0
 replace L_op := L_op.keep K67 nin0
 replace L_op0 := L_op0.keep K67 nin0
 replace A_qa := A_qa.keep K67 nin0
 replace A_bl := A_bl.keep K67 nin0
 replace A_a5 := A_a5.keep K67 nin0
 replace A_a58 := A_a58.keep K67 nin0
 replace K := K.trans K67 all0
 have A_r_65 := nw_A_r_65; clear nw_A_r_65
 show o_Go Z EL n0 p e below s _ _ _ (T59.setTop (mkF m 75 _ [(.ref r_65)]))
 refine o_astore (pc' := 77) w60 o_d9_75 rfl (Ls' := #[.val (.int (2 : Int32)), .val (.int (4 : Int32)), .val (.ref op), .val (.ref a5), .val (.ref a58), .val (.ref r_65), .unset]) rfl rfl ?_
 refine o_iconst (pc' := 78) w60 o_d9_77 (x := (0 : Int32)) rfl rfl ?_
 refine o_istore (pc' := 80) w60 o_d9_78 (Ls' := #[.val (.int (2 : Int32)), .val (.int (4 : Int32)), .val (.ref op), .val (.ref a5), .val (.ref a58), .val (.ref r_65), .val (.int (0 : Int32))]) rfl rfl ?_
 refine o_iload (pc' := 82) w60 o_d9_80 rfl rfl ?_
 refine o_iloadN (pc' := 83) w60 o_d9_82 rfl rfl ?_
 refine o_icmp (pc' := 86) w60 o_d9_83 rfl (by decide) (pcY := 113) rfl (fun (hb83 : ¬ (0 : Int32) < (4 : Int32)) => absurd hb83 (by decide)) (fun (hb83 : (0 : Int32) < (4 : Int32)) => ?_)
 refine o_aload (pc' := 88) w60 o_d9_86 rfl rfl rfl ?_
 refine o_aload (pc' := 90) w60 o_d9_88 rfl rfl rfl ?_
 refine o_aloadN (pc' := 91) w60 o_d9_90 rfl rfl rfl ?_
 refine o_iload (pc' := 93) w60 o_d9_91 rfl rfl ?_
 refine o_callL (pc' := 98) w60 (x := (⟨"com/example/throng/throng/engine/Groups", "of", "(IILjava/util/function/IntUnaryOperator;ILjava/util/function/IntUnaryOperator;)Lcom/example/throng/throng/engine/Groups;"⟩ : MethodName)) (xi := (⟨"java/util/function/IntUnaryOperator", "applyAsInt", "(I)I"⟩ : MethodName)) (y := (⟨"com/example/throng/throng/engine/Groups", "lambda$of$0", "(Ljava/util/function/IntUnaryOperator;[II)I"⟩ : MethodName)) (pcS := 17) (idxS := 38) (σ := o_sh2) (vals := [(.ref op0), (.ref bl)]) (argsL := [(.int (0 : Int32))]) (argsT := [(.ref op0), (.ref bl), (.int (0 : Int32))]) (rest := [(.ref r_65), (.ref a58)]) (fcode := o_sh2_fc) (fml := 2) (L0 := #[.val (.ref op), .val (.int (0 : Int32))]) (o_w34 hw) (o_w35 hw) (o_w36 hw) (o_w73 hw) (o_w29 hw) (o_w74 hw) o_sh2_xi o_sh2_y (by decide) L_op o_sh2_fwd o_sh2_f9 o_sh2_f12 (o_ct_lam2 l Z a0 hw EL hE n0 [] h61 (o_old w60) op0 bl (0 : Int32) qa kq vq kb vb mid0 (Int32.ofNat u0.val) L_op0 A_qa A_bl (by decide) (mm0.1) (mm0.2.1) (mm0.2.2)) (fun _ _ _ q_ => ⟨_, q_.2.2⟩) rfl rfl o_pd0 rfl o_pd6 rfl o_d9_93 rfl (fun _ => rfl) rfl (fun cK cell U ck blx target hx hmd hc1 hc2 hc3 hO hU hck hh hW kk => (XS.aloadN hU hx rfl (hb hck o_sh2_f0) rfl rfl (LamKit.getCap hx hU hW hmd o_sh2_cap0 hO (by rw [hh]; exact hc1) hc2 (v := (.ref op0)) (by rw [hc3]; rfl) rfl rfl (hb hck o_sh2_f1) (XS.aloadN hU hx rfl (hb hck o_sh2_f4) rfl rfl (LamKit.getCap hx hU hW hmd o_sh2_cap1 hO (by rw [hh]; exact hc1) hc2 (v := (.ref bl)) (by rw [hc3]; rfl) rfl rfl (hb hck o_sh2_f5) (XS.iloadN hU hx rfl (hb hck o_sh2_f8) rfl kk)))))) (o_w25 hw) (by decide) (W := 2) rfl (by decide) (by decide) (by decide) fun T68 h70 v71 ms72 w69 q73 => ?_
 obtain ⟨rfl, rfl, rfl⟩ := q73
 show o_Go Z EL n0 p e below s _ _ _ (T68.setTop (mkF m 98 _ [(.int (Int32.ofNat u0.val)), (.ref r_65), (.ref a58)]))
 refine o_dup2 (pc' := 99) w69 o_d9_98 rfl rfl rfl ?_
 refine o_ldI (pc' := 100) w69 (v := (.int (List.getD (o_st (o_tk (o_pf (o_cnt 2 [u0.val, u1.val, u2.val, u3.val]) 2) 2) []).1 u0.val 0))) A_r_65 (o_jb2 u0).2.2.1 (o_ivg (o_jb2 u0).2.2.2) o_d9_99 rfl ?_
 refine o_dupX2 (pc' := 101) w69 o_d9_100 rfl rfl rfl rfl ?_
 refine o_iconst (pc' := 102) w69 o_d9_101 (x := (1 : Int32)) rfl rfl ?_
 refine o_iadd (pc' := 103) w69 o_d9_102 (z := ((List.getD (o_st (o_tk (o_pf (o_cnt 2 [u0.val, u1.val, u2.val, u3.val]) 2) 2) []).1 u0.val 0) + (1 : Int32))) rfl rfl ?_
 refine o_stI (pc' := 104) w69 (i := u0.val) (xv := (.int ((List.getD (o_st (o_tk (o_pf (o_cnt 2 [u0.val, u1.val, u2.val, u3.val]) 2) 2) []).1 u0.val 0) + (1 : Int32)))) (vs' := (o_iv (o_st (o_tk (o_pf (o_cnt 2 [u0.val, u1.val, u2.val, u3.val]) 2) 2) [u0.val]).1)) (by simp) A_r_65 (o_jb2 u0).2.2.1 (o_jb2 u0).2.2.2 (by show u0.val < (o_iv (o_st (o_tk (o_pf (o_cnt 2 [u0.val, u1.val, u2.val, u3.val]) 2) 2) []).1).length; rw [o_ivl, (o_stl _ _).1, o_tkl]; exact u0.isLt) rfl rfl (o_ivs _ _ _) o_d9_103 rfl fun T74 h76 w75 W77 A_new => ?_
 clear A_r_65
 replace L_op := L_op.other W77 ne_op_r_65
 replace L_op0 := L_op0.other W77 ne_op0_r_65
 replace A_qa := A_qa.other W77 ne_qa_r_65
 replace A_bl := A_bl.other W77 ne_bl_r_65
 replace A_a5 := A_a5.other W77 ne_a5_r_65
 replace A_a58 := A_a58.other W77 ne_a58_r_65
 replace K := K.wr W77 (Or.inr nw_r_65)
 have A_r_65 := A_new
 clear A_new
 refine o_iload (pc' := 106) w75 o_d9_104 rfl rfl ?_
 refine o_stI (pc' := 107) w75 (i := (List.getD (o_st (o_tk (o_pf (o_cnt 2 [u0.val, u1.val, u2.val, u3.val]) 2) 2) []).1 u0.val 0).toNatClampNeg) (xv := (.int (0 : Int32))) (vs' := (o_iv (o_st (o_tk (o_pf (o_cnt 2 [u0.val, u1.val, u2.val, u3.val]) 2) 2) [u0.val]).2.1)) (by simp) A_a58 (o_zz4 u0 u1 u2 u3) rfl (by show _ < (o_iv (o_st (o_tk (o_pf (o_cnt 2 [u0.val, u1.val, u2.val, u3.val]) 2) 2) []).2.1).length; rw [o_ivl, (o_stl _ _).2]; exact o_pn (o_zz4 u0 u1 u2 u3)) rfl rfl (o_ivs _ _ _) o_d9_106 rfl fun T78 h80 w79 W81 A_new => ?_
 clear A_a58
 replace L_op := L_op.other W81 ne_op_a58
 replace L_op0 := L_op0.other W81 ne_op0_a58
 replace A_qa := A_qa.other W81 ne_qa_a58
 replace A_bl := A_bl.other W81 ne_bl_a58
 replace A_a5 := A_a5.other W81 ne_a5_a58
 replace A_r_65 := A_r_65.other W81 (Ne.symm ne_a58_r_65)
 replace K := K.wr W81 (Or.inr nw_a58)
 have A_a58 := A_new
 clear A_new
 refine o_iinc (pc' := 110) w79 o_d9_107 rfl (y := (1 : Int32)) (by decide) (Ls' := #[.val (.int (2 : Int32)), .val (.int (4 : Int32)), .val (.ref op), .val (.ref a5), .val (.ref a58), .val (.ref r_65), .val (.int (1 : Int32))]) rfl rfl ?_
 refine o_goto w79 o_d9_110 (by decide) (pc' := 80) rfl ?_
 refine o_iload (pc' := 82) w79 o_d9_80 rfl rfl ?_
 refine o_iloadN (pc' := 83) w79 o_d9_82 rfl rfl ?_
 refine o_icmp (pc' := 86) w79 o_d9_83 rfl (by decide) (pcY := 113) rfl (fun (hb83_1 : ¬ (1 : Int32) < (4 : Int32)) => absurd hb83_1 (by decide)) (fun (hb83_1 : (1 : Int32) < (4 : Int32)) => ?_)
 refine o_aload (pc' := 88) w79 o_d9_86 rfl rfl rfl ?_
 refine o_aload (pc' := 90) w79 o_d9_88 rfl rfl rfl ?_
 refine o_aloadN (pc' := 91) w79 o_d9_90 rfl rfl rfl ?_
 refine o_iload (pc' := 93) w79 o_d9_91 rfl rfl ?_
 refine o_callL (pc' := 98) w79 (x := (⟨"com/example/throng/throng/engine/Groups", "of", "(IILjava/util/function/IntUnaryOperator;ILjava/util/function/IntUnaryOperator;)Lcom/example/throng/throng/engine/Groups;"⟩ : MethodName)) (xi := (⟨"java/util/function/IntUnaryOperator", "applyAsInt", "(I)I"⟩ : MethodName)) (y := (⟨"com/example/throng/throng/engine/Groups", "lambda$of$0", "(Ljava/util/function/IntUnaryOperator;[II)I"⟩ : MethodName)) (pcS := 17) (idxS := 38) (σ := o_sh2) (vals := [(.ref op0), (.ref bl)]) (argsL := [(.int (1 : Int32))]) (argsT := [(.ref op0), (.ref bl), (.int (1 : Int32))]) (rest := [(.ref r_65), (.ref a58)]) (fcode := o_sh2_fc) (fml := 2) (L0 := #[.val (.ref op), .val (.int (1 : Int32))]) (o_w34 hw) (o_w35 hw) (o_w36 hw) (o_w73 hw) (o_w29 hw) (o_w74 hw) o_sh2_xi o_sh2_y (by decide) L_op o_sh2_fwd o_sh2_f9 o_sh2_f12 (o_ct_lam2 l Z a0 hw EL hE n0 [] h80 (o_old w79) op0 bl (1 : Int32) qa kq vq kb vb mid1 (Int32.ofNat u1.val) L_op0 A_qa A_bl (by decide) (mm1.1) (mm1.2.1) (mm1.2.2)) (fun _ _ _ q_ => ⟨_, q_.2.2⟩) rfl rfl o_pd0 rfl o_pd6 rfl o_d9_93 rfl (fun _ => rfl) rfl (fun cK cell U ck blx target hx hmd hc1 hc2 hc3 hO hU hck hh hW kk => (XS.aloadN hU hx rfl (hb hck o_sh2_f0) rfl rfl (LamKit.getCap hx hU hW hmd o_sh2_cap0 hO (by rw [hh]; exact hc1) hc2 (v := (.ref op0)) (by rw [hc3]; rfl) rfl rfl (hb hck o_sh2_f1) (XS.aloadN hU hx rfl (hb hck o_sh2_f4) rfl rfl (LamKit.getCap hx hU hW hmd o_sh2_cap1 hO (by rw [hh]; exact hc1) hc2 (v := (.ref bl)) (by rw [hc3]; rfl) rfl rfl (hb hck o_sh2_f5) (XS.iloadN hU hx rfl (hb hck o_sh2_f8) rfl kk)))))) (o_w25 hw) (by decide) (W := 2) rfl (by decide) (by decide) (by decide) fun T82 h84 v85 ms86 w83 q87 => ?_
 obtain ⟨rfl, rfl, rfl⟩ := q87
 show o_Go Z EL n0 p e below s _ _ _ (T82.setTop (mkF m 98 _ [(.int (Int32.ofNat u1.val)), (.ref r_65), (.ref a58)]))
 refine o_dup2 (pc' := 99) w83 o_d9_98 rfl rfl rfl ?_
 refine o_ldI (pc' := 100) w83 (v := (.int (List.getD (o_st (o_tk (o_pf (o_cnt 2 [u0.val, u1.val, u2.val, u3.val]) 2) 2) [u0.val]).1 u1.val 0))) A_r_65 (o_jb2 u1).2.2.1 (o_ivg (o_jb2 u1).2.2.2) o_d9_99 rfl ?_
 refine o_dupX2 (pc' := 101) w83 o_d9_100 rfl rfl rfl rfl ?_
 refine o_iconst (pc' := 102) w83 o_d9_101 (x := (1 : Int32)) rfl rfl ?_
 refine o_iadd (pc' := 103) w83 o_d9_102 (z := ((List.getD (o_st (o_tk (o_pf (o_cnt 2 [u0.val, u1.val, u2.val, u3.val]) 2) 2) [u0.val]).1 u1.val 0) + (1 : Int32))) rfl rfl ?_
 refine o_stI (pc' := 104) w83 (i := u1.val) (xv := (.int ((List.getD (o_st (o_tk (o_pf (o_cnt 2 [u0.val, u1.val, u2.val, u3.val]) 2) 2) [u0.val]).1 u1.val 0) + (1 : Int32)))) (vs' := (o_iv (o_st (o_tk (o_pf (o_cnt 2 [u0.val, u1.val, u2.val, u3.val]) 2) 2) [u0.val, u1.val]).1)) (by simp) A_r_65 (o_jb2 u1).2.2.1 (o_jb2 u1).2.2.2 (by show u1.val < (o_iv (o_st (o_tk (o_pf (o_cnt 2 [u0.val, u1.val, u2.val, u3.val]) 2) 2) [u0.val]).1).length; rw [o_ivl, (o_stl _ _).1, o_tkl]; exact u1.isLt) rfl rfl (o_ivs _ _ _) o_d9_103 rfl fun T88 h90 w89 W91 A_new => ?_
 clear A_r_65
 replace L_op := L_op.other W91 ne_op_r_65
 replace L_op0 := L_op0.other W91 ne_op0_r_65
 replace A_qa := A_qa.other W91 ne_qa_r_65
 replace A_bl := A_bl.other W91 ne_bl_r_65
 replace A_a5 := A_a5.other W91 ne_a5_r_65
 replace A_a58 := A_a58.other W91 ne_a58_r_65
 replace K := K.wr W91 (Or.inr nw_r_65)
 have A_r_65 := A_new
 clear A_new
 refine o_iload (pc' := 106) w89 o_d9_104 rfl rfl ?_
 refine o_stI (pc' := 107) w89 (i := (List.getD (o_st (o_tk (o_pf (o_cnt 2 [u0.val, u1.val, u2.val, u3.val]) 2) 2) [u0.val]).1 u1.val 0).toNatClampNeg) (xv := (.int (1 : Int32))) (vs' := (o_iv (o_st (o_tk (o_pf (o_cnt 2 [u0.val, u1.val, u2.val, u3.val]) 2) 2) [u0.val, u1.val]).2.1)) (by simp) A_a58 (o_zz5 u0 u1 u2 u3) rfl (by show _ < (o_iv (o_st (o_tk (o_pf (o_cnt 2 [u0.val, u1.val, u2.val, u3.val]) 2) 2) [u0.val]).2.1).length; rw [o_ivl, (o_stl _ _).2]; exact o_pn (o_zz5 u0 u1 u2 u3)) rfl rfl (o_ivs _ _ _) o_d9_106 rfl fun T92 h94 w93 W95 A_new => ?_
 clear A_a58
 replace L_op := L_op.other W95 ne_op_a58
 replace L_op0 := L_op0.other W95 ne_op0_a58
 replace A_qa := A_qa.other W95 ne_qa_a58
 replace A_bl := A_bl.other W95 ne_bl_a58
 replace A_a5 := A_a5.other W95 ne_a5_a58
 replace A_r_65 := A_r_65.other W95 (Ne.symm ne_a58_r_65)
 replace K := K.wr W95 (Or.inr nw_a58)
 have A_a58 := A_new
 clear A_new
 refine o_iinc (pc' := 110) w93 o_d9_107 rfl (y := (2 : Int32)) (by decide) (Ls' := #[.val (.int (2 : Int32)), .val (.int (4 : Int32)), .val (.ref op), .val (.ref a5), .val (.ref a58), .val (.ref r_65), .val (.int (2 : Int32))]) rfl rfl ?_
 refine o_goto w93 o_d9_110 (by decide) (pc' := 80) rfl ?_
 refine o_iload (pc' := 82) w93 o_d9_80 rfl rfl ?_
 refine o_iloadN (pc' := 83) w93 o_d9_82 rfl rfl ?_
 refine o_icmp (pc' := 86) w93 o_d9_83 rfl (by decide) (pcY := 113) rfl (fun (hb83_2 : ¬ (2 : Int32) < (4 : Int32)) => absurd hb83_2 (by decide)) (fun (hb83_2 : (2 : Int32) < (4 : Int32)) => ?_)
 refine o_aload (pc' := 88) w93 o_d9_86 rfl rfl rfl ?_
 refine o_aload (pc' := 90) w93 o_d9_88 rfl rfl rfl ?_
 refine o_aloadN (pc' := 91) w93 o_d9_90 rfl rfl rfl ?_
 refine o_iload (pc' := 93) w93 o_d9_91 rfl rfl ?_
 refine o_callL (pc' := 98) w93 (x := (⟨"com/example/throng/throng/engine/Groups", "of", "(IILjava/util/function/IntUnaryOperator;ILjava/util/function/IntUnaryOperator;)Lcom/example/throng/throng/engine/Groups;"⟩ : MethodName)) (xi := (⟨"java/util/function/IntUnaryOperator", "applyAsInt", "(I)I"⟩ : MethodName)) (y := (⟨"com/example/throng/throng/engine/Groups", "lambda$of$0", "(Ljava/util/function/IntUnaryOperator;[II)I"⟩ : MethodName)) (pcS := 17) (idxS := 38) (σ := o_sh2) (vals := [(.ref op0), (.ref bl)]) (argsL := [(.int (2 : Int32))]) (argsT := [(.ref op0), (.ref bl), (.int (2 : Int32))]) (rest := [(.ref r_65), (.ref a58)]) (fcode := o_sh2_fc) (fml := 2) (L0 := #[.val (.ref op), .val (.int (2 : Int32))]) (o_w34 hw) (o_w35 hw) (o_w36 hw) (o_w73 hw) (o_w29 hw) (o_w74 hw) o_sh2_xi o_sh2_y (by decide) L_op o_sh2_fwd o_sh2_f9 o_sh2_f12 (o_ct_lam2 l Z a0 hw EL hE n0 [] h94 (o_old w93) op0 bl (2 : Int32) qa kq vq kb vb mid2 (Int32.ofNat u2.val) L_op0 A_qa A_bl (by decide) (mm2.1) (mm2.2.1) (mm2.2.2)) (fun _ _ _ q_ => ⟨_, q_.2.2⟩) rfl rfl o_pd0 rfl o_pd6 rfl o_d9_93 rfl (fun _ => rfl) rfl (fun cK cell U ck blx target hx hmd hc1 hc2 hc3 hO hU hck hh hW kk => (XS.aloadN hU hx rfl (hb hck o_sh2_f0) rfl rfl (LamKit.getCap hx hU hW hmd o_sh2_cap0 hO (by rw [hh]; exact hc1) hc2 (v := (.ref op0)) (by rw [hc3]; rfl) rfl rfl (hb hck o_sh2_f1) (XS.aloadN hU hx rfl (hb hck o_sh2_f4) rfl rfl (LamKit.getCap hx hU hW hmd o_sh2_cap1 hO (by rw [hh]; exact hc1) hc2 (v := (.ref bl)) (by rw [hc3]; rfl) rfl rfl (hb hck o_sh2_f5) (XS.iloadN hU hx rfl (hb hck o_sh2_f8) rfl kk)))))) (o_w25 hw) (by decide) (W := 2) rfl (by decide) (by decide) (by decide) fun T96 h98 v99 ms100 w97 q101 => ?_
 obtain ⟨rfl, rfl, rfl⟩ := q101
 show o_Go Z EL n0 p e below s _ _ _ (T96.setTop (mkF m 98 _ [(.int (Int32.ofNat u2.val)), (.ref r_65), (.ref a58)]))
 refine o_dup2 (pc' := 99) w97 o_d9_98 rfl rfl rfl ?_
 refine o_ldI (pc' := 100) w97 (v := (.int (List.getD (o_st (o_tk (o_pf (o_cnt 2 [u0.val, u1.val, u2.val, u3.val]) 2) 2) [u0.val, u1.val]).1 u2.val 0))) A_r_65 (o_jb2 u2).2.2.1 (o_ivg (o_jb2 u2).2.2.2) o_d9_99 rfl ?_
 refine o_dupX2 (pc' := 101) w97 o_d9_100 rfl rfl rfl rfl ?_
 refine o_iconst (pc' := 102) w97 o_d9_101 (x := (1 : Int32)) rfl rfl ?_
 refine o_iadd (pc' := 103) w97 o_d9_102 (z := ((List.getD (o_st (o_tk (o_pf (o_cnt 2 [u0.val, u1.val, u2.val, u3.val]) 2) 2) [u0.val, u1.val]).1 u2.val 0) + (1 : Int32))) rfl rfl ?_
 refine o_stI (pc' := 104) w97 (i := u2.val) (xv := (.int ((List.getD (o_st (o_tk (o_pf (o_cnt 2 [u0.val, u1.val, u2.val, u3.val]) 2) 2) [u0.val, u1.val]).1 u2.val 0) + (1 : Int32)))) (vs' := (o_iv (o_st (o_tk (o_pf (o_cnt 2 [u0.val, u1.val, u2.val, u3.val]) 2) 2) [u0.val, u1.val, u2.val]).1)) (by simp) A_r_65 (o_jb2 u2).2.2.1 (o_jb2 u2).2.2.2 (by show u2.val < (o_iv (o_st (o_tk (o_pf (o_cnt 2 [u0.val, u1.val, u2.val, u3.val]) 2) 2) [u0.val, u1.val]).1).length; rw [o_ivl, (o_stl _ _).1, o_tkl]; exact u2.isLt) rfl rfl (o_ivs _ _ _) o_d9_103 rfl fun T102 h104 w103 W105 A_new => ?_
 clear A_r_65
 replace L_op := L_op.other W105 ne_op_r_65
 replace L_op0 := L_op0.other W105 ne_op0_r_65
 replace A_qa := A_qa.other W105 ne_qa_r_65
 replace A_bl := A_bl.other W105 ne_bl_r_65
 replace A_a5 := A_a5.other W105 ne_a5_r_65
 replace A_a58 := A_a58.other W105 ne_a58_r_65
 replace K := K.wr W105 (Or.inr nw_r_65)
 have A_r_65 := A_new
 clear A_new
 refine o_iload (pc' := 106) w103 o_d9_104 rfl rfl ?_
 refine o_stI (pc' := 107) w103 (i := (List.getD (o_st (o_tk (o_pf (o_cnt 2 [u0.val, u1.val, u2.val, u3.val]) 2) 2) [u0.val, u1.val]).1 u2.val 0).toNatClampNeg) (xv := (.int (2 : Int32))) (vs' := (o_iv (o_st (o_tk (o_pf (o_cnt 2 [u0.val, u1.val, u2.val, u3.val]) 2) 2) [u0.val, u1.val, u2.val]).2.1)) (by simp) A_a58 (o_zz6 u0 u1 u2 u3) rfl (by show _ < (o_iv (o_st (o_tk (o_pf (o_cnt 2 [u0.val, u1.val, u2.val, u3.val]) 2) 2) [u0.val, u1.val]).2.1).length; rw [o_ivl, (o_stl _ _).2]; exact o_pn (o_zz6 u0 u1 u2 u3)) rfl rfl (o_ivs _ _ _) o_d9_106 rfl fun T106 h108 w107 W109 A_new => ?_
 clear A_a58
 replace L_op := L_op.other W109 ne_op_a58
 replace L_op0 := L_op0.other W109 ne_op0_a58
 replace A_qa := A_qa.other W109 ne_qa_a58
 replace A_bl := A_bl.other W109 ne_bl_a58
 replace A_a5 := A_a5.other W109 ne_a5_a58
 replace A_r_65 := A_r_65.other W109 (Ne.symm ne_a58_r_65)
 replace K := K.wr W109 (Or.inr nw_a58)
 have A_a58 := A_new
 clear A_new
 refine o_iinc (pc' := 110) w107 o_d9_107 rfl (y := (3 : Int32)) (by decide) (Ls' := #[.val (.int (2 : Int32)), .val (.int (4 : Int32)), .val (.ref op), .val (.ref a5), .val (.ref a58), .val (.ref r_65), .val (.int (3 : Int32))]) rfl rfl ?_
 refine o_goto w107 o_d9_110 (by decide) (pc' := 80) rfl ?_
 refine o_iload (pc' := 82) w107 o_d9_80 rfl rfl ?_
 refine o_iloadN (pc' := 83) w107 o_d9_82 rfl rfl ?_
 refine o_icmp (pc' := 86) w107 o_d9_83 rfl (by decide) (pcY := 113) rfl (fun (hb83_3 : ¬ (3 : Int32) < (4 : Int32)) => absurd hb83_3 (by decide)) (fun (hb83_3 : (3 : Int32) < (4 : Int32)) => ?_)
 refine o_aload (pc' := 88) w107 o_d9_86 rfl rfl rfl ?_
 refine o_aload (pc' := 90) w107 o_d9_88 rfl rfl rfl ?_
 refine o_aloadN (pc' := 91) w107 o_d9_90 rfl rfl rfl ?_
 refine o_iload (pc' := 93) w107 o_d9_91 rfl rfl ?_
 refine o_callL (pc' := 98) w107 (x := (⟨"com/example/throng/throng/engine/Groups", "of", "(IILjava/util/function/IntUnaryOperator;ILjava/util/function/IntUnaryOperator;)Lcom/example/throng/throng/engine/Groups;"⟩ : MethodName)) (xi := (⟨"java/util/function/IntUnaryOperator", "applyAsInt", "(I)I"⟩ : MethodName)) (y := (⟨"com/example/throng/throng/engine/Groups", "lambda$of$0", "(Ljava/util/function/IntUnaryOperator;[II)I"⟩ : MethodName)) (pcS := 17) (idxS := 38) (σ := o_sh2) (vals := [(.ref op0), (.ref bl)]) (argsL := [(.int (3 : Int32))]) (argsT := [(.ref op0), (.ref bl), (.int (3 : Int32))]) (rest := [(.ref r_65), (.ref a58)]) (fcode := o_sh2_fc) (fml := 2) (L0 := #[.val (.ref op), .val (.int (3 : Int32))]) (o_w34 hw) (o_w35 hw) (o_w36 hw) (o_w73 hw) (o_w29 hw) (o_w74 hw) o_sh2_xi o_sh2_y (by decide) L_op o_sh2_fwd o_sh2_f9 o_sh2_f12 (o_ct_lam2 l Z a0 hw EL hE n0 [] h108 (o_old w107) op0 bl (3 : Int32) qa kq vq kb vb mid3 (Int32.ofNat u3.val) L_op0 A_qa A_bl (by decide) (mm3.1) (mm3.2.1) (mm3.2.2)) (fun _ _ _ q_ => ⟨_, q_.2.2⟩) rfl rfl o_pd0 rfl o_pd6 rfl o_d9_93 rfl (fun _ => rfl) rfl (fun cK cell U ck blx target hx hmd hc1 hc2 hc3 hO hU hck hh hW kk => (XS.aloadN hU hx rfl (hb hck o_sh2_f0) rfl rfl (LamKit.getCap hx hU hW hmd o_sh2_cap0 hO (by rw [hh]; exact hc1) hc2 (v := (.ref op0)) (by rw [hc3]; rfl) rfl rfl (hb hck o_sh2_f1) (XS.aloadN hU hx rfl (hb hck o_sh2_f4) rfl rfl (LamKit.getCap hx hU hW hmd o_sh2_cap1 hO (by rw [hh]; exact hc1) hc2 (v := (.ref bl)) (by rw [hc3]; rfl) rfl rfl (hb hck o_sh2_f5) (XS.iloadN hU hx rfl (hb hck o_sh2_f8) rfl kk)))))) (o_w25 hw) (by decide) (W := 2) rfl (by decide) (by decide) (by decide) fun T110 h112 v113 ms114 w111 q115 => ?_
 obtain ⟨rfl, rfl, rfl⟩ := q115
 show o_Go Z EL n0 p e below s _ _ _ (T110.setTop (mkF m 98 _ [(.int (Int32.ofNat u3.val)), (.ref r_65), (.ref a58)]))
 refine o_dup2 (pc' := 99) w111 o_d9_98 rfl rfl rfl ?_
 refine o_ldI (pc' := 100) w111 (v := (.int (List.getD (o_st (o_tk (o_pf (o_cnt 2 [u0.val, u1.val, u2.val, u3.val]) 2) 2) [u0.val, u1.val, u2.val]).1 u3.val 0))) A_r_65 (o_jb2 u3).2.2.1 (o_ivg (o_jb2 u3).2.2.2) o_d9_99 rfl ?_
 refine o_dupX2 (pc' := 101) w111 o_d9_100 rfl rfl rfl rfl ?_
 refine o_iconst (pc' := 102) w111 o_d9_101 (x := (1 : Int32)) rfl rfl ?_
 refine o_iadd (pc' := 103) w111 o_d9_102 (z := ((List.getD (o_st (o_tk (o_pf (o_cnt 2 [u0.val, u1.val, u2.val, u3.val]) 2) 2) [u0.val, u1.val, u2.val]).1 u3.val 0) + (1 : Int32))) rfl rfl ?_
 refine o_stI (pc' := 104) w111 (i := u3.val) (xv := (.int ((List.getD (o_st (o_tk (o_pf (o_cnt 2 [u0.val, u1.val, u2.val, u3.val]) 2) 2) [u0.val, u1.val, u2.val]).1 u3.val 0) + (1 : Int32)))) (vs' := (o_iv (o_st (o_tk (o_pf (o_cnt 2 [u0.val, u1.val, u2.val, u3.val]) 2) 2) [u0.val, u1.val, u2.val, u3.val]).1)) (by simp) A_r_65 (o_jb2 u3).2.2.1 (o_jb2 u3).2.2.2 (by show u3.val < (o_iv (o_st (o_tk (o_pf (o_cnt 2 [u0.val, u1.val, u2.val, u3.val]) 2) 2) [u0.val, u1.val, u2.val]).1).length; rw [o_ivl, (o_stl _ _).1, o_tkl]; exact u3.isLt) rfl rfl (o_ivs _ _ _) o_d9_103 rfl fun T116 h118 w117 W119 A_new => ?_
 clear A_r_65
 replace L_op := L_op.other W119 ne_op_r_65
 replace L_op0 := L_op0.other W119 ne_op0_r_65
 replace A_qa := A_qa.other W119 ne_qa_r_65
 replace A_bl := A_bl.other W119 ne_bl_r_65
 replace A_a5 := A_a5.other W119 ne_a5_r_65
 replace A_a58 := A_a58.other W119 ne_a58_r_65
 replace K := K.wr W119 (Or.inr nw_r_65)
 have A_r_65 := A_new
 clear A_new
 refine o_iload (pc' := 106) w117 o_d9_104 rfl rfl ?_
 refine o_stI (pc' := 107) w117 (i := (List.getD (o_st (o_tk (o_pf (o_cnt 2 [u0.val, u1.val, u2.val, u3.val]) 2) 2) [u0.val, u1.val, u2.val]).1 u3.val 0).toNatClampNeg) (xv := (.int (3 : Int32))) (vs' := (o_iv (o_st (o_tk (o_pf (o_cnt 2 [u0.val, u1.val, u2.val, u3.val]) 2) 2) [u0.val, u1.val, u2.val, u3.val]).2.1)) (by simp) A_a58 (o_zz7 u0 u1 u2 u3) rfl (by show _ < (o_iv (o_st (o_tk (o_pf (o_cnt 2 [u0.val, u1.val, u2.val, u3.val]) 2) 2) [u0.val, u1.val, u2.val]).2.1).length; rw [o_ivl, (o_stl _ _).2]; exact o_pn (o_zz7 u0 u1 u2 u3)) rfl rfl (o_ivs _ _ _) o_d9_106 rfl fun T120 h122 w121 W123 A_new => ?_
 clear A_a58
 replace L_op := L_op.other W123 ne_op_a58
 replace L_op0 := L_op0.other W123 ne_op0_a58
 replace A_qa := A_qa.other W123 ne_qa_a58
 replace A_bl := A_bl.other W123 ne_bl_a58
 replace A_a5 := A_a5.other W123 ne_a5_a58
 replace A_r_65 := A_r_65.other W123 (Ne.symm ne_a58_r_65)
 replace K := K.wr W123 (Or.inr nw_a58)
 have A_a58 := A_new
 clear A_new
 refine o_iinc (pc' := 110) w121 o_d9_107 rfl (y := (4 : Int32)) (by decide) (Ls' := #[.val (.int (2 : Int32)), .val (.int (4 : Int32)), .val (.ref op), .val (.ref a5), .val (.ref a58), .val (.ref r_65), .val (.int (4 : Int32))]) rfl rfl ?_
 refine o_goto w121 o_d9_110 (by decide) (pc' := 80) rfl ?_
 refine o_iload (pc' := 82) w121 o_d9_80 rfl rfl ?_
 refine o_iloadN (pc' := 83) w121 o_d9_82 rfl rfl ?_
 refine o_icmp (pc' := 86) w121 o_d9_83 rfl (by decide) (pcY := 113) rfl (fun (hb83_4 : ¬ (4 : Int32) < (4 : Int32)) => ?_) (fun (hb83_4 : (4 : Int32) < (4 : Int32)) => absurd hb83_4 (by decide))
 refine o_newO (pc' := 116) w121 (o_w51 hw) (o_w52 hw) (o_w29 hw) o_d9_113 rfl (by decide) (by decide) fun T124 h126 a128 g_a128 w125 E127 ⟨E_a128, D129⟩ => ?_
 have ne_a5_a128 : a5 ≠ a128 := Nat.ne_of_lt (Nat.lt_of_lt_of_le A_a5.lt (Nat.le_of_eq g_a128))
 have ne_a58_a128 : a58 ≠ a128 := Nat.ne_of_lt (Nat.lt_of_lt_of_le A_a58.lt (Nat.le_of_eq g_a128))
 have ne_bl_a128 : bl ≠ a128 := Nat.ne_of_lt (Nat.lt_of_lt_of_le A_bl.lt (Nat.le_of_eq g_a128))
 have ne_op_a128 : op ≠ a128 := Nat.ne_of_lt (Nat.lt_of_lt_of_le L_op.lt (Nat.le_of_eq g_a128))
 have ne_op0_a128 : op0 ≠ a128 := Nat.ne_of_lt (Nat.lt_of_lt_of_le L_op0.lt (Nat.le_of_eq g_a128))
 have ne_qa_a128 : qa ≠ a128 := Nat.ne_of_lt (Nat.lt_of_lt_of_le A_qa.lt (Nat.le_of_eq g_a128))
 have ne_r_65_a128 : r_65 ≠ a128 := Nat.ne_of_lt (Nat.lt_of_lt_of_le A_r_65.lt (Nat.le_of_eq g_a128))
 have nw_a128 : h0.size ≤ a128 := Nat.le_trans K.1 (Nat.le_of_eq g_a128)
 replace L_op := L_op.ext E127
 replace L_op0 := L_op0.ext E127
 replace A_qa := A_qa.ext E127
 replace A_bl := A_bl.ext E127
 replace A_a5 := A_a5.ext E127
 replace A_a58 := A_a58.ext E127
 replace A_r_65 := A_r_65.ext E127
 replace K := K.ext E127
 have F_a128_start : Fld Z h126 a128 "com/example/throng/throng/engine/Groups" "start" "[I" .null := D129 (Or.inr (o_w63 hw)) (ty := (.array .int)) (by decide)
 have F_a128_items : Fld Z h126 a128 "com/example/throng/throng/engine/Groups" "items" "[I" .null := D129 (Or.inr (o_w65 hw)) (ty := (.array .int)) (by decide)
 refine o_dup (pc' := 117) w125 o_d9_116 rfl rfl ?_
 refine o_aloadN (pc' := 118) w125 o_d9_117 rfl rfl rfl ?_
 refine o_aload (pc' := 120) w125 o_d9_118 rfl rfl rfl ?_
 refine o_callI (pc' := 123) w125 rfl (o_w53 hw) (o_w54 hw) (o_w29 hw) (o_w55 hw) (by decide) (o_ct_grI l Z a0 hw EL hE n0 [] h126 (o_old w125) a128 a5 a58 .null .null E_a128 F_a128_start F_a128_items) (allS (P := fun x => x ∈ _) (by simp) all0) (argsL := [(.ref a5), (.ref a58)]) (rest := [(.ref a128)]) rfl rfl o_pd5 rfl o_d9_120 rfl (by decide) (W := 1) rfl (by decide) (by decide) (by decide) fun T130 h132 v133 ms134 w131 q135 => ?_
 obtain ⟨K136, rfl, rfl, nw_E_a128, nw_F_a128_start, nw_F_a128_items⟩ := q135
 replace L_op := L_op.keep K136 (ninS ne_op_a128 nin0)
 replace L_op0 := L_op0.keep K136 (ninS ne_op0_a128 nin0)
 replace A_qa := A_qa.keep K136 (ninS ne_qa_a128 nin0)
 replace A_bl := A_bl.keep K136 (ninS ne_bl_a128 nin0)
 replace A_a5 := A_a5.keep K136 (ninS ne_a5_a128 nin0)
 replace A_a58 := A_a58.keep K136 (ninS ne_a58_a128 nin0)
 replace A_r_65 := A_r_65.keep K136 (ninS ne_r_65_a128 nin0)
 replace K := K.trans K136 (allS (P := fun x => x ∈ ([] : List Addr) ∨ h0.size ≤ x) (Or.inr nw_a128) all0)
 have E_a128 := nw_E_a128; clear nw_E_a128
 have F_a128_start := nw_F_a128_start; clear nw_F_a128_start
 have F_a128_items := nw_F_a128_items; clear nw_F_a128_items
 show o_Go Z EL n0 p e below s _ _ _ (T130.setTop (mkF m 123 _ [(.ref a128)]))
 exact o_retV w131 (t := (.object "com/example/throng/throng/engine/Groups")) rfl (o_narR rfl rfl) (Or.inr (Or.inr (Or.inr (Or.inr ⟨rfl, rfl, rfl⟩)))) o_d9_123 (by decide) (by decide) (ms' := [a58]) (allS (P := fun x => x ∈ _) (by simp) all0) ⟨K, a128, a5, a58, k_a58, rfl, rfl, E_a128, F_a128_start, F_a128_items, A_a58, nw_a128, nw_a58, (Ne.symm ne_a58_a128)⟩
theorem o_it2r : ∀ (u0 u1 u2 u3 : Fin 2) (i : Fin 4), ¬ (o_it2 u0 u1 u2 u3).getD i.val 0 < 0 ∧ (o_it2 u0 u1 u2 u3).getD i.val 0 < 4 := by decide +kernel
theorem o_it3r : ∀ (f0 f1 f2 f3 : Fin 3) (i : Fin 4), ¬ (o_it3 f0 f1 f2 f3).getD i.val 0 < 0 ∧ (o_it3 f0 f1 f2 f3).getD i.val 0 < 4 := by decide +kernel
theorem o_d10_0 : decode prog_70_method_3_code 0 = .ok (.iload_n 3, 1) := by decide +kernel
theorem o_d10_1 : decode prog_70_method_3_code 1 = .ok (.iload_n 1, 1) := by decide +kernel
theorem o_d10_2 : decode prog_70_method_3_code 2 = .ok (.aload 4, 2) := by decide +kernel
theorem o_d10_4 : decode prog_70_method_3_code 4 = .ok (.invokestatic 31, 3) := by decide +kernel
theorem o_w33 {Z a0} (hw : o_H a0 Z) : (.code ⟨"com/example/throng/throng/engine/Groups", "of", "(IILjava/util/function/IntUnaryOperator;)Lcom/example/throng/throng/engine/Groups;"⟩ prog_70_method_2_code 7 (Option.some (Jvm.ClassFile.FieldType.object "com/example/throng/throng/engine/Groups")) : Jvm.Cond).before a0 Z = true := hw _ (List.mem_of_getElem? (i := 33) rfl)
theorem o_pd7 : parseMethodDescriptor "(IILjava/util/function/IntUnaryOperator;)Lcom/example/throng/throng/engine/Groups;" = some ⟨[.int, .int, (.object "java/util/function/IntUnaryOperator")], some (.object "com/example/throng/throng/engine/Groups")⟩ := by decide +kernel
theorem o_w31 {Z a0} (hw : o_H a0 Z) : (.methodLink "com/example/throng/throng/engine/Groups" 31 ⟨"com/example/throng/throng/engine/Groups", "of", "(IILjava/util/function/IntUnaryOperator;)Lcom/example/throng/throng/engine/Groups;"⟩ : Jvm.Cond).before a0 Z = true := hw _ (List.mem_of_getElem? (i := 31) rfl)
theorem o_w32 {Z a0} (hw : o_H a0 Z) : (.static ⟨"com/example/throng/throng/engine/Groups", "of", "(IILjava/util/function/IntUnaryOperator;)Lcom/example/throng/throng/engine/Groups;"⟩ : Jvm.Cond).before a0 Z = true := hw _ (List.mem_of_getElem? (i := 32) rfl)
theorem o_d10_7 : decode prog_70_method_3_code 7 = .ok (.invokevirtual 35, 3) := by decide +kernel
theorem o_w70 {Z a0} (hw : o_H a0 Z) : (.code ⟨"com/example/throng/throng/engine/Groups", "items", "()[I"⟩ prog_70_method_8_code 1 (Option.some (Jvm.ClassFile.FieldType.array Jvm.ClassFile.FieldType.int)) : Jvm.Cond).before a0 Z = true := hw _ (List.mem_of_getElem? (i := 70) rfl)
theorem o_pd8 : parseMethodDescriptor "()[I" = some ⟨[], some (.array .int)⟩ := by decide +kernel
theorem o_w66 {Z a0} (hw : o_H a0 Z) : (.methodLink "com/example/throng/throng/engine/Groups" 35 ⟨"com/example/throng/throng/engine/Groups", "items", "()[I"⟩ : Jvm.Cond).before a0 Z = true := hw _ (List.mem_of_getElem? (i := 66) rfl)
theorem o_w67 {Z a0} (hw : o_H a0 Z) : (.declares ⟨"com/example/throng/throng/engine/Groups", "items", "()[I"⟩ : Jvm.Cond).before a0 Z = true := hw _ (List.mem_of_getElem? (i := 67) rfl)
theorem o_w69 {Z a0} (hw : o_H a0 Z) : (.selects "com/example/throng/throng/engine/Groups" ⟨"com/example/throng/throng/engine/Groups", "items", "()[I"⟩ ⟨"com/example/throng/throng/engine/Groups", "items", "()[I"⟩ : Jvm.Cond).before a0 Z = true := hw _ (List.mem_of_getElem? (i := 69) rfl)
theorem o_w68 {Z a0} (hw : o_H a0 Z) : (.instanceMethod ⟨"com/example/throng/throng/engine/Groups", "items", "()[I"⟩ : Jvm.Cond).before a0 Z = true := hw _ (List.mem_of_getElem? (i := 68) rfl)
theorem o_d10_10 : decode prog_70_method_3_code 10 = .ok (.astore 5, 2) := by decide +kernel
theorem o_d10_12 : decode prog_70_method_3_code 12 = .ok (.iload_n 0, 1) := by decide +kernel
theorem o_d10_13 : decode prog_70_method_3_code 13 = .ok (.iload_n 1, 1) := by decide +kernel
theorem o_d10_14 : decode prog_70_method_3_code 14 = .ok (.aload_n 2, 1) := by decide +kernel
theorem o_d10_15 : decode prog_70_method_3_code 15 = .ok (.aload 5, 2) := by decide +kernel
theorem o_d10_17 : decode prog_70_method_3_code 17 = .ok (.invokedynamic 38, 5) := by decide +kernel
theorem o_w71 {Z a0} (hw : o_H a0 Z) : (.lambdaSite ⟨"com/example/throng/throng/engine/Groups", "of", "(IILjava/util/function/IntUnaryOperator;ILjava/util/function/IntUnaryOperator;)Lcom/example/throng/throng/engine/Groups;"⟩ 17 38 (Jvm.Lambda.Shape.mk "java/util/function/IntUnaryOperator" "applyAsInt" (Jvm.ClassFile.MethodDescriptor.mk ([Jvm.ClassFile.FieldType.int] : List Jvm.ClassFile.FieldType) (Option.some Jvm.ClassFile.FieldType.int)) ([(Jvm.ClassFile.FieldType.object "java/util/function/IntUnaryOperator"), (Jvm.ClassFile.FieldType.array Jvm.ClassFile.FieldType.int)] : List Jvm.ClassFile.FieldType) 6 "com/example/throng/throng/engine/Groups" "lambda$of$0" (Jvm.ClassFile.MethodDescriptor.mk ([(Jvm.ClassFile.FieldType.object "java/util/function/IntUnaryOperator"), (Jvm.ClassFile.FieldType.array Jvm.ClassFile.FieldType.int), Jvm.ClassFile.FieldType.int] : List Jvm.ClassFile.FieldType) (Option.some Jvm.ClassFile.FieldType.int)) false (Jvm.ClassFile.MethodDescriptor.mk ([Jvm.ClassFile.FieldType.int] : List Jvm.ClassFile.FieldType) (Option.some Jvm.ClassFile.FieldType.int))) : Jvm.Cond).before a0 Z = true := hw _ (List.mem_of_getElem? (i := 71) rfl)
theorem o_d10_22 : decode prog_70_method_3_code 22 = .ok (.invokestatic 31, 3) := by decide +kernel
theorem o_d10_25 : decode prog_70_method_3_code 25 = .ok (.astore 6, 2) := by decide +kernel
theorem o_d10_27 : decode prog_70_method_3_code 27 = .ok (.aload 6, 2) := by decide +kernel
theorem o_d10_29 : decode prog_70_method_3_code 29 = .ok (.invokevirtual 35, 3) := by decide +kernel
theorem o_d10_32 : decode prog_70_method_3_code 32 = .ok (.astore 7, 2) := by decide +kernel
theorem o_d10_34 : decode prog_70_method_3_code 34 = .ok (.iconst 0, 1) := by decide +kernel
theorem o_d10_35 : decode prog_70_method_3_code 35 = .ok (.istore 8, 2) := by decide +kernel
theorem o_d10_37 : decode prog_70_method_3_code 37 = .ok (.iload 8, 2) := by decide +kernel
theorem o_d10_39 : decode prog_70_method_3_code 39 = .ok (.iload_n 1, 1) := by decide +kernel
theorem o_d10_40 : decode prog_70_method_3_code 40 = .ok (.if_icmp .ge 22, 3) := by decide +kernel
theorem o_d10_43 : decode prog_70_method_3_code 43 = .ok (.aload 7, 2) := by decide +kernel
theorem o_d10_45 : decode prog_70_method_3_code 45 = .ok (.iload 8, 2) := by decide +kernel
theorem o_d10_47 : decode prog_70_method_3_code 47 = .ok (.aload 5, 2) := by decide +kernel
theorem o_d10_49 : decode prog_70_method_3_code 49 = .ok (.aload 7, 2) := by decide +kernel
theorem o_d10_51 : decode prog_70_method_3_code 51 = .ok (.iload 8, 2) := by decide +kernel
theorem o_d10_53 : decode prog_70_method_3_code 53 = .ok (.iaload, 1) := by decide +kernel
theorem o_d10_54 : decode prog_70_method_3_code 54 = .ok (.iaload, 1) := by decide +kernel
theorem o_d10_55 : decode prog_70_method_3_code 55 = .ok (.iastore, 1) := by decide +kernel
theorem o_d10_56 : decode prog_70_method_3_code 56 = .ok (.iinc 8 1, 3) := by decide +kernel
theorem o_d10_59 : decode prog_70_method_3_code 59 = .ok (.goto (-22), 3) := by decide +kernel
theorem o_d10_62 : decode prog_70_method_3_code 62 = .ok (.aload 6, 2) := by decide +kernel
theorem o_d10_64 : decode prog_70_method_3_code 64 = .ok (.areturn, 1) := by decide +kernel
theorem o_ef_of5 (m : MethodId) (op0 : Addr) (op1 : Addr) : entryFrame m #[(.int (2 : Int32)), (.int (4 : Int32)), (.ref op0), (.int (3 : Int32)), (.ref op1)] 9 = mkF m 0 #[.val (.int (2 : Int32)), .val (.int (4 : Int32)), .val (.ref op0), .val (.int (3 : Int32)), .val (.ref op1), .unset, .unset, .unset, .unset] [] := by first | (simp [entryFrame, mkF, argsToLocals, Value.category]; done) | rfl
theorem o_pf10 : plainFor (⟨"com/example/throng/throng/engine/Groups", "of", "(IILjava/util/function/IntUnaryOperator;ILjava/util/function/IntUnaryOperator;)Lcom/example/throng/throng/engine/Groups;"⟩ : MethodName) = true := by first | exact plainFor_of_name (by first | (simp [plainName, overriddenIn]; done) | decide +kernel) | decide +kernel
def o_Q_of5 (Z : State) (h0 : Heap) (op0 : Addr) (op1 : Addr) (la : Addr) (kl : ClassId) (qa : Addr) (kq : ClassId) (f0 : Fin 3) (f1 : Fin 3) (f2 : Fin 3) (f3 : Fin 3) (g0 : Fin 2) (g1 : Fin 2) (g2 : Fin 2) (g3 : Fin 2) (v : Option Value) (h : Heap) (ms : List Addr) : Prop := (Keep h0 h []) ∧ (∃ (r : Addr) (sa : Addr) (ia : Addr) (ki : ClassId), (ms = []) ∧ (v = some (.ref r)) ∧ (Exa Z h r "com/example/throng/throng/engine/Groups") ∧ (Fld Z h r "com/example/throng/throng/engine/Groups" "start" "[I" (.ref sa)) ∧ (Fld Z h r "com/example/throng/throng/engine/Groups" "items" "[I" (.ref ia)) ∧ (Arv Z h ia ki .int (4 : Int32) (o_iv (o_bq f0 f1 f2 f3 g0 g1 g2 g3)) (.int 0)) ∧ (h0.size ≤ r) ∧ (h0.size ≤ ia))
theorem o_ct_of5 (l : Launch) (Z : State) (a0 : Array Value) (hw : o_H a0 Z) (EL : List (String × Nat)) (hE : EW Z a0 EL) (n0 : Nat) (ws : List Jvm.Cond) (h0 : Heap) (O : Old Z n0 h0) (op0 : Addr) (op1 : Addr) (la : Addr) (kl : ClassId) (qa : Addr) (kq : ClassId) (f0 : Fin 3) (f1 : Fin 3) (f2 : Fin 3) (f3 : Fin 3) (g0 : Fin 2) (g1 : Fin 2) (g2 : Fin 2) (g3 : Fin 2) (L_op0 : o_Lam Z h0 op0 (⟨"com/example/throng/throng/engine/NumberedAnswers", "<init>", "(III[I[I[I)V"⟩ : MethodName) 43 29 o_sh0 [(.ref qa)]) (L_op1 : o_Lam Z h0 op1 (⟨"com/example/throng/throng/engine/NumberedAnswers", "<init>", "(III[I[I[I)V"⟩ : MethodName) 51 33 o_sh1 [(.ref la)]) (A_la : Arv Z h0 la kl .int (4 : Int32) [(.int (Int32.ofNat f0.val)), (.int (Int32.ofNat f1.val)), (.int (Int32.ofNat f2.val)), (.int (Int32.ofNat f3.val))] (.int 0)) (A_qa : Arv Z h0 qa kq .int (4 : Int32) [(.int (Int32.ofNat g0.val)), (.int (Int32.ofNat g1.val)), (.int (Int32.ofNat g2.val)), (.int (Int32.ofNat g3.val))] (.int 0)) :
    o_Ct l Z EL n0 (⟨"com/example/throng/throng/engine/Groups", "of", "(IILjava/util/function/IntUnaryOperator;ILjava/util/function/IntUnaryOperator;)Lcom/example/throng/throng/engine/Groups;"⟩ : MethodName) prog_70_method_3_code 9 (some (.object "com/example/throng/throng/engine/Groups")) ws ({ frames := 5, cells := 9, slots := 26, locals := 3076 } : Room) #[(.int (2 : Int32)), (.int (4 : Int32)), (.ref op0), (.int (3 : Int32)), (.ref op1)] h0 [] (o_Q_of5 Z h0 op0 op1 la kl qa kq f0 f1 f2 f3 g0 g1 g2 g3) := by
 refine o_enterN (a0 := a0) o_pf10 hE O fun p e s m below meth c T0 w0 hnm => ?_
 rw [o_ef_of5 m op0 op1]
 have K : Keep h0 h0 [] := Keep.refl _ _
 refine o_iloadN (pc' := 1) w0 o_d10_0 rfl rfl ?_
 refine o_iloadN (pc' := 2) w0 o_d10_1 rfl rfl ?_
 refine o_aload (pc' := 4) w0 o_d10_2 rfl rfl rfl ?_
 refine o_callS (pc' := 7) w0 (o_w31 hw) (o_w32 hw) (o_w29 hw) (o_w33 hw) (by decide) (o_ct_ofA l Z a0 hw EL hE n0 [] h0 (o_old w0) op1 la kl f0 f1 f2 f3 L_op1 A_la) all0 (argsL := [(.int (3 : Int32)), (.int (4 : Int32)), (.ref op1)]) (rest := []) rfl rfl o_pd7 rfl o_d10_4 rfl (by decide) (W := 0) rfl (by decide) (by decide) (by decide) fun T1 h3 v4 ms5 w2 q6 => ?_
 obtain ⟨K11, r_7, sa_8, ia_9, ki_10, rfl, rfl, nw_E_r_7, nw_F_r_7_start, nw_F_r_7_items, nw_A_ia_9, p4_ofA_0, p4_ofA_1, p4_ofA_2⟩ := q6
 have ne_la_r_7 : la ≠ r_7 := Nat.ne_of_lt (Nat.lt_of_lt_of_le A_la.lt p4_ofA_0)
 have ne_op0_r_7 : op0 ≠ r_7 := Nat.ne_of_lt (Nat.lt_of_lt_of_le L_op0.lt p4_ofA_0)
 have ne_op1_r_7 : op1 ≠ r_7 := Nat.ne_of_lt (Nat.lt_of_lt_of_le L_op1.lt p4_ofA_0)
 have ne_qa_r_7 : qa ≠ r_7 := Nat.ne_of_lt (Nat.lt_of_lt_of_le A_qa.lt p4_ofA_0)
 have nw_r_7 : h0.size ≤ r_7 := Nat.le_trans K.1 p4_ofA_0
 have ne_la_ia_9 : la ≠ ia_9 := Nat.ne_of_lt (Nat.lt_of_lt_of_le A_la.lt p4_ofA_1)
 have ne_op0_ia_9 : op0 ≠ ia_9 := Nat.ne_of_lt (Nat.lt_of_lt_of_le L_op0.lt p4_ofA_1)
 have ne_op1_ia_9 : op1 ≠ ia_9 := Nat.ne_of_lt (Nat.lt_of_lt_of_le L_op1.lt p4_ofA_1)
 have ne_qa_ia_9 : qa ≠ ia_9 := Nat.ne_of_lt (Nat.lt_of_lt_of_le A_qa.lt p4_ofA_1)
 have nw_ia_9 : h0.size ≤ ia_9 := Nat.le_trans K.1 p4_ofA_1
 replace L_op0 := L_op0.keep K11 nin0
 replace L_op1 := L_op1.keep K11 nin0
 replace A_la := A_la.keep K11 nin0
 replace A_qa := A_qa.keep K11 nin0
 replace K := K.trans K11 all0
 have E_r_7 := nw_E_r_7; clear nw_E_r_7
 have F_r_7_start := nw_F_r_7_start; clear nw_F_r_7_start
 have F_r_7_items := nw_F_r_7_items; clear nw_F_r_7_items
 have A_ia_9 := nw_A_ia_9; clear nw_A_ia_9
 show o_Go Z EL n0 p e below s _ _ _ (T1.setTop (mkF m 7 _ [(.ref r_7)]))
 refine o_callV (pc' := 10) w2 (o_w66 hw) (o_w67 hw) (fun s' hZ' => notFace_of_selects (args := #[]) (mvT hZ' (o_w69 hw))) (o_w69 hw) (o_w68 hw) (o_w29 hw) (o_w70 hw) (by decide) E_r_7 (o_ct_gItems l Z a0 hw EL hE n0 [] h3 (o_old w2) r_7 ia_9 F_r_7_items) all0 (argsL := []) (rest := []) rfl rfl o_pd8 rfl o_d10_7 rfl (by decide) (W := 0) rfl (by decide) (by decide) (by decide) fun T12 h14 v15 ms16 w13 q17 => ?_
 obtain ⟨rfl, rfl, rfl⟩ := q17
 show o_Go Z EL n0 p e below s _ _ _ (T12.setTop (mkF m 10 _ [(.ref ia_9)]))
 refine o_astore (pc' := 12) w13 o_d10_10 rfl (Ls' := #[.val (.int (2 : Int32)), .val (.int (4 : Int32)), .val (.ref op0), .val (.int (3 : Int32)), .val (.ref op1), .val (.ref ia_9), .unset, .unset, .unset]) rfl rfl ?_
 refine o_iloadN (pc' := 13) w13 o_d10_12 rfl rfl ?_
 refine o_iloadN (pc' := 14) w13 o_d10_13 rfl rfl ?_
 refine o_aloadN (pc' := 15) w13 o_d10_14 rfl rfl rfl ?_
 refine o_aload (pc' := 17) w13 o_d10_15 rfl rfl rfl ?_
 refine o_lam (pc' := 22) w13 (x := (⟨"com/example/throng/throng/engine/Groups", "of", "(IILjava/util/function/IntUnaryOperator;ILjava/util/function/IntUnaryOperator;)Lcom/example/throng/throng/engine/Groups;"⟩ : MethodName)) (σ := o_sh2) (fi := 17) (nv := 2) (vals := [(.ref op0), (.ref ia_9)]) (rest := [(.int (4 : Int32)), (.int (2 : Int32))]) hnm (o_w71 hw) (by decide) o_sh2_cap0 (o_w25 hw) rfl rfl rfl rfl (o_fit2 ⟨rfl, rfl⟩ ⟨rfl, rfl⟩) o_d10_17 rfl (Nat.le_of_ble_eq_true rfl) (by decide) (by decide) fun T18 h20 a22 g_a22 w19 E21 L_a22 => ?_
 have ne_ia_9_a22 : ia_9 ≠ a22 := Nat.ne_of_lt (Nat.lt_of_lt_of_le A_ia_9.lt (Nat.le_of_eq g_a22.symm))
 have ne_la_a22 : la ≠ a22 := Nat.ne_of_lt (Nat.lt_of_lt_of_le A_la.lt (Nat.le_of_eq g_a22.symm))
 have ne_op0_a22 : op0 ≠ a22 := Nat.ne_of_lt (Nat.lt_of_lt_of_le L_op0.lt (Nat.le_of_eq g_a22.symm))
 have ne_op1_a22 : op1 ≠ a22 := Nat.ne_of_lt (Nat.lt_of_lt_of_le L_op1.lt (Nat.le_of_eq g_a22.symm))
 have ne_qa_a22 : qa ≠ a22 := Nat.ne_of_lt (Nat.lt_of_lt_of_le A_qa.lt (Nat.le_of_eq g_a22.symm))
 have ne_r_7_a22 : r_7 ≠ a22 := Nat.ne_of_lt (Nat.lt_of_lt_of_le E_r_7.lt (Nat.le_of_eq g_a22.symm))
 have nw_a22 : h0.size ≤ a22 := Nat.le_trans K.1 (Nat.le_of_eq g_a22.symm)
 replace L_op0 := L_op0.ext E21
 replace L_op1 := L_op1.ext E21
 replace A_la := A_la.ext E21
 replace A_qa := A_qa.ext E21
 replace E_r_7 := E_r_7.ext E21
 replace F_r_7_start := F_r_7_start.ext E21
 replace F_r_7_items := F_r_7_items.ext E21
 replace A_ia_9 := A_ia_9.ext E21
 replace K := K.ext E21
 refine o_callS (pc' := 25) w19 (o_w31 hw) (o_w32 hw) (o_w29 hw) (o_w33 hw) (by decide) (o_ct_ofB l Z a0 hw EL hE n0 [] h20 (o_old w19) a22 op0 ia_9 qa kq [(.int (Int32.ofNat g0.val)), (.int (Int32.ofNat g1.val)), (.int (Int32.ofNat g2.val)), (.int (Int32.ofNat g3.val))] ki_10 (o_iv (o_itm 3 [f0.val, f1.val, f2.val, f3.val])) (List.getD (o_it3 f0 f1 f2 f3) 0 0) (List.getD (o_it3 f0 f1 f2 f3) 1 0) (List.getD (o_it3 f0 f1 f2 f3) 2 0) (List.getD (o_it3 f0 f1 f2 f3) 3 0) (o_u f0 f1 f2 f3 g0 g1 g2 g3 0) (o_u f0 f1 f2 f3 g0 g1 g2 g3 1) (o_u f0 f1 f2 f3 g0 g1 g2 g3 2) (o_u f0 f1 f2 f3 g0 g1 g2 g3 3) L_a22 L_op0 A_qa A_ia_9 (⟨o_ivd (o_it3 f0 f1 f2 f3) 0, o_it3r f0 f1 f2 f3 0, o_qv g0 g1 g2 g3 (o_pn (o_it3r f0 f1 f2 f3 0))⟩) (⟨o_ivd (o_it3 f0 f1 f2 f3) 1, o_it3r f0 f1 f2 f3 1, o_qv g0 g1 g2 g3 (o_pn (o_it3r f0 f1 f2 f3 1))⟩) (⟨o_ivd (o_it3 f0 f1 f2 f3) 2, o_it3r f0 f1 f2 f3 2, o_qv g0 g1 g2 g3 (o_pn (o_it3r f0 f1 f2 f3 2))⟩) (⟨o_ivd (o_it3 f0 f1 f2 f3) 3, o_it3r f0 f1 f2 f3 3, o_qv g0 g1 g2 g3 (o_pn (o_it3r f0 f1 f2 f3 3))⟩)) all0 (argsL := [(.int (2 : Int32)), (.int (4 : Int32)), (.ref a22)]) (rest := []) rfl rfl o_pd7 rfl o_d10_22 rfl (by decide) (W := 0) rfl (by decide) (by decide) (by decide) fun T23 h25 v26 ms27 w24 q28 => ?_
 obtain ⟨K33, r_29, sa_30, ia_31, ki_32, rfl, rfl, nw_E_r_29, nw_F_r_29_start, nw_F_r_29_items, nw_A_ia_31, p22_ofB_0, p22_ofB_1, p22_ofB_2⟩ := q28
 have ne_a22_r_29 : a22 ≠ r_29 := Nat.ne_of_lt (Nat.lt_of_lt_of_le L_a22.lt p22_ofB_0)
 have ne_ia_9_r_29 : ia_9 ≠ r_29 := Nat.ne_of_lt (Nat.lt_of_lt_of_le A_ia_9.lt p22_ofB_0)
 have ne_la_r_29 : la ≠ r_29 := Nat.ne_of_lt (Nat.lt_of_lt_of_le A_la.lt p22_ofB_0)
 have ne_op0_r_29 : op0 ≠ r_29 := Nat.ne_of_lt (Nat.lt_of_lt_of_le L_op0.lt p22_ofB_0)
 have ne_op1_r_29 : op1 ≠ r_29 := Nat.ne_of_lt (Nat.lt_of_lt_of_le L_op1.lt p22_ofB_0)
 have ne_qa_r_29 : qa ≠ r_29 := Nat.ne_of_lt (Nat.lt_of_lt_of_le A_qa.lt p22_ofB_0)
 have ne_r_7_r_29 : r_7 ≠ r_29 := Nat.ne_of_lt (Nat.lt_of_lt_of_le E_r_7.lt p22_ofB_0)
 have nw_r_29 : h0.size ≤ r_29 := Nat.le_trans K.1 p22_ofB_0
 have ne_a22_ia_31 : a22 ≠ ia_31 := Nat.ne_of_lt (Nat.lt_of_lt_of_le L_a22.lt p22_ofB_1)
 have ne_ia_9_ia_31 : ia_9 ≠ ia_31 := Nat.ne_of_lt (Nat.lt_of_lt_of_le A_ia_9.lt p22_ofB_1)
 have ne_la_ia_31 : la ≠ ia_31 := Nat.ne_of_lt (Nat.lt_of_lt_of_le A_la.lt p22_ofB_1)
 have ne_op0_ia_31 : op0 ≠ ia_31 := Nat.ne_of_lt (Nat.lt_of_lt_of_le L_op0.lt p22_ofB_1)
 have ne_op1_ia_31 : op1 ≠ ia_31 := Nat.ne_of_lt (Nat.lt_of_lt_of_le L_op1.lt p22_ofB_1)
 have ne_qa_ia_31 : qa ≠ ia_31 := Nat.ne_of_lt (Nat.lt_of_lt_of_le A_qa.lt p22_ofB_1)
 have ne_r_7_ia_31 : r_7 ≠ ia_31 := Nat.ne_of_lt (Nat.lt_of_lt_of_le E_r_7.lt p22_ofB_1)
 have nw_ia_31 : h0.size ≤ ia_31 := Nat.le_trans K.1 p22_ofB_1
 replace L_op0 := L_op0.keep K33 nin0
 replace L_op1 := L_op1.keep K33 nin0
 replace A_la := A_la.keep K33 nin0
 replace A_qa := A_qa.keep K33 nin0
 replace E_r_7 := E_r_7.keep K33
 replace F_r_7_start := F_r_7_start.keep K33 nin0
 replace F_r_7_items := F_r_7_items.keep K33 nin0
 replace A_ia_9 := A_ia_9.keep K33 nin0
 replace L_a22 := L_a22.keep K33 nin0
 replace K := K.trans K33 all0
 have E_r_29 := nw_E_r_29; clear nw_E_r_29
 have F_r_29_start := nw_F_r_29_start; clear nw_F_r_29_start
 have F_r_29_items := nw_F_r_29_items; clear nw_F_r_29_items
 have A_ia_31 := nw_A_ia_31; clear nw_A_ia_31
 show o_Go Z EL n0 p e below s _ _ _ (T23.setTop (mkF m 25 _ [(.ref r_29)]))
 refine o_astore (pc' := 27) w24 o_d10_25 rfl (Ls' := #[.val (.int (2 : Int32)), .val (.int (4 : Int32)), .val (.ref op0), .val (.int (3 : Int32)), .val (.ref op1), .val (.ref ia_9), .val (.ref r_29), .unset, .unset]) rfl rfl ?_
 refine o_aload (pc' := 29) w24 o_d10_27 rfl rfl rfl ?_
 refine o_callV (pc' := 32) w24 (o_w66 hw) (o_w67 hw) (fun s' hZ' => notFace_of_selects (args := #[]) (mvT hZ' (o_w69 hw))) (o_w69 hw) (o_w68 hw) (o_w29 hw) (o_w70 hw) (by decide) E_r_29 (o_ct_gItems l Z a0 hw EL hE n0 [] h25 (o_old w24) r_29 ia_31 F_r_29_items) all0 (argsL := []) (rest := []) rfl rfl o_pd8 rfl o_d10_29 rfl (by decide) (W := 0) rfl (by decide) (by decide) (by decide) fun T34 h36 v37 ms38 w35 q39 => ?_
 obtain ⟨rfl, rfl, rfl⟩ := q39
 show o_Go Z EL n0 p e below s _ _ _ (T34.setTop (mkF m 32 _ [(.ref ia_31)]))
 refine o_astore (pc' := 34) w35 o_d10_32 rfl (Ls' := #[.val (.int (2 : Int32)), .val (.int (4 : Int32)), .val (.ref op0), .val (.int (3 : Int32)), .val (.ref op1), .val (.ref ia_9), .val (.ref r_29), .val (.ref ia_31), .unset]) rfl rfl ?_
 refine o_iconst (pc' := 35) w35 o_d10_34 (x := (0 : Int32)) rfl rfl ?_
 refine o_istore (pc' := 37) w35 o_d10_35 (Ls' := #[.val (.int (2 : Int32)), .val (.int (4 : Int32)), .val (.ref op0), .val (.int (3 : Int32)), .val (.ref op1), .val (.ref ia_9), .val (.ref r_29), .val (.ref ia_31), .val (.int (0 : Int32))]) rfl rfl ?_
 refine o_iload (pc' := 39) w35 o_d10_37 rfl rfl ?_
 refine o_iloadN (pc' := 40) w35 o_d10_39 rfl rfl ?_
 refine o_icmp (pc' := 43) w35 o_d10_40 rfl (by decide) (pcY := 62) rfl (fun (hb40 : ¬ (0 : Int32) < (4 : Int32)) => absurd hb40 (by decide)) (fun (hb40 : (0 : Int32) < (4 : Int32)) => ?_)
 refine o_aload (pc' := 45) w35 o_d10_43 rfl rfl rfl ?_
 refine o_iload (pc' := 47) w35 o_d10_45 rfl rfl ?_
 refine o_aload (pc' := 49) w35 o_d10_47 rfl rfl rfl ?_
 refine o_aload (pc' := 51) w35 o_d10_49 rfl rfl rfl ?_
 refine o_iload (pc' := 53) w35 o_d10_51 rfl rfl ?_
 refine o_ldI (pc' := 54) w35 (v := (.int (List.getD (o_it2 (o_u f0 f1 f2 f3 g0 g1 g2 g3 0) (o_u f0 f1 f2 f3 g0 g1 g2 g3 1) (o_u f0 f1 f2 f3 g0 g1 g2 g3 2) (o_u f0 f1 f2 f3 g0 g1 g2 g3 3)) 0 0))) A_ia_31 (by decide) ((o_ivg (l := (o_rm (o_it3 f0 f1 f2 f3) (o_it2 (o_u f0 f1 f2 f3 g0 g1 g2 g3 0) (o_u f0 f1 f2 f3 g0 g1 g2 g3 1) (o_u f0 f1 f2 f3 g0 g1 g2 g3 2) (o_u f0 f1 f2 f3 g0 g1 g2 g3 3)) 0)) rfl).trans (congrArg Value.int (o_rmg _ _ 0 0 (Nat.le_refl _)))) o_d10_53 rfl ?_
 refine o_ldI (pc' := 55) w35 (v := (.int (List.getD (o_it3 f0 f1 f2 f3) (List.getD (o_it2 (o_u f0 f1 f2 f3 g0 g1 g2 g3 0) (o_u f0 f1 f2 f3 g0 g1 g2 g3 1) (o_u f0 f1 f2 f3 g0 g1 g2 g3 2) (o_u f0 f1 f2 f3 g0 g1 g2 g3 3)) 0 0).toNatClampNeg 0))) A_ia_9 (o_it2r (o_u f0 f1 f2 f3 g0 g1 g2 g3 0) (o_u f0 f1 f2 f3 g0 g1 g2 g3 1) (o_u f0 f1 f2 f3 g0 g1 g2 g3 2) (o_u f0 f1 f2 f3 g0 g1 g2 g3 3) 0) (o_ivg (l := (o_it3 f0 f1 f2 f3)) rfl) o_d10_54 rfl ?_
 refine o_stI (pc' := 56) w35 (i := 0) (xv := (.int (List.getD (o_it3 f0 f1 f2 f3) (List.getD (o_it2 (o_u f0 f1 f2 f3 g0 g1 g2 g3 0) (o_u f0 f1 f2 f3 g0 g1 g2 g3 1) (o_u f0 f1 f2 f3 g0 g1 g2 g3 2) (o_u f0 f1 f2 f3 g0 g1 g2 g3 3)) 0 0).toNatClampNeg 0))) (vs' := (o_iv (o_rm (o_it3 f0 f1 f2 f3) (o_it2 (o_u f0 f1 f2 f3 g0 g1 g2 g3 0) (o_u f0 f1 f2 f3 g0 g1 g2 g3 1) (o_u f0 f1 f2 f3 g0 g1 g2 g3 2) (o_u f0 f1 f2 f3 g0 g1 g2 g3 3)) 1))) (by simp) A_ia_31 (by decide) rfl (by show 0 < (o_iv (o_rm (o_it3 f0 f1 f2 f3) (o_it2 (o_u f0 f1 f2 f3 g0 g1 g2 g3 0) (o_u f0 f1 f2 f3 g0 g1 g2 g3 1) (o_u f0 f1 f2 f3 g0 g1 g2 g3 2) (o_u f0 f1 f2 f3 g0 g1 g2 g3 3)) 0)).length; rw [o_ivl, o_rml]; exact Nat.lt_of_lt_of_eq (by decide) (o_stl _ _).2.symm) rfl rfl (o_ivs (o_rm (o_it3 f0 f1 f2 f3) (o_it2 (o_u f0 f1 f2 f3 g0 g1 g2 g3 0) (o_u f0 f1 f2 f3 g0 g1 g2 g3 1) (o_u f0 f1 f2 f3 g0 g1 g2 g3 2) (o_u f0 f1 f2 f3 g0 g1 g2 g3 3)) 0) 0 _) o_d10_55 rfl fun T40 h42 w41 W43 A_new => ?_
 clear A_ia_31
 replace L_op0 := L_op0.other W43 ne_op0_ia_31
 replace L_op1 := L_op1.other W43 ne_op1_ia_31
 replace A_la := A_la.other W43 ne_la_ia_31
 replace A_qa := A_qa.other W43 ne_qa_ia_31
 replace E_r_7 := E_r_7.wr W43
 replace F_r_7_start := F_r_7_start.other W43 (Or.inl ne_r_7_ia_31)
 replace F_r_7_items := F_r_7_items.other W43 (Or.inl ne_r_7_ia_31)
 replace A_ia_9 := A_ia_9.other W43 ne_ia_9_ia_31
 replace L_a22 := L_a22.other W43 ne_a22_ia_31
 replace E_r_29 := E_r_29.wr W43
 replace F_r_29_start := F_r_29_start.other W43 (Or.inl p22_ofB_2)
 replace F_r_29_items := F_r_29_items.other W43 (Or.inl p22_ofB_2)
 replace K := K.wr W43 (Or.inr nw_ia_31)
 have A_ia_31 := A_new
 clear A_new
 refine o_iinc (pc' := 59) w41 o_d10_56 rfl (y := (1 : Int32)) (by decide) (Ls' := #[.val (.int (2 : Int32)), .val (.int (4 : Int32)), .val (.ref op0), .val (.int (3 : Int32)), .val (.ref op1), .val (.ref ia_9), .val (.ref r_29), .val (.ref ia_31), .val (.int (1 : Int32))]) rfl rfl ?_
 refine o_goto w41 o_d10_59 (by decide) (pc' := 37) rfl ?_
 refine o_iload (pc' := 39) w41 o_d10_37 rfl rfl ?_
 refine o_iloadN (pc' := 40) w41 o_d10_39 rfl rfl ?_
 refine o_icmp (pc' := 43) w41 o_d10_40 rfl (by decide) (pcY := 62) rfl (fun (hb40_1 : ¬ (1 : Int32) < (4 : Int32)) => absurd hb40_1 (by decide)) (fun (hb40_1 : (1 : Int32) < (4 : Int32)) => ?_)
 refine o_aload (pc' := 45) w41 o_d10_43 rfl rfl rfl ?_
 refine o_iload (pc' := 47) w41 o_d10_45 rfl rfl ?_
 refine o_aload (pc' := 49) w41 o_d10_47 rfl rfl rfl ?_
 refine o_aload (pc' := 51) w41 o_d10_49 rfl rfl rfl ?_
 refine o_iload (pc' := 53) w41 o_d10_51 rfl rfl ?_
 refine o_ldI (pc' := 54) w41 (v := (.int (List.getD (o_it2 (o_u f0 f1 f2 f3 g0 g1 g2 g3 0) (o_u f0 f1 f2 f3 g0 g1 g2 g3 1) (o_u f0 f1 f2 f3 g0 g1 g2 g3 2) (o_u f0 f1 f2 f3 g0 g1 g2 g3 3)) 1 0))) A_ia_31 (by decide) ((o_ivg (l := (o_rm (o_it3 f0 f1 f2 f3) (o_it2 (o_u f0 f1 f2 f3 g0 g1 g2 g3 0) (o_u f0 f1 f2 f3 g0 g1 g2 g3 1) (o_u f0 f1 f2 f3 g0 g1 g2 g3 2) (o_u f0 f1 f2 f3 g0 g1 g2 g3 3)) 1)) rfl).trans (congrArg Value.int (o_rmg _ _ 1 1 (Nat.le_refl _)))) o_d10_53 rfl ?_
 refine o_ldI (pc' := 55) w41 (v := (.int (List.getD (o_it3 f0 f1 f2 f3) (List.getD (o_it2 (o_u f0 f1 f2 f3 g0 g1 g2 g3 0) (o_u f0 f1 f2 f3 g0 g1 g2 g3 1) (o_u f0 f1 f2 f3 g0 g1 g2 g3 2) (o_u f0 f1 f2 f3 g0 g1 g2 g3 3)) 1 0).toNatClampNeg 0))) A_ia_9 (o_it2r (o_u f0 f1 f2 f3 g0 g1 g2 g3 0) (o_u f0 f1 f2 f3 g0 g1 g2 g3 1) (o_u f0 f1 f2 f3 g0 g1 g2 g3 2) (o_u f0 f1 f2 f3 g0 g1 g2 g3 3) 1) (o_ivg (l := (o_it3 f0 f1 f2 f3)) rfl) o_d10_54 rfl ?_
 refine o_stI (pc' := 56) w41 (i := 1) (xv := (.int (List.getD (o_it3 f0 f1 f2 f3) (List.getD (o_it2 (o_u f0 f1 f2 f3 g0 g1 g2 g3 0) (o_u f0 f1 f2 f3 g0 g1 g2 g3 1) (o_u f0 f1 f2 f3 g0 g1 g2 g3 2) (o_u f0 f1 f2 f3 g0 g1 g2 g3 3)) 1 0).toNatClampNeg 0))) (vs' := (o_iv (o_rm (o_it3 f0 f1 f2 f3) (o_it2 (o_u f0 f1 f2 f3 g0 g1 g2 g3 0) (o_u f0 f1 f2 f3 g0 g1 g2 g3 1) (o_u f0 f1 f2 f3 g0 g1 g2 g3 2) (o_u f0 f1 f2 f3 g0 g1 g2 g3 3)) 2))) (by simp) A_ia_31 (by decide) rfl (by show 1 < (o_iv (o_rm (o_it3 f0 f1 f2 f3) (o_it2 (o_u f0 f1 f2 f3 g0 g1 g2 g3 0) (o_u f0 f1 f2 f3 g0 g1 g2 g3 1) (o_u f0 f1 f2 f3 g0 g1 g2 g3 2) (o_u f0 f1 f2 f3 g0 g1 g2 g3 3)) 1)).length; rw [o_ivl, o_rml]; exact Nat.lt_of_lt_of_eq (by decide) (o_stl _ _).2.symm) rfl rfl (o_ivs (o_rm (o_it3 f0 f1 f2 f3) (o_it2 (o_u f0 f1 f2 f3 g0 g1 g2 g3 0) (o_u f0 f1 f2 f3 g0 g1 g2 g3 1) (o_u f0 f1 f2 f3 g0 g1 g2 g3 2) (o_u f0 f1 f2 f3 g0 g1 g2 g3 3)) 1) 1 _) o_d10_55 rfl fun T44 h46 w45 W47 A_new => ?_
 clear A_ia_31
 replace L_op0 := L_op0.other W47 ne_op0_ia_31
 replace L_op1 := L_op1.other W47 ne_op1_ia_31
 replace A_la := A_la.other W47 ne_la_ia_31
 replace A_qa := A_qa.other W47 ne_qa_ia_31
 replace E_r_7 := E_r_7.wr W47
 replace F_r_7_start := F_r_7_start.other W47 (Or.inl ne_r_7_ia_31)
 replace F_r_7_items := F_r_7_items.other W47 (Or.inl ne_r_7_ia_31)
 replace A_ia_9 := A_ia_9.other W47 ne_ia_9_ia_31
 replace L_a22 := L_a22.other W47 ne_a22_ia_31
 replace E_r_29 := E_r_29.wr W47
 replace F_r_29_start := F_r_29_start.other W47 (Or.inl p22_ofB_2)
 replace F_r_29_items := F_r_29_items.other W47 (Or.inl p22_ofB_2)
 replace K := K.wr W47 (Or.inr nw_ia_31)
 have A_ia_31 := A_new
 clear A_new
 refine o_iinc (pc' := 59) w45 o_d10_56 rfl (y := (2 : Int32)) (by decide) (Ls' := #[.val (.int (2 : Int32)), .val (.int (4 : Int32)), .val (.ref op0), .val (.int (3 : Int32)), .val (.ref op1), .val (.ref ia_9), .val (.ref r_29), .val (.ref ia_31), .val (.int (2 : Int32))]) rfl rfl ?_
 refine o_goto w45 o_d10_59 (by decide) (pc' := 37) rfl ?_
 refine o_iload (pc' := 39) w45 o_d10_37 rfl rfl ?_
 refine o_iloadN (pc' := 40) w45 o_d10_39 rfl rfl ?_
 refine o_icmp (pc' := 43) w45 o_d10_40 rfl (by decide) (pcY := 62) rfl (fun (hb40_2 : ¬ (2 : Int32) < (4 : Int32)) => absurd hb40_2 (by decide)) (fun (hb40_2 : (2 : Int32) < (4 : Int32)) => ?_)
 refine o_aload (pc' := 45) w45 o_d10_43 rfl rfl rfl ?_
 refine o_iload (pc' := 47) w45 o_d10_45 rfl rfl ?_
 refine o_aload (pc' := 49) w45 o_d10_47 rfl rfl rfl ?_
 refine o_aload (pc' := 51) w45 o_d10_49 rfl rfl rfl ?_
 refine o_iload (pc' := 53) w45 o_d10_51 rfl rfl ?_
 refine o_ldI (pc' := 54) w45 (v := (.int (List.getD (o_it2 (o_u f0 f1 f2 f3 g0 g1 g2 g3 0) (o_u f0 f1 f2 f3 g0 g1 g2 g3 1) (o_u f0 f1 f2 f3 g0 g1 g2 g3 2) (o_u f0 f1 f2 f3 g0 g1 g2 g3 3)) 2 0))) A_ia_31 (by decide) ((o_ivg (l := (o_rm (o_it3 f0 f1 f2 f3) (o_it2 (o_u f0 f1 f2 f3 g0 g1 g2 g3 0) (o_u f0 f1 f2 f3 g0 g1 g2 g3 1) (o_u f0 f1 f2 f3 g0 g1 g2 g3 2) (o_u f0 f1 f2 f3 g0 g1 g2 g3 3)) 2)) rfl).trans (congrArg Value.int (o_rmg _ _ 2 2 (Nat.le_refl _)))) o_d10_53 rfl ?_
 refine o_ldI (pc' := 55) w45 (v := (.int (List.getD (o_it3 f0 f1 f2 f3) (List.getD (o_it2 (o_u f0 f1 f2 f3 g0 g1 g2 g3 0) (o_u f0 f1 f2 f3 g0 g1 g2 g3 1) (o_u f0 f1 f2 f3 g0 g1 g2 g3 2) (o_u f0 f1 f2 f3 g0 g1 g2 g3 3)) 2 0).toNatClampNeg 0))) A_ia_9 (o_it2r (o_u f0 f1 f2 f3 g0 g1 g2 g3 0) (o_u f0 f1 f2 f3 g0 g1 g2 g3 1) (o_u f0 f1 f2 f3 g0 g1 g2 g3 2) (o_u f0 f1 f2 f3 g0 g1 g2 g3 3) 2) (o_ivg (l := (o_it3 f0 f1 f2 f3)) rfl) o_d10_54 rfl ?_
 refine o_stI (pc' := 56) w45 (i := 2) (xv := (.int (List.getD (o_it3 f0 f1 f2 f3) (List.getD (o_it2 (o_u f0 f1 f2 f3 g0 g1 g2 g3 0) (o_u f0 f1 f2 f3 g0 g1 g2 g3 1) (o_u f0 f1 f2 f3 g0 g1 g2 g3 2) (o_u f0 f1 f2 f3 g0 g1 g2 g3 3)) 2 0).toNatClampNeg 0))) (vs' := (o_iv (o_rm (o_it3 f0 f1 f2 f3) (o_it2 (o_u f0 f1 f2 f3 g0 g1 g2 g3 0) (o_u f0 f1 f2 f3 g0 g1 g2 g3 1) (o_u f0 f1 f2 f3 g0 g1 g2 g3 2) (o_u f0 f1 f2 f3 g0 g1 g2 g3 3)) 3))) (by simp) A_ia_31 (by decide) rfl (by show 2 < (o_iv (o_rm (o_it3 f0 f1 f2 f3) (o_it2 (o_u f0 f1 f2 f3 g0 g1 g2 g3 0) (o_u f0 f1 f2 f3 g0 g1 g2 g3 1) (o_u f0 f1 f2 f3 g0 g1 g2 g3 2) (o_u f0 f1 f2 f3 g0 g1 g2 g3 3)) 2)).length; rw [o_ivl, o_rml]; exact Nat.lt_of_lt_of_eq (by decide) (o_stl _ _).2.symm) rfl rfl (o_ivs (o_rm (o_it3 f0 f1 f2 f3) (o_it2 (o_u f0 f1 f2 f3 g0 g1 g2 g3 0) (o_u f0 f1 f2 f3 g0 g1 g2 g3 1) (o_u f0 f1 f2 f3 g0 g1 g2 g3 2) (o_u f0 f1 f2 f3 g0 g1 g2 g3 3)) 2) 2 _) o_d10_55 rfl fun T48 h50 w49 W51 A_new => ?_
 clear A_ia_31
 replace L_op0 := L_op0.other W51 ne_op0_ia_31
 replace L_op1 := L_op1.other W51 ne_op1_ia_31
 replace A_la := A_la.other W51 ne_la_ia_31
 replace A_qa := A_qa.other W51 ne_qa_ia_31
 replace E_r_7 := E_r_7.wr W51
 replace F_r_7_start := F_r_7_start.other W51 (Or.inl ne_r_7_ia_31)
 replace F_r_7_items := F_r_7_items.other W51 (Or.inl ne_r_7_ia_31)
 replace A_ia_9 := A_ia_9.other W51 ne_ia_9_ia_31
 replace L_a22 := L_a22.other W51 ne_a22_ia_31
 replace E_r_29 := E_r_29.wr W51
 replace F_r_29_start := F_r_29_start.other W51 (Or.inl p22_ofB_2)
 replace F_r_29_items := F_r_29_items.other W51 (Or.inl p22_ofB_2)
 replace K := K.wr W51 (Or.inr nw_ia_31)
 have A_ia_31 := A_new
 clear A_new
 refine o_iinc (pc' := 59) w49 o_d10_56 rfl (y := (3 : Int32)) (by decide) (Ls' := #[.val (.int (2 : Int32)), .val (.int (4 : Int32)), .val (.ref op0), .val (.int (3 : Int32)), .val (.ref op1), .val (.ref ia_9), .val (.ref r_29), .val (.ref ia_31), .val (.int (3 : Int32))]) rfl rfl ?_
 refine o_goto w49 o_d10_59 (by decide) (pc' := 37) rfl ?_
 refine o_iload (pc' := 39) w49 o_d10_37 rfl rfl ?_
 refine o_iloadN (pc' := 40) w49 o_d10_39 rfl rfl ?_
 refine o_icmp (pc' := 43) w49 o_d10_40 rfl (by decide) (pcY := 62) rfl (fun (hb40_3 : ¬ (3 : Int32) < (4 : Int32)) => absurd hb40_3 (by decide)) (fun (hb40_3 : (3 : Int32) < (4 : Int32)) => ?_)
 refine o_aload (pc' := 45) w49 o_d10_43 rfl rfl rfl ?_
 refine o_iload (pc' := 47) w49 o_d10_45 rfl rfl ?_
 refine o_aload (pc' := 49) w49 o_d10_47 rfl rfl rfl ?_
 refine o_aload (pc' := 51) w49 o_d10_49 rfl rfl rfl ?_
 refine o_iload (pc' := 53) w49 o_d10_51 rfl rfl ?_
 refine o_ldI (pc' := 54) w49 (v := (.int (List.getD (o_it2 (o_u f0 f1 f2 f3 g0 g1 g2 g3 0) (o_u f0 f1 f2 f3 g0 g1 g2 g3 1) (o_u f0 f1 f2 f3 g0 g1 g2 g3 2) (o_u f0 f1 f2 f3 g0 g1 g2 g3 3)) 3 0))) A_ia_31 (by decide) ((o_ivg (l := (o_rm (o_it3 f0 f1 f2 f3) (o_it2 (o_u f0 f1 f2 f3 g0 g1 g2 g3 0) (o_u f0 f1 f2 f3 g0 g1 g2 g3 1) (o_u f0 f1 f2 f3 g0 g1 g2 g3 2) (o_u f0 f1 f2 f3 g0 g1 g2 g3 3)) 3)) rfl).trans (congrArg Value.int (o_rmg _ _ 3 3 (Nat.le_refl _)))) o_d10_53 rfl ?_
 refine o_ldI (pc' := 55) w49 (v := (.int (List.getD (o_it3 f0 f1 f2 f3) (List.getD (o_it2 (o_u f0 f1 f2 f3 g0 g1 g2 g3 0) (o_u f0 f1 f2 f3 g0 g1 g2 g3 1) (o_u f0 f1 f2 f3 g0 g1 g2 g3 2) (o_u f0 f1 f2 f3 g0 g1 g2 g3 3)) 3 0).toNatClampNeg 0))) A_ia_9 (o_it2r (o_u f0 f1 f2 f3 g0 g1 g2 g3 0) (o_u f0 f1 f2 f3 g0 g1 g2 g3 1) (o_u f0 f1 f2 f3 g0 g1 g2 g3 2) (o_u f0 f1 f2 f3 g0 g1 g2 g3 3) 3) (o_ivg (l := (o_it3 f0 f1 f2 f3)) rfl) o_d10_54 rfl ?_
 refine o_stI (pc' := 56) w49 (i := 3) (xv := (.int (List.getD (o_it3 f0 f1 f2 f3) (List.getD (o_it2 (o_u f0 f1 f2 f3 g0 g1 g2 g3 0) (o_u f0 f1 f2 f3 g0 g1 g2 g3 1) (o_u f0 f1 f2 f3 g0 g1 g2 g3 2) (o_u f0 f1 f2 f3 g0 g1 g2 g3 3)) 3 0).toNatClampNeg 0))) (vs' := (o_iv (o_rm (o_it3 f0 f1 f2 f3) (o_it2 (o_u f0 f1 f2 f3 g0 g1 g2 g3 0) (o_u f0 f1 f2 f3 g0 g1 g2 g3 1) (o_u f0 f1 f2 f3 g0 g1 g2 g3 2) (o_u f0 f1 f2 f3 g0 g1 g2 g3 3)) 4))) (by simp) A_ia_31 (by decide) rfl (by show 3 < (o_iv (o_rm (o_it3 f0 f1 f2 f3) (o_it2 (o_u f0 f1 f2 f3 g0 g1 g2 g3 0) (o_u f0 f1 f2 f3 g0 g1 g2 g3 1) (o_u f0 f1 f2 f3 g0 g1 g2 g3 2) (o_u f0 f1 f2 f3 g0 g1 g2 g3 3)) 3)).length; rw [o_ivl, o_rml]; exact Nat.lt_of_lt_of_eq (by decide) (o_stl _ _).2.symm) rfl rfl (o_ivs (o_rm (o_it3 f0 f1 f2 f3) (o_it2 (o_u f0 f1 f2 f3 g0 g1 g2 g3 0) (o_u f0 f1 f2 f3 g0 g1 g2 g3 1) (o_u f0 f1 f2 f3 g0 g1 g2 g3 2) (o_u f0 f1 f2 f3 g0 g1 g2 g3 3)) 3) 3 _) o_d10_55 rfl fun T52 h54 w53 W55 A_new => ?_
 clear A_ia_31
 replace L_op0 := L_op0.other W55 ne_op0_ia_31
 replace L_op1 := L_op1.other W55 ne_op1_ia_31
 replace A_la := A_la.other W55 ne_la_ia_31
 replace A_qa := A_qa.other W55 ne_qa_ia_31
 replace E_r_7 := E_r_7.wr W55
 replace F_r_7_start := F_r_7_start.other W55 (Or.inl ne_r_7_ia_31)
 replace F_r_7_items := F_r_7_items.other W55 (Or.inl ne_r_7_ia_31)
 replace A_ia_9 := A_ia_9.other W55 ne_ia_9_ia_31
 replace L_a22 := L_a22.other W55 ne_a22_ia_31
 replace E_r_29 := E_r_29.wr W55
 replace F_r_29_start := F_r_29_start.other W55 (Or.inl p22_ofB_2)
 replace F_r_29_items := F_r_29_items.other W55 (Or.inl p22_ofB_2)
 replace K := K.wr W55 (Or.inr nw_ia_31)
 have A_ia_31 := A_new
 clear A_new
 refine o_iinc (pc' := 59) w53 o_d10_56 rfl (y := (4 : Int32)) (by decide) (Ls' := #[.val (.int (2 : Int32)), .val (.int (4 : Int32)), .val (.ref op0), .val (.int (3 : Int32)), .val (.ref op1), .val (.ref ia_9), .val (.ref r_29), .val (.ref ia_31), .val (.int (4 : Int32))]) rfl rfl ?_
 refine o_goto w53 o_d10_59 (by decide) (pc' := 37) rfl ?_
 refine o_iload (pc' := 39) w53 o_d10_37 rfl rfl ?_
 refine o_iloadN (pc' := 40) w53 o_d10_39 rfl rfl ?_
 refine o_icmp (pc' := 43) w53 o_d10_40 rfl (by decide) (pcY := 62) rfl (fun (hb40_4 : ¬ (4 : Int32) < (4 : Int32)) => ?_) (fun (hb40_4 : (4 : Int32) < (4 : Int32)) => absurd hb40_4 (by decide))
 refine o_aload (pc' := 64) w53 o_d10_62 rfl rfl rfl ?_
 exact o_retV w53 (t := (.object "com/example/throng/throng/engine/Groups")) rfl (o_narR rfl rfl) (Or.inr (Or.inr (Or.inr (Or.inr ⟨rfl, rfl, rfl⟩)))) o_d10_64 (by decide) (by decide) (ms' := []) all0 ⟨K, r_29, sa_30, ia_31, ki_32, rfl, rfl, E_r_29, F_r_29_start, F_r_29_items, A_ia_31, nw_r_29, nw_ia_31⟩
theorem o_d11_0 : decode prog_86_method_1_code 0 = .ok (.aload_n 0, 1) := by decide +kernel
theorem o_d11_1 : decode prog_86_method_1_code 1 = .ok (.invokespecial 1, 3) := by decide +kernel
theorem o_w7 {Z a0} (hw : o_H a0 Z) : (.methodLink "com/example/throng/throng/engine/NumberedAnswers" 1 ⟨"java/lang/Object", "<init>", "()V"⟩ : Jvm.Cond).before a0 Z = true := hw _ (List.mem_of_getElem? (i := 7) rfl)
theorem o_d11_4 : decode prog_86_method_1_code 4 = .ok (.aload_n 0, 1) := by decide +kernel
theorem o_d11_5 : decode prog_86_method_1_code 5 = .ok (.iload_n 1, 1) := by decide +kernel
theorem o_d11_6 : decode prog_86_method_1_code 6 = .ok (.putfield 7, 3) := by decide +kernel
theorem o_w10 {Z a0} (hw : o_H a0 Z) : (.fieldLink "com/example/throng/throng/engine/NumberedAnswers" 7 "com/example/throng/throng/engine/NumberedAnswers" "questions" "I" : Jvm.Cond).before a0 Z = true := hw _ (List.mem_of_getElem? (i := 10) rfl)
theorem o_w11 {Z a0} (hw : o_H a0 Z) : (.laysFinal "com/example/throng/throng/engine/NumberedAnswers" "com/example/throng/throng/engine/NumberedAnswers" "questions" "I" : Jvm.Cond).before a0 Z = true := hw _ (List.mem_of_getElem? (i := 11) rfl)
theorem o_w2 {Z a0} (hw : o_H a0 Z) : (.instantiable "com/example/throng/throng/engine/NumberedAnswers" 8 : Jvm.Cond).before a0 Z = true := hw _ (List.mem_of_getElem? (i := 2) rfl)
theorem o_w13 {Z a0} (hw : o_H a0 Z) : (.laysFinal "com/example/throng/throng/engine/NumberedAnswers" "com/example/throng/throng/engine/NumberedAnswers" "labels" "I" : Jvm.Cond).before a0 Z = true := hw _ (List.mem_of_getElem? (i := 13) rfl)
theorem o_w15 {Z a0} (hw : o_H a0 Z) : (.laysFinal "com/example/throng/throng/engine/NumberedAnswers" "com/example/throng/throng/engine/NumberedAnswers" "workers" "I" : Jvm.Cond).before a0 Z = true := hw _ (List.mem_of_getElem? (i := 15) rfl)
theorem o_w17 {Z a0} (hw : o_H a0 Z) : (.laysFinal "com/example/throng/throng/engine/NumberedAnswers" "com/example/throng/throng/engine/NumberedAnswers" "question" "[I" : Jvm.Cond).before a0 Z = true := hw _ (List.mem_of_getElem? (i := 17) rfl)
theorem o_w19 {Z a0} (hw : o_H a0 Z) : (.laysFinal "com/example/throng/throng/engine/NumberedAnswers" "com/example/throng/throng/engine/NumberedAnswers" "worker" "[I" : Jvm.Cond).before a0 Z = true := hw _ (List.mem_of_getElem? (i := 19) rfl)
theorem o_w21 {Z a0} (hw : o_H a0 Z) : (.laysFinal "com/example/throng/throng/engine/NumberedAnswers" "com/example/throng/throng/engine/NumberedAnswers" "label" "[I" : Jvm.Cond).before a0 Z = true := hw _ (List.mem_of_getElem? (i := 21) rfl)
theorem o_w79 {Z a0} (hw : o_H a0 Z) : (.laysFinal "com/example/throng/throng/engine/NumberedAnswers" "com/example/throng/throng/engine/NumberedAnswers" "byQuestion" "[I" : Jvm.Cond).before a0 Z = true := hw _ (List.mem_of_getElem? (i := 79) rfl)
theorem o_w86 {Z a0} (hw : o_H a0 Z) : (.laysFinal "com/example/throng/throng/engine/NumberedAnswers" "com/example/throng/throng/engine/NumberedAnswers" "start" "[I" : Jvm.Cond).before a0 Z = true := hw _ (List.mem_of_getElem? (i := 86) rfl)
theorem o_d11_9 : decode prog_86_method_1_code 9 = .ok (.aload_n 0, 1) := by decide +kernel
theorem o_d11_10 : decode prog_86_method_1_code 10 = .ok (.iload_n 2, 1) := by decide +kernel
theorem o_d11_11 : decode prog_86_method_1_code 11 = .ok (.putfield 13, 3) := by decide +kernel
theorem o_w12 {Z a0} (hw : o_H a0 Z) : (.fieldLink "com/example/throng/throng/engine/NumberedAnswers" 13 "com/example/throng/throng/engine/NumberedAnswers" "labels" "I" : Jvm.Cond).before a0 Z = true := hw _ (List.mem_of_getElem? (i := 12) rfl)
theorem o_d11_14 : decode prog_86_method_1_code 14 = .ok (.aload_n 0, 1) := by decide +kernel
theorem o_d11_15 : decode prog_86_method_1_code 15 = .ok (.iload_n 3, 1) := by decide +kernel
theorem o_d11_16 : decode prog_86_method_1_code 16 = .ok (.putfield 16, 3) := by decide +kernel
theorem o_w14 {Z a0} (hw : o_H a0 Z) : (.fieldLink "com/example/throng/throng/engine/NumberedAnswers" 16 "com/example/throng/throng/engine/NumberedAnswers" "workers" "I" : Jvm.Cond).before a0 Z = true := hw _ (List.mem_of_getElem? (i := 14) rfl)
theorem o_d11_19 : decode prog_86_method_1_code 19 = .ok (.aload_n 0, 1) := by decide +kernel
theorem o_d11_20 : decode prog_86_method_1_code 20 = .ok (.aload 4, 2) := by decide +kernel
theorem o_d11_22 : decode prog_86_method_1_code 22 = .ok (.putfield 19, 3) := by decide +kernel
theorem o_w16 {Z a0} (hw : o_H a0 Z) : (.fieldLink "com/example/throng/throng/engine/NumberedAnswers" 19 "com/example/throng/throng/engine/NumberedAnswers" "question" "[I" : Jvm.Cond).before a0 Z = true := hw _ (List.mem_of_getElem? (i := 16) rfl)
theorem o_d11_25 : decode prog_86_method_1_code 25 = .ok (.aload_n 0, 1) := by decide +kernel
theorem o_d11_26 : decode prog_86_method_1_code 26 = .ok (.aload 5, 2) := by decide +kernel
theorem o_d11_28 : decode prog_86_method_1_code 28 = .ok (.putfield 23, 3) := by decide +kernel
theorem o_w18 {Z a0} (hw : o_H a0 Z) : (.fieldLink "com/example/throng/throng/engine/NumberedAnswers" 23 "com/example/throng/throng/engine/NumberedAnswers" "worker" "[I" : Jvm.Cond).before a0 Z = true := hw _ (List.mem_of_getElem? (i := 18) rfl)
theorem o_d11_31 : decode prog_86_method_1_code 31 = .ok (.aload_n 0, 1) := by decide +kernel
theorem o_d11_32 : decode prog_86_method_1_code 32 = .ok (.aload 6, 2) := by decide +kernel
theorem o_d11_34 : decode prog_86_method_1_code 34 = .ok (.putfield 26, 3) := by decide +kernel
theorem o_w20 {Z a0} (hw : o_H a0 Z) : (.fieldLink "com/example/throng/throng/engine/NumberedAnswers" 26 "com/example/throng/throng/engine/NumberedAnswers" "label" "[I" : Jvm.Cond).before a0 Z = true := hw _ (List.mem_of_getElem? (i := 20) rfl)
theorem o_d11_37 : decode prog_86_method_1_code 37 = .ok (.iload_n 1, 1) := by decide +kernel
theorem o_d11_38 : decode prog_86_method_1_code 38 = .ok (.aload 6, 2) := by decide +kernel
theorem o_d11_40 : decode prog_86_method_1_code 40 = .ok (.arraylength, 1) := by decide +kernel
theorem o_d11_41 : decode prog_86_method_1_code 41 = .ok (.aload 4, 2) := by decide +kernel
theorem o_d11_43 : decode prog_86_method_1_code 43 = .ok (.invokedynamic 29, 5) := by decide +kernel
theorem o_w22 {Z a0} (hw : o_H a0 Z) : (.lambdaSite ⟨"com/example/throng/throng/engine/NumberedAnswers", "<init>", "(III[I[I[I)V"⟩ 43 29 (Jvm.Lambda.Shape.mk "java/util/function/IntUnaryOperator" "applyAsInt" (Jvm.ClassFile.MethodDescriptor.mk ([Jvm.ClassFile.FieldType.int] : List Jvm.ClassFile.FieldType) (Option.some Jvm.ClassFile.FieldType.int)) ([(Jvm.ClassFile.FieldType.array Jvm.ClassFile.FieldType.int)] : List Jvm.ClassFile.FieldType) 6 "com/example/throng/throng/engine/NumberedAnswers" "lambda$new$0" (Jvm.ClassFile.MethodDescriptor.mk ([(Jvm.ClassFile.FieldType.array Jvm.ClassFile.FieldType.int), Jvm.ClassFile.FieldType.int] : List Jvm.ClassFile.FieldType) (Option.some Jvm.ClassFile.FieldType.int)) false (Jvm.ClassFile.MethodDescriptor.mk ([Jvm.ClassFile.FieldType.int] : List Jvm.ClassFile.FieldType) (Option.some Jvm.ClassFile.FieldType.int))) : Jvm.Cond).before a0 Z = true := hw _ (List.mem_of_getElem? (i := 22) rfl)
theorem o_d11_48 : decode prog_86_method_1_code 48 = .ok (.iload_n 2, 1) := by decide +kernel
theorem o_d11_49 : decode prog_86_method_1_code 49 = .ok (.aload 6, 2) := by decide +kernel
theorem o_d11_51 : decode prog_86_method_1_code 51 = .ok (.invokedynamic 33, 5) := by decide +kernel
theorem o_w26 {Z a0} (hw : o_H a0 Z) : (.lambdaSite ⟨"com/example/throng/throng/engine/NumberedAnswers", "<init>", "(III[I[I[I)V"⟩ 51 33 (Jvm.Lambda.Shape.mk "java/util/function/IntUnaryOperator" "applyAsInt" (Jvm.ClassFile.MethodDescriptor.mk ([Jvm.ClassFile.FieldType.int] : List Jvm.ClassFile.FieldType) (Option.some Jvm.ClassFile.FieldType.int)) ([(Jvm.ClassFile.FieldType.array Jvm.ClassFile.FieldType.int)] : List Jvm.ClassFile.FieldType) 6 "com/example/throng/throng/engine/NumberedAnswers" "lambda$new$1" (Jvm.ClassFile.MethodDescriptor.mk ([(Jvm.ClassFile.FieldType.array Jvm.ClassFile.FieldType.int), Jvm.ClassFile.FieldType.int] : List Jvm.ClassFile.FieldType) (Option.some Jvm.ClassFile.FieldType.int)) false (Jvm.ClassFile.MethodDescriptor.mk ([Jvm.ClassFile.FieldType.int] : List Jvm.ClassFile.FieldType) (Option.some Jvm.ClassFile.FieldType.int))) : Jvm.Cond).before a0 Z = true := hw _ (List.mem_of_getElem? (i := 26) rfl)
theorem o_d11_56 : decode prog_86_method_1_code 56 = .ok (.invokestatic 34, 3) := by decide +kernel
theorem o_w30 {Z a0} (hw : o_H a0 Z) : (.code ⟨"com/example/throng/throng/engine/Groups", "of", "(IILjava/util/function/IntUnaryOperator;ILjava/util/function/IntUnaryOperator;)Lcom/example/throng/throng/engine/Groups;"⟩ prog_70_method_3_code 9 (Option.some (Jvm.ClassFile.FieldType.object "com/example/throng/throng/engine/Groups")) : Jvm.Cond).before a0 Z = true := hw _ (List.mem_of_getElem? (i := 30) rfl)
theorem o_pd9 : parseMethodDescriptor "(IILjava/util/function/IntUnaryOperator;ILjava/util/function/IntUnaryOperator;)Lcom/example/throng/throng/engine/Groups;" = some ⟨[.int, .int, (.object "java/util/function/IntUnaryOperator"), .int, (.object "java/util/function/IntUnaryOperator")], some (.object "com/example/throng/throng/engine/Groups")⟩ := by decide +kernel
theorem o_w27 {Z a0} (hw : o_H a0 Z) : (.methodLink "com/example/throng/throng/engine/NumberedAnswers" 34 ⟨"com/example/throng/throng/engine/Groups", "of", "(IILjava/util/function/IntUnaryOperator;ILjava/util/function/IntUnaryOperator;)Lcom/example/throng/throng/engine/Groups;"⟩ : Jvm.Cond).before a0 Z = true := hw _ (List.mem_of_getElem? (i := 27) rfl)
theorem o_w28 {Z a0} (hw : o_H a0 Z) : (.static ⟨"com/example/throng/throng/engine/Groups", "of", "(IILjava/util/function/IntUnaryOperator;ILjava/util/function/IntUnaryOperator;)Lcom/example/throng/throng/engine/Groups;"⟩ : Jvm.Cond).before a0 Z = true := hw _ (List.mem_of_getElem? (i := 28) rfl)
theorem o_d11_59 : decode prog_86_method_1_code 59 = .ok (.astore 7, 2) := by decide +kernel
theorem o_d11_61 : decode prog_86_method_1_code 61 = .ok (.aload_n 0, 1) := by decide +kernel
theorem o_d11_62 : decode prog_86_method_1_code 62 = .ok (.aload 7, 2) := by decide +kernel
theorem o_d11_64 : decode prog_86_method_1_code 64 = .ok (.invokevirtual 40, 3) := by decide +kernel
theorem o_w77 {Z a0} (hw : o_H a0 Z) : (.methodLink "com/example/throng/throng/engine/NumberedAnswers" 40 ⟨"com/example/throng/throng/engine/Groups", "items", "()[I"⟩ : Jvm.Cond).before a0 Z = true := hw _ (List.mem_of_getElem? (i := 77) rfl)
theorem o_d11_67 : decode prog_86_method_1_code 67 = .ok (.putfield 44, 3) := by decide +kernel
theorem o_w78 {Z a0} (hw : o_H a0 Z) : (.fieldLink "com/example/throng/throng/engine/NumberedAnswers" 44 "com/example/throng/throng/engine/NumberedAnswers" "byQuestion" "[I" : Jvm.Cond).before a0 Z = true := hw _ (List.mem_of_getElem? (i := 78) rfl)
theorem o_d11_70 : decode prog_86_method_1_code 70 = .ok (.aload_n 0, 1) := by decide +kernel
theorem o_d11_71 : decode prog_86_method_1_code 71 = .ok (.aload 7, 2) := by decide +kernel
theorem o_d11_73 : decode prog_86_method_1_code 73 = .ok (.invokevirtual 47, 3) := by decide +kernel
theorem o_w84 {Z a0} (hw : o_H a0 Z) : (.code ⟨"com/example/throng/throng/engine/Groups", "start", "()[I"⟩ prog_70_method_7_code 1 (Option.some (Jvm.ClassFile.FieldType.array Jvm.ClassFile.FieldType.int)) : Jvm.Cond).before a0 Z = true := hw _ (List.mem_of_getElem? (i := 84) rfl)
theorem o_w80 {Z a0} (hw : o_H a0 Z) : (.methodLink "com/example/throng/throng/engine/NumberedAnswers" 47 ⟨"com/example/throng/throng/engine/Groups", "start", "()[I"⟩ : Jvm.Cond).before a0 Z = true := hw _ (List.mem_of_getElem? (i := 80) rfl)
theorem o_w81 {Z a0} (hw : o_H a0 Z) : (.declares ⟨"com/example/throng/throng/engine/Groups", "start", "()[I"⟩ : Jvm.Cond).before a0 Z = true := hw _ (List.mem_of_getElem? (i := 81) rfl)
theorem o_w83 {Z a0} (hw : o_H a0 Z) : (.selects "com/example/throng/throng/engine/Groups" ⟨"com/example/throng/throng/engine/Groups", "start", "()[I"⟩ ⟨"com/example/throng/throng/engine/Groups", "start", "()[I"⟩ : Jvm.Cond).before a0 Z = true := hw _ (List.mem_of_getElem? (i := 83) rfl)
theorem o_w82 {Z a0} (hw : o_H a0 Z) : (.instanceMethod ⟨"com/example/throng/throng/engine/Groups", "start", "()[I"⟩ : Jvm.Cond).before a0 Z = true := hw _ (List.mem_of_getElem? (i := 82) rfl)
theorem o_d11_76 : decode prog_86_method_1_code 76 = .ok (.putfield 50, 3) := by decide +kernel
theorem o_w85 {Z a0} (hw : o_H a0 Z) : (.fieldLink "com/example/throng/throng/engine/NumberedAnswers" 50 "com/example/throng/throng/engine/NumberedAnswers" "start" "[I" : Jvm.Cond).before a0 Z = true := hw _ (List.mem_of_getElem? (i := 85) rfl)
theorem o_d11_79 : decode prog_86_method_1_code 79 = .ok (.return_, 1) := by decide +kernel
theorem o_ef_naI (m : MethodId) (a1 : Addr) (qa : Addr) (wa : Addr) (la : Addr) : entryFrame m #[(.ref a1), (.int (2 : Int32)), (.int (3 : Int32)), (.int (1 : Int32)), (.ref qa), (.ref wa), (.ref la)] 8 = mkF m 0 #[.val (.ref a1), .val (.int (2 : Int32)), .val (.int (3 : Int32)), .val (.int (1 : Int32)), .val (.ref qa), .val (.ref wa), .val (.ref la), .unset] [] := by first | (simp [entryFrame, mkF, argsToLocals, Value.category]; done) | rfl
theorem o_pf11 : plainFor (⟨"com/example/throng/throng/engine/NumberedAnswers", "<init>", "(III[I[I[I)V"⟩ : MethodName) = true := by first | exact plainFor_of_name (by first | (simp [plainName, overriddenIn]; done) | decide +kernel) | decide +kernel
def o_Q_naI (Z : State) (h0 : Heap) (a1 : Addr) (qa : Addr) (wa : Addr) (la : Addr) (v0 : Value) (v1 : Value) (v2 : Value) (v3 : Value) (v4 : Value) (v5 : Value) (v6 : Value) (v7 : Value) (kl : ClassId) (kq : ClassId) (f0 : Fin 3) (f1 : Fin 3) (f2 : Fin 3) (f3 : Fin 3) (g0 : Fin 2) (g1 : Fin 2) (g2 : Fin 2) (g3 : Fin 2) (v : Option Value) (h : Heap) (ms : List Addr) : Prop := (Keep h0 h [a1]) ∧ (∃ (bq : Addr) (kb : ClassId), (ms = []) ∧ (v = none) ∧ (Exa Z h a1 "com/example/throng/throng/engine/NumberedAnswers") ∧ (Fld Z h a1 "com/example/throng/throng/engine/NumberedAnswers" "question" "[I" (.ref qa)) ∧ (Fld Z h a1 "com/example/throng/throng/engine/NumberedAnswers" "label" "[I" (.ref la)) ∧ (Fld Z h a1 "com/example/throng/throng/engine/NumberedAnswers" "byQuestion" "[I" (.ref bq)) ∧ (Arv Z h bq kb .int (4 : Int32) (o_iv (o_bq f0 f1 f2 f3 g0 g1 g2 g3)) (.int 0)) ∧ (h0.size ≤ bq))
theorem o_ct_naI (l : Launch) (Z : State) (a0 : Array Value) (hw : o_H a0 Z) (EL : List (String × Nat)) (hE : EW Z a0 EL) (n0 : Nat) (ws : List Jvm.Cond) (h0 : Heap) (O : Old Z n0 h0) (a1 : Addr) (qa : Addr) (wa : Addr) (la : Addr) (v0 : Value) (v1 : Value) (v2 : Value) (v3 : Value) (v4 : Value) (v5 : Value) (v6 : Value) (v7 : Value) (kl : ClassId) (kq : ClassId) (f0 : Fin 3) (f1 : Fin 3) (f2 : Fin 3) (f3 : Fin 3) (g0 : Fin 2) (g1 : Fin 2) (g2 : Fin 2) (g3 : Fin 2) (E_a1 : Exa Z h0 a1 "com/example/throng/throng/engine/NumberedAnswers") (F_a1_questions : Fld Z h0 a1 "com/example/throng/throng/engine/NumberedAnswers" "questions" "I" v0) (F_a1_labels : Fld Z h0 a1 "com/example/throng/throng/engine/NumberedAnswers" "labels" "I" v1) (F_a1_workers : Fld Z h0 a1 "com/example/throng/throng/engine/NumberedAnswers" "workers" "I" v2) (F_a1_question : Fld Z h0 a1 "com/example/throng/throng/engine/NumberedAnswers" "question" "[I" v3) (F_a1_worker : Fld Z h0 a1 "com/example/throng/throng/engine/NumberedAnswers" "worker" "[I" v4) (F_a1_label : Fld Z h0 a1 "com/example/throng/throng/engine/NumberedAnswers" "label" "[I" v5) (F_a1_byQuestion : Fld Z h0 a1 "com/example/throng/throng/engine/NumberedAnswers" "byQuestion" "[I" v6) (F_a1_start : Fld Z h0 a1 "com/example/throng/throng/engine/NumberedAnswers" "start" "[I" v7) (A_la : Arv Z h0 la kl .int (4 : Int32) [(.int (Int32.ofNat f0.val)), (.int (Int32.ofNat f1.val)), (.int (Int32.ofNat f2.val)), (.int (Int32.ofNat f3.val))] (.int 0)) (A_qa : Arv Z h0 qa kq .int (4 : Int32) [(.int (Int32.ofNat g0.val)), (.int (Int32.ofNat g1.val)), (.int (Int32.ofNat g2.val)), (.int (Int32.ofNat g3.val))] (.int 0)) (hn1 : la ≠ a1) (hn2 : qa ≠ a1) :
    o_Ct l Z EL n0 (⟨"com/example/throng/throng/engine/NumberedAnswers", "<init>", "(III[I[I[I)V"⟩ : MethodName) prog_86_method_1_code 8 none ws ({ frames := 6, cells := 11, slots := 28, locals := 3096 } : Room) #[(.ref a1), (.int (2 : Int32)), (.int (3 : Int32)), (.int (1 : Int32)), (.ref qa), (.ref wa), (.ref la)] h0 [a1] (o_Q_naI Z h0 a1 qa wa la v0 v1 v2 v3 v4 v5 v6 v7 kl kq f0 f1 f2 f3 g0 g1 g2 g3) := by
 refine o_enterN (a0 := a0) o_pf11 hE O fun p e s m below meth c T0 w0 hnm => ?_
 rw [o_ef_naI m a1 qa wa la]
 have K : Keep h0 h0 [a1] := Keep.refl _ _
 refine o_aloadN (pc' := 1) w0 o_d11_0 rfl rfl rfl ?_
 refine o_initO (pc' := 4) w0 (o_w7 hw) (o_w8 hw) (o_w9 hw) rfl o_d11_1 rfl (by decide) (W := 0) (Nat.le_of_eq rfl) (by decide) fun T1 w2 => ?_
 refine o_aloadN (pc' := 5) w2 o_d11_4 rfl rfl rfl ?_
 refine o_iloadN (pc' := 6) w2 o_d11_5 rfl rfl ?_
 refine o_putF (pc' := 9) w2 (host := "") (Or.inl (o_w10 hw)) Via.refl (by simp) F_a1_questions E_a1 (Or.inr ⟨(o_w11 hw), rfl, rfl⟩) (o_w2 hw) (ty := .int) (by decide) rfl rfl o_d11_6 rfl fun T3 h5 w4 W6 => ?_
 replace F_a1_questions := F_a1_questions.same W6
 replace E_a1 := E_a1.wr W6
 replace F_a1_labels := F_a1_labels.other W6 (Or.inr (slot_ne (Or.inr (o_w13 hw)) (Or.inr (o_w11 hw)) (by decide) (t := .int) (t' := .int) (by decide) (by decide)))
 replace F_a1_workers := F_a1_workers.other W6 (Or.inr (slot_ne (Or.inr (o_w15 hw)) (Or.inr (o_w11 hw)) (by decide) (t := .int) (t' := .int) (by decide) (by decide)))
 replace F_a1_question := F_a1_question.other W6 (Or.inr (slot_ne (Or.inr (o_w17 hw)) (Or.inr (o_w11 hw)) (by decide) (t := (.array .int)) (t' := .int) (by decide) (by decide)))
 replace F_a1_worker := F_a1_worker.other W6 (Or.inr (slot_ne (Or.inr (o_w19 hw)) (Or.inr (o_w11 hw)) (by decide) (t := (.array .int)) (t' := .int) (by decide) (by decide)))
 replace F_a1_label := F_a1_label.other W6 (Or.inr (slot_ne (Or.inr (o_w21 hw)) (Or.inr (o_w11 hw)) (by decide) (t := (.array .int)) (t' := .int) (by decide) (by decide)))
 replace F_a1_byQuestion := F_a1_byQuestion.other W6 (Or.inr (slot_ne (Or.inr (o_w79 hw)) (Or.inr (o_w11 hw)) (by decide) (t := (.array .int)) (t' := .int) (by decide) (by decide)))
 replace F_a1_start := F_a1_start.other W6 (Or.inr (slot_ne (Or.inr (o_w86 hw)) (Or.inr (o_w11 hw)) (by decide) (t := (.array .int)) (t' := .int) (by decide) (by decide)))
 replace A_la := A_la.other W6 hn1
 replace A_qa := A_qa.other W6 hn2
 replace K := K.wr W6 (Or.inl (by simp))
 refine o_aloadN (pc' := 10) w4 o_d11_9 rfl rfl rfl ?_
 refine o_iloadN (pc' := 11) w4 o_d11_10 rfl rfl ?_
 refine o_putF (pc' := 14) w4 (host := "") (Or.inl (o_w12 hw)) Via.refl (by simp) F_a1_labels E_a1 (Or.inr ⟨(o_w13 hw), rfl, rfl⟩) (o_w2 hw) (ty := .int) (by decide) rfl rfl o_d11_11 rfl fun T7 h9 w8 W10 => ?_
 replace F_a1_labels := F_a1_labels.same W10
 replace E_a1 := E_a1.wr W10
 replace F_a1_questions := F_a1_questions.other W10 (Or.inr (slot_ne (Or.inr (o_w11 hw)) (Or.inr (o_w13 hw)) (by decide) (t := .int) (t' := .int) (by decide) (by decide)))
 replace F_a1_workers := F_a1_workers.other W10 (Or.inr (slot_ne (Or.inr (o_w15 hw)) (Or.inr (o_w13 hw)) (by decide) (t := .int) (t' := .int) (by decide) (by decide)))
 replace F_a1_question := F_a1_question.other W10 (Or.inr (slot_ne (Or.inr (o_w17 hw)) (Or.inr (o_w13 hw)) (by decide) (t := (.array .int)) (t' := .int) (by decide) (by decide)))
 replace F_a1_worker := F_a1_worker.other W10 (Or.inr (slot_ne (Or.inr (o_w19 hw)) (Or.inr (o_w13 hw)) (by decide) (t := (.array .int)) (t' := .int) (by decide) (by decide)))
 replace F_a1_label := F_a1_label.other W10 (Or.inr (slot_ne (Or.inr (o_w21 hw)) (Or.inr (o_w13 hw)) (by decide) (t := (.array .int)) (t' := .int) (by decide) (by decide)))
 replace F_a1_byQuestion := F_a1_byQuestion.other W10 (Or.inr (slot_ne (Or.inr (o_w79 hw)) (Or.inr (o_w13 hw)) (by decide) (t := (.array .int)) (t' := .int) (by decide) (by decide)))
 replace F_a1_start := F_a1_start.other W10 (Or.inr (slot_ne (Or.inr (o_w86 hw)) (Or.inr (o_w13 hw)) (by decide) (t := (.array .int)) (t' := .int) (by decide) (by decide)))
 replace A_la := A_la.other W10 hn1
 replace A_qa := A_qa.other W10 hn2
 replace K := K.wr W10 (Or.inl (by simp))
 refine o_aloadN (pc' := 15) w8 o_d11_14 rfl rfl rfl ?_
 refine o_iloadN (pc' := 16) w8 o_d11_15 rfl rfl ?_
 refine o_putF (pc' := 19) w8 (host := "") (Or.inl (o_w14 hw)) Via.refl (by simp) F_a1_workers E_a1 (Or.inr ⟨(o_w15 hw), rfl, rfl⟩) (o_w2 hw) (ty := .int) (by decide) rfl rfl o_d11_16 rfl fun T11 h13 w12 W14 => ?_
 replace F_a1_workers := F_a1_workers.same W14
 replace E_a1 := E_a1.wr W14
 replace F_a1_questions := F_a1_questions.other W14 (Or.inr (slot_ne (Or.inr (o_w11 hw)) (Or.inr (o_w15 hw)) (by decide) (t := .int) (t' := .int) (by decide) (by decide)))
 replace F_a1_labels := F_a1_labels.other W14 (Or.inr (slot_ne (Or.inr (o_w13 hw)) (Or.inr (o_w15 hw)) (by decide) (t := .int) (t' := .int) (by decide) (by decide)))
 replace F_a1_question := F_a1_question.other W14 (Or.inr (slot_ne (Or.inr (o_w17 hw)) (Or.inr (o_w15 hw)) (by decide) (t := (.array .int)) (t' := .int) (by decide) (by decide)))
 replace F_a1_worker := F_a1_worker.other W14 (Or.inr (slot_ne (Or.inr (o_w19 hw)) (Or.inr (o_w15 hw)) (by decide) (t := (.array .int)) (t' := .int) (by decide) (by decide)))
 replace F_a1_label := F_a1_label.other W14 (Or.inr (slot_ne (Or.inr (o_w21 hw)) (Or.inr (o_w15 hw)) (by decide) (t := (.array .int)) (t' := .int) (by decide) (by decide)))
 replace F_a1_byQuestion := F_a1_byQuestion.other W14 (Or.inr (slot_ne (Or.inr (o_w79 hw)) (Or.inr (o_w15 hw)) (by decide) (t := (.array .int)) (t' := .int) (by decide) (by decide)))
 replace F_a1_start := F_a1_start.other W14 (Or.inr (slot_ne (Or.inr (o_w86 hw)) (Or.inr (o_w15 hw)) (by decide) (t := (.array .int)) (t' := .int) (by decide) (by decide)))
 replace A_la := A_la.other W14 hn1
 replace A_qa := A_qa.other W14 hn2
 replace K := K.wr W14 (Or.inl (by simp))
 refine o_aloadN (pc' := 20) w12 o_d11_19 rfl rfl rfl ?_
 refine o_aload (pc' := 22) w12 o_d11_20 rfl rfl rfl ?_
 refine o_putF (pc' := 25) w12 (host := "") (Or.inl (o_w16 hw)) Via.refl (by simp) F_a1_question E_a1 (Or.inr ⟨(o_w17 hw), rfl, rfl⟩) (o_w2 hw) (ty := (.array .int)) (by decide) rfl rfl o_d11_22 rfl fun T15 h17 w16 W18 => ?_
 replace F_a1_question := F_a1_question.same W18
 replace E_a1 := E_a1.wr W18
 replace F_a1_questions := F_a1_questions.other W18 (Or.inr (slot_ne (Or.inr (o_w11 hw)) (Or.inr (o_w17 hw)) (by decide) (t := .int) (t' := (.array .int)) (by decide) (by decide)))
 replace F_a1_labels := F_a1_labels.other W18 (Or.inr (slot_ne (Or.inr (o_w13 hw)) (Or.inr (o_w17 hw)) (by decide) (t := .int) (t' := (.array .int)) (by decide) (by decide)))
 replace F_a1_workers := F_a1_workers.other W18 (Or.inr (slot_ne (Or.inr (o_w15 hw)) (Or.inr (o_w17 hw)) (by decide) (t := .int) (t' := (.array .int)) (by decide) (by decide)))
 replace F_a1_worker := F_a1_worker.other W18 (Or.inr (slot_ne (Or.inr (o_w19 hw)) (Or.inr (o_w17 hw)) (by decide) (t := (.array .int)) (t' := (.array .int)) (by decide) (by decide)))
 replace F_a1_label := F_a1_label.other W18 (Or.inr (slot_ne (Or.inr (o_w21 hw)) (Or.inr (o_w17 hw)) (by decide) (t := (.array .int)) (t' := (.array .int)) (by decide) (by decide)))
 replace F_a1_byQuestion := F_a1_byQuestion.other W18 (Or.inr (slot_ne (Or.inr (o_w79 hw)) (Or.inr (o_w17 hw)) (by decide) (t := (.array .int)) (t' := (.array .int)) (by decide) (by decide)))
 replace F_a1_start := F_a1_start.other W18 (Or.inr (slot_ne (Or.inr (o_w86 hw)) (Or.inr (o_w17 hw)) (by decide) (t := (.array .int)) (t' := (.array .int)) (by decide) (by decide)))
 replace A_la := A_la.other W18 hn1
 replace A_qa := A_qa.other W18 hn2
 replace K := K.wr W18 (Or.inl (by simp))
 refine o_aloadN (pc' := 26) w16 o_d11_25 rfl rfl rfl ?_
 refine o_aload (pc' := 28) w16 o_d11_26 rfl rfl rfl ?_
 refine o_putF (pc' := 31) w16 (host := "") (Or.inl (o_w18 hw)) Via.refl (by simp) F_a1_worker E_a1 (Or.inr ⟨(o_w19 hw), rfl, rfl⟩) (o_w2 hw) (ty := (.array .int)) (by decide) rfl rfl o_d11_28 rfl fun T19 h21 w20 W22 => ?_
 replace F_a1_worker := F_a1_worker.same W22
 replace E_a1 := E_a1.wr W22
 replace F_a1_questions := F_a1_questions.other W22 (Or.inr (slot_ne (Or.inr (o_w11 hw)) (Or.inr (o_w19 hw)) (by decide) (t := .int) (t' := (.array .int)) (by decide) (by decide)))
 replace F_a1_labels := F_a1_labels.other W22 (Or.inr (slot_ne (Or.inr (o_w13 hw)) (Or.inr (o_w19 hw)) (by decide) (t := .int) (t' := (.array .int)) (by decide) (by decide)))
 replace F_a1_workers := F_a1_workers.other W22 (Or.inr (slot_ne (Or.inr (o_w15 hw)) (Or.inr (o_w19 hw)) (by decide) (t := .int) (t' := (.array .int)) (by decide) (by decide)))
 replace F_a1_question := F_a1_question.other W22 (Or.inr (slot_ne (Or.inr (o_w17 hw)) (Or.inr (o_w19 hw)) (by decide) (t := (.array .int)) (t' := (.array .int)) (by decide) (by decide)))
 replace F_a1_label := F_a1_label.other W22 (Or.inr (slot_ne (Or.inr (o_w21 hw)) (Or.inr (o_w19 hw)) (by decide) (t := (.array .int)) (t' := (.array .int)) (by decide) (by decide)))
 replace F_a1_byQuestion := F_a1_byQuestion.other W22 (Or.inr (slot_ne (Or.inr (o_w79 hw)) (Or.inr (o_w19 hw)) (by decide) (t := (.array .int)) (t' := (.array .int)) (by decide) (by decide)))
 replace F_a1_start := F_a1_start.other W22 (Or.inr (slot_ne (Or.inr (o_w86 hw)) (Or.inr (o_w19 hw)) (by decide) (t := (.array .int)) (t' := (.array .int)) (by decide) (by decide)))
 replace A_la := A_la.other W22 hn1
 replace A_qa := A_qa.other W22 hn2
 replace K := K.wr W22 (Or.inl (by simp))
 refine o_aloadN (pc' := 32) w20 o_d11_31 rfl rfl rfl ?_
 refine o_aload (pc' := 34) w20 o_d11_32 rfl rfl rfl ?_
 refine o_putF (pc' := 37) w20 (host := "") (Or.inl (o_w20 hw)) Via.refl (by simp) F_a1_label E_a1 (Or.inr ⟨(o_w21 hw), rfl, rfl⟩) (o_w2 hw) (ty := (.array .int)) (by decide) rfl rfl o_d11_34 rfl fun T23 h25 w24 W26 => ?_
 replace F_a1_label := F_a1_label.same W26
 replace E_a1 := E_a1.wr W26
 replace F_a1_questions := F_a1_questions.other W26 (Or.inr (slot_ne (Or.inr (o_w11 hw)) (Or.inr (o_w21 hw)) (by decide) (t := .int) (t' := (.array .int)) (by decide) (by decide)))
 replace F_a1_labels := F_a1_labels.other W26 (Or.inr (slot_ne (Or.inr (o_w13 hw)) (Or.inr (o_w21 hw)) (by decide) (t := .int) (t' := (.array .int)) (by decide) (by decide)))
 replace F_a1_workers := F_a1_workers.other W26 (Or.inr (slot_ne (Or.inr (o_w15 hw)) (Or.inr (o_w21 hw)) (by decide) (t := .int) (t' := (.array .int)) (by decide) (by decide)))
 replace F_a1_question := F_a1_question.other W26 (Or.inr (slot_ne (Or.inr (o_w17 hw)) (Or.inr (o_w21 hw)) (by decide) (t := (.array .int)) (t' := (.array .int)) (by decide) (by decide)))
 replace F_a1_worker := F_a1_worker.other W26 (Or.inr (slot_ne (Or.inr (o_w19 hw)) (Or.inr (o_w21 hw)) (by decide) (t := (.array .int)) (t' := (.array .int)) (by decide) (by decide)))
 replace F_a1_byQuestion := F_a1_byQuestion.other W26 (Or.inr (slot_ne (Or.inr (o_w79 hw)) (Or.inr (o_w21 hw)) (by decide) (t := (.array .int)) (t' := (.array .int)) (by decide) (by decide)))
 replace F_a1_start := F_a1_start.other W26 (Or.inr (slot_ne (Or.inr (o_w86 hw)) (Or.inr (o_w21 hw)) (by decide) (t := (.array .int)) (t' := (.array .int)) (by decide) (by decide)))
 replace A_la := A_la.other W26 hn1
 replace A_qa := A_qa.other W26 hn2
 replace K := K.wr W26 (Or.inl (by simp))
 refine o_iloadN (pc' := 38) w24 o_d11_37 rfl rfl ?_
 refine o_aload (pc' := 40) w24 o_d11_38 rfl rfl rfl ?_
 refine o_len (pc' := 41) w24 A_la o_d11_40 rfl ?_
 refine o_aload (pc' := 43) w24 o_d11_41 rfl rfl rfl ?_
 refine o_lam (pc' := 48) w24 (x := (⟨"com/example/throng/throng/engine/NumberedAnswers", "<init>", "(III[I[I[I)V"⟩ : MethodName)) (σ := o_sh0) (fi := 15) (nv := 1) (vals := [(.ref qa)]) (rest := [(.int (4 : Int32)), (.int (2 : Int32))]) hnm (o_w22 hw) (by decide) o_sh0_cap0 (o_w25 hw) rfl rfl rfl rfl (o_fit1 ⟨rfl, rfl⟩) o_d11_43 rfl (Nat.le_of_ble_eq_true rfl) (by decide) (by decide) fun T27 h29 a31 g_a31 w28 E30 L_a31 => ?_
 have ne_a1_a31 : a1 ≠ a31 := Nat.ne_of_lt (Nat.lt_of_lt_of_le E_a1.lt (Nat.le_of_eq g_a31.symm))
 have ne_la_a31 : la ≠ a31 := Nat.ne_of_lt (Nat.lt_of_lt_of_le A_la.lt (Nat.le_of_eq g_a31.symm))
 have ne_qa_a31 : qa ≠ a31 := Nat.ne_of_lt (Nat.lt_of_lt_of_le A_qa.lt (Nat.le_of_eq g_a31.symm))
 have nw_a31 : h0.size ≤ a31 := Nat.le_trans K.1 (Nat.le_of_eq g_a31.symm)
 replace E_a1 := E_a1.ext E30
 replace F_a1_questions := F_a1_questions.ext E30
 replace F_a1_labels := F_a1_labels.ext E30
 replace F_a1_workers := F_a1_workers.ext E30
 replace F_a1_question := F_a1_question.ext E30
 replace F_a1_worker := F_a1_worker.ext E30
 replace F_a1_label := F_a1_label.ext E30
 replace F_a1_byQuestion := F_a1_byQuestion.ext E30
 replace F_a1_start := F_a1_start.ext E30
 replace A_la := A_la.ext E30
 replace A_qa := A_qa.ext E30
 replace K := K.ext E30
 refine o_iloadN (pc' := 49) w28 o_d11_48 rfl rfl ?_
 refine o_aload (pc' := 51) w28 o_d11_49 rfl rfl rfl ?_
 refine o_lam (pc' := 56) w28 (x := (⟨"com/example/throng/throng/engine/NumberedAnswers", "<init>", "(III[I[I[I)V"⟩ : MethodName)) (σ := o_sh1) (fi := 15) (nv := 1) (vals := [(.ref la)]) (rest := [(.int (3 : Int32)), (.ref a31), (.int (4 : Int32)), (.int (2 : Int32))]) hnm (o_w26 hw) (by decide) o_sh1_cap0 (o_w25 hw) rfl rfl rfl rfl (o_fit1 ⟨rfl, rfl⟩) o_d11_51 rfl (Nat.le_of_ble_eq_true rfl) (by decide) (by decide) fun T32 h34 a36 g_a36 w33 E35 L_a36 => ?_
 have ne_a1_a36 : a1 ≠ a36 := Nat.ne_of_lt (Nat.lt_of_lt_of_le E_a1.lt (Nat.le_of_eq g_a36.symm))
 have ne_a31_a36 : a31 ≠ a36 := Nat.ne_of_lt (Nat.lt_of_lt_of_le L_a31.lt (Nat.le_of_eq g_a36.symm))
 have ne_la_a36 : la ≠ a36 := Nat.ne_of_lt (Nat.lt_of_lt_of_le A_la.lt (Nat.le_of_eq g_a36.symm))
 have ne_qa_a36 : qa ≠ a36 := Nat.ne_of_lt (Nat.lt_of_lt_of_le A_qa.lt (Nat.le_of_eq g_a36.symm))
 have nw_a36 : h0.size ≤ a36 := Nat.le_trans K.1 (Nat.le_of_eq g_a36.symm)
 replace E_a1 := E_a1.ext E35
 replace F_a1_questions := F_a1_questions.ext E35
 replace F_a1_labels := F_a1_labels.ext E35
 replace F_a1_workers := F_a1_workers.ext E35
 replace F_a1_question := F_a1_question.ext E35
 replace F_a1_worker := F_a1_worker.ext E35
 replace F_a1_label := F_a1_label.ext E35
 replace F_a1_byQuestion := F_a1_byQuestion.ext E35
 replace F_a1_start := F_a1_start.ext E35
 replace A_la := A_la.ext E35
 replace A_qa := A_qa.ext E35
 replace L_a31 := L_a31.ext E35
 replace K := K.ext E35
 refine o_callS (pc' := 59) w33 (o_w27 hw) (o_w28 hw) (o_w29 hw) (o_w30 hw) (by decide) (o_ct_of5 l Z a0 hw EL hE n0 [] h34 (o_old w33) a31 a36 la kl qa kq f0 f1 f2 f3 g0 g1 g2 g3 L_a31 L_a36 A_la A_qa) all0 (argsL := [(.int (2 : Int32)), (.int (4 : Int32)), (.ref a31), (.int (3 : Int32)), (.ref a36)]) (rest := []) rfl rfl o_pd9 rfl o_d11_56 rfl (by decide) (W := 0) rfl (by decide) (by decide) (by decide) fun T37 h39 v40 ms41 w38 q42 => ?_
 obtain ⟨K47, r_43, sa_44, ia_45, ki_46, rfl, rfl, nw_E_r_43, nw_F_r_43_start, nw_F_r_43_items, nw_A_ia_45, p56_of5_0, p56_of5_1⟩ := q42
 have ne_a1_r_43 : a1 ≠ r_43 := Nat.ne_of_lt (Nat.lt_of_lt_of_le E_a1.lt p56_of5_0)
 have ne_a31_r_43 : a31 ≠ r_43 := Nat.ne_of_lt (Nat.lt_of_lt_of_le L_a31.lt p56_of5_0)
 have ne_a36_r_43 : a36 ≠ r_43 := Nat.ne_of_lt (Nat.lt_of_lt_of_le L_a36.lt p56_of5_0)
 have ne_la_r_43 : la ≠ r_43 := Nat.ne_of_lt (Nat.lt_of_lt_of_le A_la.lt p56_of5_0)
 have ne_qa_r_43 : qa ≠ r_43 := Nat.ne_of_lt (Nat.lt_of_lt_of_le A_qa.lt p56_of5_0)
 have nw_r_43 : h0.size ≤ r_43 := Nat.le_trans K.1 p56_of5_0
 have ne_a1_ia_45 : a1 ≠ ia_45 := Nat.ne_of_lt (Nat.lt_of_lt_of_le E_a1.lt p56_of5_1)
 have ne_a31_ia_45 : a31 ≠ ia_45 := Nat.ne_of_lt (Nat.lt_of_lt_of_le L_a31.lt p56_of5_1)
 have ne_a36_ia_45 : a36 ≠ ia_45 := Nat.ne_of_lt (Nat.lt_of_lt_of_le L_a36.lt p56_of5_1)
 have ne_la_ia_45 : la ≠ ia_45 := Nat.ne_of_lt (Nat.lt_of_lt_of_le A_la.lt p56_of5_1)
 have ne_qa_ia_45 : qa ≠ ia_45 := Nat.ne_of_lt (Nat.lt_of_lt_of_le A_qa.lt p56_of5_1)
 have nw_ia_45 : h0.size ≤ ia_45 := Nat.le_trans K.1 p56_of5_1
 replace E_a1 := E_a1.keep K47
 replace F_a1_questions := F_a1_questions.keep K47 nin0
 replace F_a1_labels := F_a1_labels.keep K47 nin0
 replace F_a1_workers := F_a1_workers.keep K47 nin0
 replace F_a1_question := F_a1_question.keep K47 nin0
 replace F_a1_worker := F_a1_worker.keep K47 nin0
 replace F_a1_label := F_a1_label.keep K47 nin0
 replace F_a1_byQuestion := F_a1_byQuestion.keep K47 nin0
 replace F_a1_start := F_a1_start.keep K47 nin0
 replace A_la := A_la.keep K47 nin0
 replace A_qa := A_qa.keep K47 nin0
 replace L_a31 := L_a31.keep K47 nin0
 replace L_a36 := L_a36.keep K47 nin0
 replace K := K.trans K47 all0
 have E_r_43 := nw_E_r_43; clear nw_E_r_43
 have F_r_43_start := nw_F_r_43_start; clear nw_F_r_43_start
 have F_r_43_items := nw_F_r_43_items; clear nw_F_r_43_items
 have A_ia_45 := nw_A_ia_45; clear nw_A_ia_45
 show o_Go Z EL n0 p e below s _ _ _ (T37.setTop (mkF m 59 _ [(.ref r_43)]))
 refine o_astore (pc' := 61) w38 o_d11_59 rfl (Ls' := #[.val (.ref a1), .val (.int (2 : Int32)), .val (.int (3 : Int32)), .val (.int (1 : Int32)), .val (.ref qa), .val (.ref wa), .val (.ref la), .val (.ref r_43)]) rfl rfl ?_
 refine o_aloadN (pc' := 62) w38 o_d11_61 rfl rfl rfl ?_
 refine o_aload (pc' := 64) w38 o_d11_62 rfl rfl rfl ?_
 refine o_callV (pc' := 67) w38 (o_w77 hw) (o_w67 hw) (fun s' hZ' => notFace_of_selects (args := #[]) (mvT hZ' (o_w69 hw))) (o_w69 hw) (o_w68 hw) (o_w29 hw) (o_w70 hw) (by decide) E_r_43 (o_ct_gItems l Z a0 hw EL hE n0 [] h39 (o_old w38) r_43 ia_45 F_r_43_items) all0 (argsL := []) (rest := [(.ref a1)]) rfl rfl o_pd8 rfl o_d11_64 rfl (by decide) (W := 1) rfl (by decide) (by decide) (by decide) fun T48 h50 v51 ms52 w49 q53 => ?_
 obtain ⟨rfl, rfl, rfl⟩ := q53
 show o_Go Z EL n0 p e below s _ _ _ (T48.setTop (mkF m 67 _ [(.ref ia_45), (.ref a1)]))
 refine o_putF (pc' := 70) w49 (host := "") (Or.inl (o_w78 hw)) Via.refl (by simp) F_a1_byQuestion E_a1 (Or.inr ⟨(o_w79 hw), rfl, rfl⟩) (o_w2 hw) (ty := (.array .int)) (by decide) rfl rfl o_d11_67 rfl fun T54 h56 w55 W57 => ?_
 replace F_a1_byQuestion := F_a1_byQuestion.same W57
 replace E_a1 := E_a1.wr W57
 replace F_a1_questions := F_a1_questions.other W57 (Or.inr (slot_ne (Or.inr (o_w11 hw)) (Or.inr (o_w79 hw)) (by decide) (t := .int) (t' := (.array .int)) (by decide) (by decide)))
 replace F_a1_labels := F_a1_labels.other W57 (Or.inr (slot_ne (Or.inr (o_w13 hw)) (Or.inr (o_w79 hw)) (by decide) (t := .int) (t' := (.array .int)) (by decide) (by decide)))
 replace F_a1_workers := F_a1_workers.other W57 (Or.inr (slot_ne (Or.inr (o_w15 hw)) (Or.inr (o_w79 hw)) (by decide) (t := .int) (t' := (.array .int)) (by decide) (by decide)))
 replace F_a1_question := F_a1_question.other W57 (Or.inr (slot_ne (Or.inr (o_w17 hw)) (Or.inr (o_w79 hw)) (by decide) (t := (.array .int)) (t' := (.array .int)) (by decide) (by decide)))
 replace F_a1_worker := F_a1_worker.other W57 (Or.inr (slot_ne (Or.inr (o_w19 hw)) (Or.inr (o_w79 hw)) (by decide) (t := (.array .int)) (t' := (.array .int)) (by decide) (by decide)))
 replace F_a1_label := F_a1_label.other W57 (Or.inr (slot_ne (Or.inr (o_w21 hw)) (Or.inr (o_w79 hw)) (by decide) (t := (.array .int)) (t' := (.array .int)) (by decide) (by decide)))
 replace F_a1_start := F_a1_start.other W57 (Or.inr (slot_ne (Or.inr (o_w86 hw)) (Or.inr (o_w79 hw)) (by decide) (t := (.array .int)) (t' := (.array .int)) (by decide) (by decide)))
 replace A_la := A_la.other W57 hn1
 replace A_qa := A_qa.other W57 hn2
 replace L_a31 := L_a31.other W57 (Ne.symm ne_a1_a31)
 replace L_a36 := L_a36.other W57 (Ne.symm ne_a1_a36)
 replace E_r_43 := E_r_43.wr W57
 replace F_r_43_start := F_r_43_start.other W57 (Or.inl (Ne.symm ne_a1_r_43))
 replace F_r_43_items := F_r_43_items.other W57 (Or.inl (Ne.symm ne_a1_r_43))
 replace A_ia_45 := A_ia_45.other W57 (Ne.symm ne_a1_ia_45)
 replace K := K.wr W57 (Or.inl (by simp))
 refine o_aloadN (pc' := 71) w55 o_d11_70 rfl rfl rfl ?_
 refine o_aload (pc' := 73) w55 o_d11_71 rfl rfl rfl ?_
 refine o_callV (pc' := 76) w55 (o_w80 hw) (o_w81 hw) (fun s' hZ' => notFace_of_selects (args := #[]) (mvT hZ' (o_w83 hw))) (o_w83 hw) (o_w82 hw) (o_w29 hw) (o_w84 hw) (by decide) E_r_43 (o_ct_gStart l Z a0 hw EL hE n0 [] h56 (o_old w55) r_43 sa_44 F_r_43_start) all0 (argsL := []) (rest := [(.ref a1)]) rfl rfl o_pd8 rfl o_d11_73 rfl (by decide) (W := 1) rfl (by decide) (by decide) (by decide) fun T58 h60 v61 ms62 w59 q63 => ?_
 obtain ⟨rfl, rfl, rfl⟩ := q63
 show o_Go Z EL n0 p e below s _ _ _ (T58.setTop (mkF m 76 _ [(.ref sa_44), (.ref a1)]))
 refine o_putF (pc' := 79) w59 (host := "") (Or.inl (o_w85 hw)) Via.refl (by simp) F_a1_start E_a1 (Or.inr ⟨(o_w86 hw), rfl, rfl⟩) (o_w2 hw) (ty := (.array .int)) (by decide) rfl rfl o_d11_76 rfl fun T64 h66 w65 W67 => ?_
 replace F_a1_start := F_a1_start.same W67
 replace E_a1 := E_a1.wr W67
 replace F_a1_questions := F_a1_questions.other W67 (Or.inr (slot_ne (Or.inr (o_w11 hw)) (Or.inr (o_w86 hw)) (by decide) (t := .int) (t' := (.array .int)) (by decide) (by decide)))
 replace F_a1_labels := F_a1_labels.other W67 (Or.inr (slot_ne (Or.inr (o_w13 hw)) (Or.inr (o_w86 hw)) (by decide) (t := .int) (t' := (.array .int)) (by decide) (by decide)))
 replace F_a1_workers := F_a1_workers.other W67 (Or.inr (slot_ne (Or.inr (o_w15 hw)) (Or.inr (o_w86 hw)) (by decide) (t := .int) (t' := (.array .int)) (by decide) (by decide)))
 replace F_a1_question := F_a1_question.other W67 (Or.inr (slot_ne (Or.inr (o_w17 hw)) (Or.inr (o_w86 hw)) (by decide) (t := (.array .int)) (t' := (.array .int)) (by decide) (by decide)))
 replace F_a1_worker := F_a1_worker.other W67 (Or.inr (slot_ne (Or.inr (o_w19 hw)) (Or.inr (o_w86 hw)) (by decide) (t := (.array .int)) (t' := (.array .int)) (by decide) (by decide)))
 replace F_a1_label := F_a1_label.other W67 (Or.inr (slot_ne (Or.inr (o_w21 hw)) (Or.inr (o_w86 hw)) (by decide) (t := (.array .int)) (t' := (.array .int)) (by decide) (by decide)))
 replace F_a1_byQuestion := F_a1_byQuestion.other W67 (Or.inr (slot_ne (Or.inr (o_w79 hw)) (Or.inr (o_w86 hw)) (by decide) (t := (.array .int)) (t' := (.array .int)) (by decide) (by decide)))
 replace A_la := A_la.other W67 hn1
 replace A_qa := A_qa.other W67 hn2
 replace L_a31 := L_a31.other W67 (Ne.symm ne_a1_a31)
 replace L_a36 := L_a36.other W67 (Ne.symm ne_a1_a36)
 replace E_r_43 := E_r_43.wr W67
 replace F_r_43_start := F_r_43_start.other W67 (Or.inl (Ne.symm ne_a1_r_43))
 replace F_r_43_items := F_r_43_items.other W67 (Or.inl (Ne.symm ne_a1_r_43))
 replace A_ia_45 := A_ia_45.other W67 (Ne.symm ne_a1_ia_45)
 replace K := K.wr W67 (Or.inl (by simp))
 exact o_ret0 w65 rfl o_d11_79 (by decide) (by decide) (ms' := []) all0 ⟨K, ia_45, ki_46, rfl, rfl, E_a1, F_a1_question, F_a1_label, F_a1_byQuestion, A_ia_45, nw_ia_45⟩
theorem o_d12_0 : decode prog_86_method_10_code 0 = .ok (.aload_n 0, 1) := by decide +kernel
theorem o_d12_1 : decode prog_86_method_10_code 1 = .ok (.getfield 44, 3) := by decide +kernel
theorem o_d12_4 : decode prog_86_method_10_code 4 = .ok (.iload_n 1, 1) := by decide +kernel
theorem o_d12_5 : decode prog_86_method_10_code 5 = .ok (.iaload, 1) := by decide +kernel
theorem o_d12_6 : decode prog_86_method_10_code 6 = .ok (.ireturn, 1) := by decide +kernel
theorem o_ef_byQ (m : MethodId) (a1 : Addr) (pI : Int32) : entryFrame m #[(.ref a1), (.int pI)] 2 = mkF m 0 #[.val (.ref a1), .val (.int pI)] [] := by first | (simp [entryFrame, mkF, argsToLocals, Value.category]; done) | rfl
theorem o_pf12 : plainFor (⟨"com/example/throng/throng/engine/NumberedAnswers", "byQuestion", "(I)I"⟩ : MethodName) = true := by first | exact plainFor_of_name (by first | (simp [plainName, overriddenIn]; done) | decide +kernel) | decide +kernel
def o_Q_byQ (Z : State) (h0 : Heap) (a1 : Addr) (pI : Int32) (bq : Addr) (kb : ClassId) (xs : List Int32) (pN : Nat) (v : Option Value) (h : Heap) (ms : List Addr) : Prop := (h0 = h) ∧ (ms = []) ∧ (v = some (.int (List.getD xs pN 0)))
theorem o_ct_byQ (l : Launch) (Z : State) (a0 : Array Value) (hw : o_H a0 Z) (EL : List (String × Nat)) (hE : EW Z a0 EL) (n0 : Nat) (ws : List Jvm.Cond) (h0 : Heap) (O : Old Z n0 h0) (a1 : Addr) (pI : Int32) (bq : Addr) (kb : ClassId) (xs : List Int32) (pN : Nat) (F_a1_byQuestion : Fld Z h0 a1 "com/example/throng/throng/engine/NumberedAnswers" "byQuestion" "[I" (.ref bq)) (A_bq : Arv Z h0 bq kb .int (4 : Int32) (o_iv xs) (.int 0)) (hr : ¬ pI < 0 ∧ pI < 4) (hpN : pI.toNatClampNeg = pN) :
    o_Ct l Z EL n0 (⟨"com/example/throng/throng/engine/NumberedAnswers", "byQuestion", "(I)I"⟩ : MethodName) prog_86_method_10_code 2 (some .int) ws ({ frames := 0, cells := 0, slots := 0, locals := 0 } : Room) #[(.ref a1), (.int pI)] h0 [] (o_Q_byQ Z h0 a1 pI bq kb xs pN) := by
 refine o_enter (a0 := a0) o_pf12 hE O fun p e s m below meth c T0 w0 => ?_
 rw [o_ef_byQ m a1 pI]
 refine o_aloadN (pc' := 1) w0 o_d12_0 rfl rfl rfl ?_
 refine o_getF (pc' := 4) w0 (host := "") (Or.inl (o_w78 hw)) Via.refl F_a1_byQuestion o_d12_1 rfl fun T1 w2 => ?_
 refine o_iloadN (pc' := 5) w2 o_d12_4 rfl rfl ?_
 refine o_ldI (pc' := 6) w2 (v := (.int (List.getD xs pN 0))) A_bq hr (o_ivg hpN) o_d12_5 rfl ?_
 exact o_retV w2 (t := .int) rfl rfl (Or.inl ⟨rfl, by simp, _, rfl⟩) o_d12_6 (by decide) (by decide) (ms' := []) all0 ⟨rfl, rfl, rfl⟩
theorem o_d13_0 : decode method_2_code 0 = .ok (.iload_n 0, 1) := by decide +kernel
theorem o_d13_1 : decode method_2_code 1 = .ok (.iconst 3, 1) := by decide +kernel
theorem o_d13_2 : decode method_2_code 2 = .ok (.imul, 1) := by decide +kernel
theorem o_d13_3 : decode method_2_code 3 = .ok (.iload_n 1, 1) := by decide +kernel
theorem o_d13_4 : decode method_2_code 4 = .ok (.iadd, 1) := by decide +kernel
theorem o_d13_5 : decode method_2_code 5 = .ok (.iload_n 2, 1) := by decide +kernel
theorem o_d13_6 : decode method_2_code 6 = .ok (.if_icmp .gt 7, 3) := by decide +kernel
theorem o_d13_13 : decode method_2_code 13 = .ok (.iconst 0, 1) := by decide +kernel
theorem o_d13_14 : decode method_2_code 14 = .ok (.ireturn, 1) := by decide +kernel
theorem o_d13_9 : decode method_2_code 9 = .ok (.iconst 1, 1) := by decide +kernel
theorem o_d13_10 : decode method_2_code 10 = .ok (.goto 4, 3) := by decide +kernel
theorem o_ef_leq (m : MethodId) (qI : Int32) (lI : Int32) (zI : Int32) : entryFrame m #[(.int qI), (.int lI), (.int zI)] 3 = mkF m 0 #[.val (.int qI), .val (.int lI), .val (.int zI)] [] := by first | (simp [entryFrame, mkF, argsToLocals, Value.category]; done) | rfl
theorem o_pf13 : plainFor (⟨"com/example/throng/throng/engine/NumberedAnswersRunEndPinLaw", "le", "(III)I"⟩ : MethodName) = true := by first | exact plainFor_of_name (by first | (simp [plainName, overriddenIn]; done) | decide +kernel) | decide +kernel
def o_Q_leq (Z : State) (h0 : Heap) (qI : Int32) (lI : Int32) (zI : Int32) (v : Option Value) (h : Heap) (ms : List Addr) : Prop := (h0 = h) ∧ (ms = []) ∧ (v = some (.int (o_le qI lI zI)))
theorem o_ct_leq (l : Launch) (Z : State) (a0 : Array Value) (hw : o_H a0 Z) (EL : List (String × Nat)) (hE : EW Z a0 EL) (n0 : Nat) (ws : List Jvm.Cond) (h0 : Heap) (O : Old Z n0 h0) (qI : Int32) (lI : Int32) (zI : Int32)  :
    o_Ct l Z EL n0 (⟨"com/example/throng/throng/engine/NumberedAnswersRunEndPinLaw", "le", "(III)I"⟩ : MethodName) method_2_code 3 (some .int) ws ({ frames := 0, cells := 0, slots := 0, locals := 0 } : Room) #[(.int qI), (.int lI), (.int zI)] h0 [] (o_Q_leq Z h0 qI lI zI) := by
 refine o_enter (a0 := a0) o_pf13 hE O fun p e s m below meth c T0 w0 => ?_
 rw [o_ef_leq m qI lI zI]
 refine o_iloadN (pc' := 1) w0 o_d13_0 rfl rfl ?_
 refine o_iconst (pc' := 2) w0 o_d13_1 (x := (3 : Int32)) rfl rfl ?_
 refine o_imul (pc' := 3) w0 o_d13_2 (z := (qI * (3 : Int32))) rfl rfl ?_
 refine o_iloadN (pc' := 4) w0 o_d13_3 rfl rfl ?_
 refine o_iadd (pc' := 5) w0 o_d13_4 (z := ((qI * (3 : Int32)) + lI)) rfl rfl ?_
 refine o_iloadN (pc' := 6) w0 o_d13_5 rfl rfl ?_
 refine o_icmp (pc' := 9) w0 o_d13_6 rfl (by decide) (pcY := 13) rfl (fun (hb6 : zI < ((qI * (3 : Int32)) + lI)) => ?_) (fun (hb6 : ¬ zI < ((qI * (3 : Int32)) + lI)) => ?_)
 ·
  refine o_iconst (pc' := 14) w0 o_d13_13 (x := (0 : Int32)) rfl rfl ?_
  exact o_retV w0 (t := .int) rfl rfl (Or.inl ⟨rfl, by simp, _, rfl⟩) o_d13_14 (by decide) (by decide) (ms' := []) all0 ⟨rfl, rfl, (by rw [o_le, if_pos hb6])⟩
 ·
  refine o_iconst (pc' := 10) w0 o_d13_9 (x := (1 : Int32)) rfl rfl ?_
  refine o_goto w0 o_d13_10 (by decide) (pc' := 14) rfl ?_
  exact o_retV w0 (t := .int) rfl rfl (Or.inl ⟨rfl, by simp, _, rfl⟩) o_d13_14 (by decide) (by decide) (ms' := []) all0 ⟨rfl, rfl, (by rw [o_le, if_neg hb6])⟩
theorem o_d14_0 : decode prog_86_method_11_code 0 = .ok (.aload_n 0, 1) := by decide +kernel
theorem o_d14_1 : decode prog_86_method_11_code 1 = .ok (.getfield 44, 3) := by decide +kernel
theorem o_d14_4 : decode prog_86_method_11_code 4 = .ok (.iload_n 1, 1) := by decide +kernel
theorem o_d14_5 : decode prog_86_method_11_code 5 = .ok (.iaload, 1) := by decide +kernel
theorem o_d14_6 : decode prog_86_method_11_code 6 = .ok (.istore_n 2, 1) := by decide +kernel
theorem o_d14_7 : decode prog_86_method_11_code 7 = .ok (.iload_n 1, 1) := by decide +kernel
theorem o_d14_8 : decode prog_86_method_11_code 8 = .ok (.iconst 1, 1) := by decide +kernel
theorem o_d14_9 : decode prog_86_method_11_code 9 = .ok (.iadd, 1) := by decide +kernel
theorem o_d14_10 : decode prog_86_method_11_code 10 = .ok (.istore_n 3, 1) := by decide +kernel
theorem o_d14_11 : decode prog_86_method_11_code 11 = .ok (.iload_n 3, 1) := by decide +kernel
theorem o_d14_12 : decode prog_86_method_11_code 12 = .ok (.aload_n 0, 1) := by decide +kernel
theorem o_d14_13 : decode prog_86_method_11_code 13 = .ok (.getfield 44, 3) := by decide +kernel
theorem o_d14_16 : decode prog_86_method_11_code 16 = .ok (.arraylength, 1) := by decide +kernel
theorem o_d14_17 : decode prog_86_method_11_code 17 = .ok (.if_icmp .ge 49, 3) := by decide +kernel
theorem o_d14_20 : decode prog_86_method_11_code 20 = .ok (.aload_n 0, 1) := by decide +kernel
theorem o_d14_21 : decode prog_86_method_11_code 21 = .ok (.getfield 19, 3) := by decide +kernel
theorem o_d14_24 : decode prog_86_method_11_code 24 = .ok (.aload_n 0, 1) := by decide +kernel
theorem o_d14_25 : decode prog_86_method_11_code 25 = .ok (.getfield 44, 3) := by decide +kernel
theorem o_d14_28 : decode prog_86_method_11_code 28 = .ok (.iload_n 3, 1) := by decide +kernel
theorem o_d14_29 : decode prog_86_method_11_code 29 = .ok (.iaload, 1) := by decide +kernel
theorem o_d14_30 : decode prog_86_method_11_code 30 = .ok (.iaload, 1) := by decide +kernel
theorem o_d14_31 : decode prog_86_method_11_code 31 = .ok (.aload_n 0, 1) := by decide +kernel
theorem o_d14_32 : decode prog_86_method_11_code 32 = .ok (.getfield 19, 3) := by decide +kernel
theorem o_d14_35 : decode prog_86_method_11_code 35 = .ok (.iload_n 2, 1) := by decide +kernel
theorem o_d14_36 : decode prog_86_method_11_code 36 = .ok (.iaload, 1) := by decide +kernel
theorem o_d14_37 : decode prog_86_method_11_code 37 = .ok (.if_icmp .ne 29, 3) := by decide +kernel
theorem o_d14_66 : decode prog_86_method_11_code 66 = .ok (.iload_n 3, 1) := by decide +kernel
theorem o_d14_67 : decode prog_86_method_11_code 67 = .ok (.ireturn, 1) := by decide +kernel
theorem o_d14_40 : decode prog_86_method_11_code 40 = .ok (.aload_n 0, 1) := by decide +kernel
theorem o_d14_41 : decode prog_86_method_11_code 41 = .ok (.getfield 26, 3) := by decide +kernel
theorem o_d14_44 : decode prog_86_method_11_code 44 = .ok (.aload_n 0, 1) := by decide +kernel
theorem o_d14_45 : decode prog_86_method_11_code 45 = .ok (.getfield 44, 3) := by decide +kernel
theorem o_d14_48 : decode prog_86_method_11_code 48 = .ok (.iload_n 3, 1) := by decide +kernel
theorem o_d14_49 : decode prog_86_method_11_code 49 = .ok (.iaload, 1) := by decide +kernel
theorem o_d14_50 : decode prog_86_method_11_code 50 = .ok (.iaload, 1) := by decide +kernel
theorem o_d14_51 : decode prog_86_method_11_code 51 = .ok (.aload_n 0, 1) := by decide +kernel
theorem o_d14_52 : decode prog_86_method_11_code 52 = .ok (.getfield 26, 3) := by decide +kernel
theorem o_d14_55 : decode prog_86_method_11_code 55 = .ok (.iload_n 2, 1) := by decide +kernel
theorem o_d14_56 : decode prog_86_method_11_code 56 = .ok (.iaload, 1) := by decide +kernel
theorem o_d14_57 : decode prog_86_method_11_code 57 = .ok (.if_icmp .ne 9, 3) := by decide +kernel
theorem o_d14_60 : decode prog_86_method_11_code 60 = .ok (.iinc 3 1, 3) := by decide +kernel
theorem o_d14_63 : decode prog_86_method_11_code 63 = .ok (.goto (-52), 3) := by decide +kernel
theorem o_ef_re0 (m : MethodId) (a1 : Addr) : entryFrame m #[(.ref a1), (.int (0 : Int32))] 4 = mkF m 0 #[.val (.ref a1), .val (.int (0 : Int32)), .unset, .unset] [] := by first | (simp [entryFrame, mkF, argsToLocals, Value.category]; done) | rfl
theorem o_pf14 : plainFor (⟨"com/example/throng/throng/engine/NumberedAnswers", "runEnd", "(I)I"⟩ : MethodName) = true := by first | exact plainFor_of_name (by first | (simp [plainName, overriddenIn]; done) | decide +kernel) | decide +kernel
def o_Q_re0 (Z : State) (h0 : Heap) (a1 : Addr) (bq : Addr) (kb : ClassId) (xs : List Int32) (qa : Addr) (kq : ClassId) (qs : List Int32) (la : Addr) (kl : ClassId) (ls : List Int32) (v : Option Value) (h : Heap) (ms : List Addr) : Prop := (h0 = h) ∧ (ms = []) ∧ (v = some (.int (o_re xs qs ls 0)))
theorem o_ct_re0 (l : Launch) (Z : State) (a0 : Array Value) (hw : o_H a0 Z) (EL : List (String × Nat)) (hE : EW Z a0 EL) (n0 : Nat) (ws : List Jvm.Cond) (h0 : Heap) (O : Old Z n0 h0) (a1 : Addr) (bq : Addr) (kb : ClassId) (xs : List Int32) (qa : Addr) (kq : ClassId) (qs : List Int32) (la : Addr) (kl : ClassId) (ls : List Int32) (F_a1_byQuestion : Fld Z h0 a1 "com/example/throng/throng/engine/NumberedAnswers" "byQuestion" "[I" (.ref bq)) (A_bq : Arv Z h0 bq kb .int (4 : Int32) (o_iv xs) (.int 0)) (F_a1_question : Fld Z h0 a1 "com/example/throng/throng/engine/NumberedAnswers" "question" "[I" (.ref qa)) (A_qa : Arv Z h0 qa kq .int (4 : Int32) (o_iv qs) (.int 0)) (F_a1_label : Fld Z h0 a1 "com/example/throng/throng/engine/NumberedAnswers" "label" "[I" (.ref la)) (A_la : Arv Z h0 la kl .int (4 : Int32) (o_iv ls) (.int 0)) (hxr : ∀ i : Fin 4, ¬ List.getD xs i.val 0 < 0 ∧ List.getD xs i.val 0 < 4) :
    o_Ct l Z EL n0 (⟨"com/example/throng/throng/engine/NumberedAnswers", "runEnd", "(I)I"⟩ : MethodName) prog_86_method_11_code 4 (some .int) ws ({ frames := 0, cells := 0, slots := 0, locals := 0 } : Room) #[(.ref a1), (.int (0 : Int32))] h0 [] (o_Q_re0 Z h0 a1 bq kb xs qa kq qs la kl ls) := by
 refine o_enter (a0 := a0) o_pf14 hE O fun p e s m below meth c T0 w0 => ?_
 rw [o_ef_re0 m a1]
 refine o_aloadN (pc' := 1) w0 o_d14_0 rfl rfl rfl ?_
 refine o_getF (pc' := 4) w0 (host := "") (Or.inl (o_w78 hw)) Via.refl F_a1_byQuestion o_d14_1 rfl fun T1 w2 => ?_
 refine o_iloadN (pc' := 5) w2 o_d14_4 rfl rfl ?_
 refine o_ldI (pc' := 6) w2 (v := (.int (List.getD xs 0 0))) A_bq (by decide) (o_ivg rfl) o_d14_5 rfl ?_
 refine o_istoreN (pc' := 7) w2 o_d14_6 (Ls' := #[.val (.ref a1), .val (.int (0 : Int32)), .val (.int (List.getD xs 0 0)), .unset]) rfl rfl ?_
 refine o_iloadN (pc' := 8) w2 o_d14_7 rfl rfl ?_
 refine o_iconst (pc' := 9) w2 o_d14_8 (x := (1 : Int32)) rfl rfl ?_
 refine o_iadd (pc' := 10) w2 o_d14_9 (z := (1 : Int32)) (by decide) rfl ?_
 refine o_istoreN (pc' := 11) w2 o_d14_10 (Ls' := #[.val (.ref a1), .val (.int (0 : Int32)), .val (.int (List.getD xs 0 0)), .val (.int (1 : Int32))]) rfl rfl ?_
 refine o_iloadN (pc' := 12) w2 o_d14_11 rfl rfl ?_
 refine o_aloadN (pc' := 13) w2 o_d14_12 rfl rfl rfl ?_
 refine o_getF (pc' := 16) w2 (host := "") (Or.inl (o_w78 hw)) Via.refl F_a1_byQuestion o_d14_13 rfl fun T3 w4 => ?_
 refine o_len (pc' := 17) w4 A_bq o_d14_16 rfl ?_
 refine o_icmp (pc' := 20) w4 o_d14_17 rfl (by decide) (pcY := 66) rfl (fun (hb17 : ¬ (1 : Int32) < (4 : Int32)) => absurd hb17 (by decide)) (fun (hb17 : (1 : Int32) < (4 : Int32)) => ?_)
 refine o_aloadN (pc' := 21) w4 o_d14_20 rfl rfl rfl ?_
 refine o_getF (pc' := 24) w4 (host := "") (Or.inl (o_w16 hw)) Via.refl F_a1_question o_d14_21 rfl fun T5 w6 => ?_
 refine o_aloadN (pc' := 25) w6 o_d14_24 rfl rfl rfl ?_
 refine o_getF (pc' := 28) w6 (host := "") (Or.inl (o_w78 hw)) Via.refl F_a1_byQuestion o_d14_25 rfl fun T7 w8 => ?_
 refine o_iloadN (pc' := 29) w8 o_d14_28 rfl rfl ?_
 refine o_ldI (pc' := 30) w8 (v := (.int (List.getD xs 1 0))) A_bq (by decide) (o_ivg rfl) o_d14_29 rfl ?_
 refine o_ldI (pc' := 31) w8 (v := (.int (List.getD qs (List.getD xs 1 0).toNatClampNeg 0))) A_qa (hxr 1) (o_ivg rfl) o_d14_30 rfl ?_
 refine o_aloadN (pc' := 32) w8 o_d14_31 rfl rfl rfl ?_
 refine o_getF (pc' := 35) w8 (host := "") (Or.inl (o_w16 hw)) Via.refl F_a1_question o_d14_32 rfl fun T9 w10 => ?_
 refine o_iloadN (pc' := 36) w10 o_d14_35 rfl rfl ?_
 refine o_ldI (pc' := 37) w10 (v := (.int (List.getD qs (List.getD xs 0 0).toNatClampNeg 0))) A_qa (hxr 0) (o_ivg rfl) o_d14_36 rfl ?_
 refine o_icmp (pc' := 40) w10 o_d14_37 rfl (by decide) (pcY := 66) rfl (fun (hb37 : ¬ (List.getD qs (List.getD xs 1 0).toNatClampNeg 0) = (List.getD qs (List.getD xs 0 0).toNatClampNeg 0)) => ?_) (fun (hb37 : (List.getD qs (List.getD xs 1 0).toNatClampNeg 0) = (List.getD qs (List.getD xs 0 0).toNatClampNeg 0)) => ?_)
 ·
  refine o_iloadN (pc' := 67) w10 o_d14_66 rfl rfl ?_
  have z1 := o_smQ (xs := xs) (qs := qs) (ls := ls) (p := 0) (e := 1) hb37
  exact o_retV w10 (t := .int) rfl rfl (Or.inl ⟨rfl, by simp, _, rfl⟩) o_d14_67 (by decide) (by decide) (ms' := []) all0 ⟨rfl, rfl, (by show _ = some (Value.int (o_rl (o_sm xs qs ls 0) 3 1)); rw [o_rlF z1]; rfl)⟩
 ·
  refine o_aloadN (pc' := 41) w10 o_d14_40 rfl rfl rfl ?_
  refine o_getF (pc' := 44) w10 (host := "") (Or.inl (o_w20 hw)) Via.refl F_a1_label o_d14_41 rfl fun T11 w12 => ?_
  refine o_aloadN (pc' := 45) w12 o_d14_44 rfl rfl rfl ?_
  refine o_getF (pc' := 48) w12 (host := "") (Or.inl (o_w78 hw)) Via.refl F_a1_byQuestion o_d14_45 rfl fun T13 w14 => ?_
  refine o_iloadN (pc' := 49) w14 o_d14_48 rfl rfl ?_
  refine o_ldI (pc' := 50) w14 (v := (.int (List.getD xs 1 0))) A_bq (by decide) (o_ivg rfl) o_d14_49 rfl ?_
  refine o_ldI (pc' := 51) w14 (v := (.int (List.getD ls (List.getD xs 1 0).toNatClampNeg 0))) A_la (hxr 1) (o_ivg rfl) o_d14_50 rfl ?_
  refine o_aloadN (pc' := 52) w14 o_d14_51 rfl rfl rfl ?_
  refine o_getF (pc' := 55) w14 (host := "") (Or.inl (o_w20 hw)) Via.refl F_a1_label o_d14_52 rfl fun T15 w16 => ?_
  refine o_iloadN (pc' := 56) w16 o_d14_55 rfl rfl ?_
  refine o_ldI (pc' := 57) w16 (v := (.int (List.getD ls (List.getD xs 0 0).toNatClampNeg 0))) A_la (hxr 0) (o_ivg rfl) o_d14_56 rfl ?_
  refine o_icmp (pc' := 60) w16 o_d14_57 rfl (by decide) (pcY := 66) rfl (fun (hb57 : ¬ (List.getD ls (List.getD xs 1 0).toNatClampNeg 0) = (List.getD ls (List.getD xs 0 0).toNatClampNeg 0)) => ?_) (fun (hb57 : (List.getD ls (List.getD xs 1 0).toNatClampNeg 0) = (List.getD ls (List.getD xs 0 0).toNatClampNeg 0)) => ?_)
  ·
   refine o_iloadN (pc' := 67) w16 o_d14_66 rfl rfl ?_
   have z1 := o_smL (xs := xs) (qs := qs) (ls := ls) (p := 0) (e := 1) hb57
   exact o_retV w16 (t := .int) rfl rfl (Or.inl ⟨rfl, by simp, _, rfl⟩) o_d14_67 (by decide) (by decide) (ms' := []) all0 ⟨rfl, rfl, (by show _ = some (Value.int (o_rl (o_sm xs qs ls 0) 3 1)); rw [o_rlF z1]; rfl)⟩
  ·
   refine o_iinc (pc' := 63) w16 o_d14_60 rfl (y := (2 : Int32)) (by decide) (Ls' := #[.val (.ref a1), .val (.int (0 : Int32)), .val (.int (List.getD xs 0 0)), .val (.int (2 : Int32))]) rfl rfl ?_
   refine o_goto w16 o_d14_63 (by decide) (pc' := 11) rfl ?_
   refine o_iloadN (pc' := 12) w16 o_d14_11 rfl rfl ?_
   refine o_aloadN (pc' := 13) w16 o_d14_12 rfl rfl rfl ?_
   refine o_getF (pc' := 16) w16 (host := "") (Or.inl (o_w78 hw)) Via.refl F_a1_byQuestion o_d14_13 rfl fun T17 w18 => ?_
   refine o_len (pc' := 17) w18 A_bq o_d14_16 rfl ?_
   refine o_icmp (pc' := 20) w18 o_d14_17 rfl (by decide) (pcY := 66) rfl (fun (hb17_1 : ¬ (2 : Int32) < (4 : Int32)) => absurd hb17_1 (by decide)) (fun (hb17_1 : (2 : Int32) < (4 : Int32)) => ?_)
   refine o_aloadN (pc' := 21) w18 o_d14_20 rfl rfl rfl ?_
   refine o_getF (pc' := 24) w18 (host := "") (Or.inl (o_w16 hw)) Via.refl F_a1_question o_d14_21 rfl fun T19 w20 => ?_
   refine o_aloadN (pc' := 25) w20 o_d14_24 rfl rfl rfl ?_
   refine o_getF (pc' := 28) w20 (host := "") (Or.inl (o_w78 hw)) Via.refl F_a1_byQuestion o_d14_25 rfl fun T21 w22 => ?_
   refine o_iloadN (pc' := 29) w22 o_d14_28 rfl rfl ?_
   refine o_ldI (pc' := 30) w22 (v := (.int (List.getD xs 2 0))) A_bq (by decide) (o_ivg rfl) o_d14_29 rfl ?_
   refine o_ldI (pc' := 31) w22 (v := (.int (List.getD qs (List.getD xs 2 0).toNatClampNeg 0))) A_qa (hxr 2) (o_ivg rfl) o_d14_30 rfl ?_
   refine o_aloadN (pc' := 32) w22 o_d14_31 rfl rfl rfl ?_
   refine o_getF (pc' := 35) w22 (host := "") (Or.inl (o_w16 hw)) Via.refl F_a1_question o_d14_32 rfl fun T23 w24 => ?_
   refine o_iloadN (pc' := 36) w24 o_d14_35 rfl rfl ?_
   refine o_ldI (pc' := 37) w24 (v := (.int (List.getD qs (List.getD xs 0 0).toNatClampNeg 0))) A_qa (hxr 0) (o_ivg rfl) o_d14_36 rfl ?_
   refine o_icmp (pc' := 40) w24 o_d14_37 rfl (by decide) (pcY := 66) rfl (fun (hb37_1 : ¬ (List.getD qs (List.getD xs 2 0).toNatClampNeg 0) = (List.getD qs (List.getD xs 0 0).toNatClampNeg 0)) => ?_) (fun (hb37_1 : (List.getD qs (List.getD xs 2 0).toNatClampNeg 0) = (List.getD qs (List.getD xs 0 0).toNatClampNeg 0)) => ?_)
   ·
    refine o_iloadN (pc' := 67) w24 o_d14_66 rfl rfl ?_
    have z1 := o_smT (xs := xs) (qs := qs) (ls := ls) (p := 0) (e := 1) hb37 hb57
    have z2 := o_smQ (xs := xs) (qs := qs) (ls := ls) (p := 0) (e := 2) hb37_1
    exact o_retV w24 (t := .int) rfl rfl (Or.inl ⟨rfl, by simp, _, rfl⟩) o_d14_67 (by decide) (by decide) (ms' := []) all0 ⟨rfl, rfl, (by show _ = some (Value.int (o_rl (o_sm xs qs ls 0) 3 1)); rw [o_rlT z1, o_rlF z2]; rfl)⟩
   ·
    refine o_aloadN (pc' := 41) w24 o_d14_40 rfl rfl rfl ?_
    refine o_getF (pc' := 44) w24 (host := "") (Or.inl (o_w20 hw)) Via.refl F_a1_label o_d14_41 rfl fun T25 w26 => ?_
    refine o_aloadN (pc' := 45) w26 o_d14_44 rfl rfl rfl ?_
    refine o_getF (pc' := 48) w26 (host := "") (Or.inl (o_w78 hw)) Via.refl F_a1_byQuestion o_d14_45 rfl fun T27 w28 => ?_
    refine o_iloadN (pc' := 49) w28 o_d14_48 rfl rfl ?_
    refine o_ldI (pc' := 50) w28 (v := (.int (List.getD xs 2 0))) A_bq (by decide) (o_ivg rfl) o_d14_49 rfl ?_
    refine o_ldI (pc' := 51) w28 (v := (.int (List.getD ls (List.getD xs 2 0).toNatClampNeg 0))) A_la (hxr 2) (o_ivg rfl) o_d14_50 rfl ?_
    refine o_aloadN (pc' := 52) w28 o_d14_51 rfl rfl rfl ?_
    refine o_getF (pc' := 55) w28 (host := "") (Or.inl (o_w20 hw)) Via.refl F_a1_label o_d14_52 rfl fun T29 w30 => ?_
    refine o_iloadN (pc' := 56) w30 o_d14_55 rfl rfl ?_
    refine o_ldI (pc' := 57) w30 (v := (.int (List.getD ls (List.getD xs 0 0).toNatClampNeg 0))) A_la (hxr 0) (o_ivg rfl) o_d14_56 rfl ?_
    refine o_icmp (pc' := 60) w30 o_d14_57 rfl (by decide) (pcY := 66) rfl (fun (hb57_1 : ¬ (List.getD ls (List.getD xs 2 0).toNatClampNeg 0) = (List.getD ls (List.getD xs 0 0).toNatClampNeg 0)) => ?_) (fun (hb57_1 : (List.getD ls (List.getD xs 2 0).toNatClampNeg 0) = (List.getD ls (List.getD xs 0 0).toNatClampNeg 0)) => ?_)
    ·
     refine o_iloadN (pc' := 67) w30 o_d14_66 rfl rfl ?_
     have z1 := o_smT (xs := xs) (qs := qs) (ls := ls) (p := 0) (e := 1) hb37 hb57
     have z2 := o_smL (xs := xs) (qs := qs) (ls := ls) (p := 0) (e := 2) hb57_1
     exact o_retV w30 (t := .int) rfl rfl (Or.inl ⟨rfl, by simp, _, rfl⟩) o_d14_67 (by decide) (by decide) (ms' := []) all0 ⟨rfl, rfl, (by show _ = some (Value.int (o_rl (o_sm xs qs ls 0) 3 1)); rw [o_rlT z1, o_rlF z2]; rfl)⟩
    ·
     refine o_iinc (pc' := 63) w30 o_d14_60 rfl (y := (3 : Int32)) (by decide) (Ls' := #[.val (.ref a1), .val (.int (0 : Int32)), .val (.int (List.getD xs 0 0)), .val (.int (3 : Int32))]) rfl rfl ?_
     refine o_goto w30 o_d14_63 (by decide) (pc' := 11) rfl ?_
     refine o_iloadN (pc' := 12) w30 o_d14_11 rfl rfl ?_
     refine o_aloadN (pc' := 13) w30 o_d14_12 rfl rfl rfl ?_
     refine o_getF (pc' := 16) w30 (host := "") (Or.inl (o_w78 hw)) Via.refl F_a1_byQuestion o_d14_13 rfl fun T31 w32 => ?_
     refine o_len (pc' := 17) w32 A_bq o_d14_16 rfl ?_
     refine o_icmp (pc' := 20) w32 o_d14_17 rfl (by decide) (pcY := 66) rfl (fun (hb17_2 : ¬ (3 : Int32) < (4 : Int32)) => absurd hb17_2 (by decide)) (fun (hb17_2 : (3 : Int32) < (4 : Int32)) => ?_)
     refine o_aloadN (pc' := 21) w32 o_d14_20 rfl rfl rfl ?_
     refine o_getF (pc' := 24) w32 (host := "") (Or.inl (o_w16 hw)) Via.refl F_a1_question o_d14_21 rfl fun T33 w34 => ?_
     refine o_aloadN (pc' := 25) w34 o_d14_24 rfl rfl rfl ?_
     refine o_getF (pc' := 28) w34 (host := "") (Or.inl (o_w78 hw)) Via.refl F_a1_byQuestion o_d14_25 rfl fun T35 w36 => ?_
     refine o_iloadN (pc' := 29) w36 o_d14_28 rfl rfl ?_
     refine o_ldI (pc' := 30) w36 (v := (.int (List.getD xs 3 0))) A_bq (by decide) (o_ivg rfl) o_d14_29 rfl ?_
     refine o_ldI (pc' := 31) w36 (v := (.int (List.getD qs (List.getD xs 3 0).toNatClampNeg 0))) A_qa (hxr 3) (o_ivg rfl) o_d14_30 rfl ?_
     refine o_aloadN (pc' := 32) w36 o_d14_31 rfl rfl rfl ?_
     refine o_getF (pc' := 35) w36 (host := "") (Or.inl (o_w16 hw)) Via.refl F_a1_question o_d14_32 rfl fun T37 w38 => ?_
     refine o_iloadN (pc' := 36) w38 o_d14_35 rfl rfl ?_
     refine o_ldI (pc' := 37) w38 (v := (.int (List.getD qs (List.getD xs 0 0).toNatClampNeg 0))) A_qa (hxr 0) (o_ivg rfl) o_d14_36 rfl ?_
     refine o_icmp (pc' := 40) w38 o_d14_37 rfl (by decide) (pcY := 66) rfl (fun (hb37_2 : ¬ (List.getD qs (List.getD xs 3 0).toNatClampNeg 0) = (List.getD qs (List.getD xs 0 0).toNatClampNeg 0)) => ?_) (fun (hb37_2 : (List.getD qs (List.getD xs 3 0).toNatClampNeg 0) = (List.getD qs (List.getD xs 0 0).toNatClampNeg 0)) => ?_)
     ·
      refine o_iloadN (pc' := 67) w38 o_d14_66 rfl rfl ?_
      have z1 := o_smT (xs := xs) (qs := qs) (ls := ls) (p := 0) (e := 1) hb37 hb57
      have z2 := o_smT (xs := xs) (qs := qs) (ls := ls) (p := 0) (e := 2) hb37_1 hb57_1
      have z3 := o_smQ (xs := xs) (qs := qs) (ls := ls) (p := 0) (e := 3) hb37_2
      exact o_retV w38 (t := .int) rfl rfl (Or.inl ⟨rfl, by simp, _, rfl⟩) o_d14_67 (by decide) (by decide) (ms' := []) all0 ⟨rfl, rfl, (by show _ = some (Value.int (o_rl (o_sm xs qs ls 0) 3 1)); rw [o_rlT z1, o_rlT z2, o_rlF z3]; rfl)⟩
     ·
      refine o_aloadN (pc' := 41) w38 o_d14_40 rfl rfl rfl ?_
      refine o_getF (pc' := 44) w38 (host := "") (Or.inl (o_w20 hw)) Via.refl F_a1_label o_d14_41 rfl fun T39 w40 => ?_
      refine o_aloadN (pc' := 45) w40 o_d14_44 rfl rfl rfl ?_
      refine o_getF (pc' := 48) w40 (host := "") (Or.inl (o_w78 hw)) Via.refl F_a1_byQuestion o_d14_45 rfl fun T41 w42 => ?_
      refine o_iloadN (pc' := 49) w42 o_d14_48 rfl rfl ?_
      refine o_ldI (pc' := 50) w42 (v := (.int (List.getD xs 3 0))) A_bq (by decide) (o_ivg rfl) o_d14_49 rfl ?_
      refine o_ldI (pc' := 51) w42 (v := (.int (List.getD ls (List.getD xs 3 0).toNatClampNeg 0))) A_la (hxr 3) (o_ivg rfl) o_d14_50 rfl ?_
      refine o_aloadN (pc' := 52) w42 o_d14_51 rfl rfl rfl ?_
      refine o_getF (pc' := 55) w42 (host := "") (Or.inl (o_w20 hw)) Via.refl F_a1_label o_d14_52 rfl fun T43 w44 => ?_
      refine o_iloadN (pc' := 56) w44 o_d14_55 rfl rfl ?_
      refine o_ldI (pc' := 57) w44 (v := (.int (List.getD ls (List.getD xs 0 0).toNatClampNeg 0))) A_la (hxr 0) (o_ivg rfl) o_d14_56 rfl ?_
      refine o_icmp (pc' := 60) w44 o_d14_57 rfl (by decide) (pcY := 66) rfl (fun (hb57_2 : ¬ (List.getD ls (List.getD xs 3 0).toNatClampNeg 0) = (List.getD ls (List.getD xs 0 0).toNatClampNeg 0)) => ?_) (fun (hb57_2 : (List.getD ls (List.getD xs 3 0).toNatClampNeg 0) = (List.getD ls (List.getD xs 0 0).toNatClampNeg 0)) => ?_)
      ·
       refine o_iloadN (pc' := 67) w44 o_d14_66 rfl rfl ?_
       have z1 := o_smT (xs := xs) (qs := qs) (ls := ls) (p := 0) (e := 1) hb37 hb57
       have z2 := o_smT (xs := xs) (qs := qs) (ls := ls) (p := 0) (e := 2) hb37_1 hb57_1
       have z3 := o_smL (xs := xs) (qs := qs) (ls := ls) (p := 0) (e := 3) hb57_2
       exact o_retV w44 (t := .int) rfl rfl (Or.inl ⟨rfl, by simp, _, rfl⟩) o_d14_67 (by decide) (by decide) (ms' := []) all0 ⟨rfl, rfl, (by show _ = some (Value.int (o_rl (o_sm xs qs ls 0) 3 1)); rw [o_rlT z1, o_rlT z2, o_rlF z3]; rfl)⟩
      ·
       refine o_iinc (pc' := 63) w44 o_d14_60 rfl (y := (4 : Int32)) (by decide) (Ls' := #[.val (.ref a1), .val (.int (0 : Int32)), .val (.int (List.getD xs 0 0)), .val (.int (4 : Int32))]) rfl rfl ?_
       refine o_goto w44 o_d14_63 (by decide) (pc' := 11) rfl ?_
       refine o_iloadN (pc' := 12) w44 o_d14_11 rfl rfl ?_
       refine o_aloadN (pc' := 13) w44 o_d14_12 rfl rfl rfl ?_
       refine o_getF (pc' := 16) w44 (host := "") (Or.inl (o_w78 hw)) Via.refl F_a1_byQuestion o_d14_13 rfl fun T45 w46 => ?_
       refine o_len (pc' := 17) w46 A_bq o_d14_16 rfl ?_
       refine o_icmp (pc' := 20) w46 o_d14_17 rfl (by decide) (pcY := 66) rfl (fun (hb17_3 : ¬ (4 : Int32) < (4 : Int32)) => ?_) (fun (hb17_3 : (4 : Int32) < (4 : Int32)) => absurd hb17_3 (by decide))
       refine o_iloadN (pc' := 67) w46 o_d14_66 rfl rfl ?_
       have z1 := o_smT (xs := xs) (qs := qs) (ls := ls) (p := 0) (e := 1) hb37 hb57
       have z2 := o_smT (xs := xs) (qs := qs) (ls := ls) (p := 0) (e := 2) hb37_1 hb57_1
       have z3 := o_smT (xs := xs) (qs := qs) (ls := ls) (p := 0) (e := 3) hb37_2 hb57_2
       exact o_retV w46 (t := .int) rfl rfl (Or.inl ⟨rfl, by simp, _, rfl⟩) o_d14_67 (by decide) (by decide) (ms' := []) all0 ⟨rfl, rfl, (by show _ = some (Value.int (o_rl (o_sm xs qs ls 0) 3 1)); rw [o_rlT z1, o_rlT z2, o_rlT z3]; rfl)⟩
set_option maxRecDepth 100000 in
theorem o_fin0 : ∀ (f0 f1 f2 f3 : Fin 3) (g0 g1 g2 g3 : Fin 2), o_re (o_bq f0 f1 f2 f3 g0 g1 g2 g3) [Int32.ofNat g0.val, Int32.ofNat g1.val, Int32.ofNat g2.val, Int32.ofNat g3.val] [Int32.ofNat f0.val, Int32.ofNat f1.val, Int32.ofNat f2.val, Int32.ofNat f3.val] 0 = ((o_le (Int32.ofNat g0.val) (Int32.ofNat f0.val) (List.getD [Int32.ofNat g0.val, Int32.ofNat g1.val, Int32.ofNat g2.val, Int32.ofNat g3.val] (List.getD (o_bq f0 f1 f2 f3 g0 g1 g2 g3) 0 0).toNatClampNeg 0 * 3 + List.getD [Int32.ofNat f0.val, Int32.ofNat f1.val, Int32.ofNat f2.val, Int32.ofNat f3.val] (List.getD (o_bq f0 f1 f2 f3 g0 g1 g2 g3) 0 0).toNatClampNeg 0) + o_le (Int32.ofNat g1.val) (Int32.ofNat f1.val) (List.getD [Int32.ofNat g0.val, Int32.ofNat g1.val, Int32.ofNat g2.val, Int32.ofNat g3.val] (List.getD (o_bq f0 f1 f2 f3 g0 g1 g2 g3) 0 0).toNatClampNeg 0 * 3 + List.getD [Int32.ofNat f0.val, Int32.ofNat f1.val, Int32.ofNat f2.val, Int32.ofNat f3.val] (List.getD (o_bq f0 f1 f2 f3 g0 g1 g2 g3) 0 0).toNatClampNeg 0)) + o_le (Int32.ofNat g2.val) (Int32.ofNat f2.val) (List.getD [Int32.ofNat g0.val, Int32.ofNat g1.val, Int32.ofNat g2.val, Int32.ofNat g3.val] (List.getD (o_bq f0 f1 f2 f3 g0 g1 g2 g3) 0 0).toNatClampNeg 0 * 3 + List.getD [Int32.ofNat f0.val, Int32.ofNat f1.val, Int32.ofNat f2.val, Int32.ofNat f3.val] (List.getD (o_bq f0 f1 f2 f3 g0 g1 g2 g3) 0 0).toNatClampNeg 0)) + o_le (Int32.ofNat g3.val) (Int32.ofNat f3.val) (List.getD [Int32.ofNat g0.val, Int32.ofNat g1.val, Int32.ofNat g2.val, Int32.ofNat g3.val] (List.getD (o_bq f0 f1 f2 f3 g0 g1 g2 g3) 0 0).toNatClampNeg 0 * 3 + List.getD [Int32.ofNat f0.val, Int32.ofNat f1.val, Int32.ofNat f2.val, Int32.ofNat f3.val] (List.getD (o_bq f0 f1 f2 f3 g0 g1 g2 g3) 0 0).toNatClampNeg 0) := by decide +kernel
theorem o_ef_re1 (m : MethodId) (a1 : Addr) : entryFrame m #[(.ref a1), (.int (1 : Int32))] 4 = mkF m 0 #[.val (.ref a1), .val (.int (1 : Int32)), .unset, .unset] [] := by first | (simp [entryFrame, mkF, argsToLocals, Value.category]; done) | rfl
def o_Q_re1 (Z : State) (h0 : Heap) (a1 : Addr) (bq : Addr) (kb : ClassId) (xs : List Int32) (qa : Addr) (kq : ClassId) (qs : List Int32) (la : Addr) (kl : ClassId) (ls : List Int32) (v : Option Value) (h : Heap) (ms : List Addr) : Prop := (h0 = h) ∧ (ms = []) ∧ (v = some (.int (o_re xs qs ls 1)))
theorem o_ct_re1 (l : Launch) (Z : State) (a0 : Array Value) (hw : o_H a0 Z) (EL : List (String × Nat)) (hE : EW Z a0 EL) (n0 : Nat) (ws : List Jvm.Cond) (h0 : Heap) (O : Old Z n0 h0) (a1 : Addr) (bq : Addr) (kb : ClassId) (xs : List Int32) (qa : Addr) (kq : ClassId) (qs : List Int32) (la : Addr) (kl : ClassId) (ls : List Int32) (F_a1_byQuestion : Fld Z h0 a1 "com/example/throng/throng/engine/NumberedAnswers" "byQuestion" "[I" (.ref bq)) (A_bq : Arv Z h0 bq kb .int (4 : Int32) (o_iv xs) (.int 0)) (F_a1_question : Fld Z h0 a1 "com/example/throng/throng/engine/NumberedAnswers" "question" "[I" (.ref qa)) (A_qa : Arv Z h0 qa kq .int (4 : Int32) (o_iv qs) (.int 0)) (F_a1_label : Fld Z h0 a1 "com/example/throng/throng/engine/NumberedAnswers" "label" "[I" (.ref la)) (A_la : Arv Z h0 la kl .int (4 : Int32) (o_iv ls) (.int 0)) (hxr : ∀ i : Fin 4, ¬ List.getD xs i.val 0 < 0 ∧ List.getD xs i.val 0 < 4) :
    o_Ct l Z EL n0 (⟨"com/example/throng/throng/engine/NumberedAnswers", "runEnd", "(I)I"⟩ : MethodName) prog_86_method_11_code 4 (some .int) ws ({ frames := 0, cells := 0, slots := 0, locals := 0 } : Room) #[(.ref a1), (.int (1 : Int32))] h0 [] (o_Q_re1 Z h0 a1 bq kb xs qa kq qs la kl ls) := by
 refine o_enter (a0 := a0) o_pf14 hE O fun p e s m below meth c T0 w0 => ?_
 rw [o_ef_re1 m a1]
 refine o_aloadN (pc' := 1) w0 o_d14_0 rfl rfl rfl ?_
 refine o_getF (pc' := 4) w0 (host := "") (Or.inl (o_w78 hw)) Via.refl F_a1_byQuestion o_d14_1 rfl fun T1 w2 => ?_
 refine o_iloadN (pc' := 5) w2 o_d14_4 rfl rfl ?_
 refine o_ldI (pc' := 6) w2 (v := (.int (List.getD xs 1 0))) A_bq (by decide) (o_ivg rfl) o_d14_5 rfl ?_
 refine o_istoreN (pc' := 7) w2 o_d14_6 (Ls' := #[.val (.ref a1), .val (.int (1 : Int32)), .val (.int (List.getD xs 1 0)), .unset]) rfl rfl ?_
 refine o_iloadN (pc' := 8) w2 o_d14_7 rfl rfl ?_
 refine o_iconst (pc' := 9) w2 o_d14_8 (x := (1 : Int32)) rfl rfl ?_
 refine o_iadd (pc' := 10) w2 o_d14_9 (z := (2 : Int32)) (by decide) rfl ?_
 refine o_istoreN (pc' := 11) w2 o_d14_10 (Ls' := #[.val (.ref a1), .val (.int (1 : Int32)), .val (.int (List.getD xs 1 0)), .val (.int (2 : Int32))]) rfl rfl ?_
 refine o_iloadN (pc' := 12) w2 o_d14_11 rfl rfl ?_
 refine o_aloadN (pc' := 13) w2 o_d14_12 rfl rfl rfl ?_
 refine o_getF (pc' := 16) w2 (host := "") (Or.inl (o_w78 hw)) Via.refl F_a1_byQuestion o_d14_13 rfl fun T3 w4 => ?_
 refine o_len (pc' := 17) w4 A_bq o_d14_16 rfl ?_
 refine o_icmp (pc' := 20) w4 o_d14_17 rfl (by decide) (pcY := 66) rfl (fun (hb17 : ¬ (2 : Int32) < (4 : Int32)) => absurd hb17 (by decide)) (fun (hb17 : (2 : Int32) < (4 : Int32)) => ?_)
 refine o_aloadN (pc' := 21) w4 o_d14_20 rfl rfl rfl ?_
 refine o_getF (pc' := 24) w4 (host := "") (Or.inl (o_w16 hw)) Via.refl F_a1_question o_d14_21 rfl fun T5 w6 => ?_
 refine o_aloadN (pc' := 25) w6 o_d14_24 rfl rfl rfl ?_
 refine o_getF (pc' := 28) w6 (host := "") (Or.inl (o_w78 hw)) Via.refl F_a1_byQuestion o_d14_25 rfl fun T7 w8 => ?_
 refine o_iloadN (pc' := 29) w8 o_d14_28 rfl rfl ?_
 refine o_ldI (pc' := 30) w8 (v := (.int (List.getD xs 2 0))) A_bq (by decide) (o_ivg rfl) o_d14_29 rfl ?_
 refine o_ldI (pc' := 31) w8 (v := (.int (List.getD qs (List.getD xs 2 0).toNatClampNeg 0))) A_qa (hxr 2) (o_ivg rfl) o_d14_30 rfl ?_
 refine o_aloadN (pc' := 32) w8 o_d14_31 rfl rfl rfl ?_
 refine o_getF (pc' := 35) w8 (host := "") (Or.inl (o_w16 hw)) Via.refl F_a1_question o_d14_32 rfl fun T9 w10 => ?_
 refine o_iloadN (pc' := 36) w10 o_d14_35 rfl rfl ?_
 refine o_ldI (pc' := 37) w10 (v := (.int (List.getD qs (List.getD xs 1 0).toNatClampNeg 0))) A_qa (hxr 1) (o_ivg rfl) o_d14_36 rfl ?_
 refine o_icmp (pc' := 40) w10 o_d14_37 rfl (by decide) (pcY := 66) rfl (fun (hb37 : ¬ (List.getD qs (List.getD xs 2 0).toNatClampNeg 0) = (List.getD qs (List.getD xs 1 0).toNatClampNeg 0)) => ?_) (fun (hb37 : (List.getD qs (List.getD xs 2 0).toNatClampNeg 0) = (List.getD qs (List.getD xs 1 0).toNatClampNeg 0)) => ?_)
 ·
  refine o_iloadN (pc' := 67) w10 o_d14_66 rfl rfl ?_
  have z2 := o_smQ (xs := xs) (qs := qs) (ls := ls) (p := 1) (e := 2) hb37
  exact o_retV w10 (t := .int) rfl rfl (Or.inl ⟨rfl, by simp, _, rfl⟩) o_d14_67 (by decide) (by decide) (ms' := []) all0 ⟨rfl, rfl, (by show _ = some (Value.int (o_rl (o_sm xs qs ls 1) 2 2)); rw [o_rlF z2]; rfl)⟩
 ·
  refine o_aloadN (pc' := 41) w10 o_d14_40 rfl rfl rfl ?_
  refine o_getF (pc' := 44) w10 (host := "") (Or.inl (o_w20 hw)) Via.refl F_a1_label o_d14_41 rfl fun T11 w12 => ?_
  refine o_aloadN (pc' := 45) w12 o_d14_44 rfl rfl rfl ?_
  refine o_getF (pc' := 48) w12 (host := "") (Or.inl (o_w78 hw)) Via.refl F_a1_byQuestion o_d14_45 rfl fun T13 w14 => ?_
  refine o_iloadN (pc' := 49) w14 o_d14_48 rfl rfl ?_
  refine o_ldI (pc' := 50) w14 (v := (.int (List.getD xs 2 0))) A_bq (by decide) (o_ivg rfl) o_d14_49 rfl ?_
  refine o_ldI (pc' := 51) w14 (v := (.int (List.getD ls (List.getD xs 2 0).toNatClampNeg 0))) A_la (hxr 2) (o_ivg rfl) o_d14_50 rfl ?_
  refine o_aloadN (pc' := 52) w14 o_d14_51 rfl rfl rfl ?_
  refine o_getF (pc' := 55) w14 (host := "") (Or.inl (o_w20 hw)) Via.refl F_a1_label o_d14_52 rfl fun T15 w16 => ?_
  refine o_iloadN (pc' := 56) w16 o_d14_55 rfl rfl ?_
  refine o_ldI (pc' := 57) w16 (v := (.int (List.getD ls (List.getD xs 1 0).toNatClampNeg 0))) A_la (hxr 1) (o_ivg rfl) o_d14_56 rfl ?_
  refine o_icmp (pc' := 60) w16 o_d14_57 rfl (by decide) (pcY := 66) rfl (fun (hb57 : ¬ (List.getD ls (List.getD xs 2 0).toNatClampNeg 0) = (List.getD ls (List.getD xs 1 0).toNatClampNeg 0)) => ?_) (fun (hb57 : (List.getD ls (List.getD xs 2 0).toNatClampNeg 0) = (List.getD ls (List.getD xs 1 0).toNatClampNeg 0)) => ?_)
  ·
   refine o_iloadN (pc' := 67) w16 o_d14_66 rfl rfl ?_
   have z2 := o_smL (xs := xs) (qs := qs) (ls := ls) (p := 1) (e := 2) hb57
   exact o_retV w16 (t := .int) rfl rfl (Or.inl ⟨rfl, by simp, _, rfl⟩) o_d14_67 (by decide) (by decide) (ms' := []) all0 ⟨rfl, rfl, (by show _ = some (Value.int (o_rl (o_sm xs qs ls 1) 2 2)); rw [o_rlF z2]; rfl)⟩
  ·
   refine o_iinc (pc' := 63) w16 o_d14_60 rfl (y := (3 : Int32)) (by decide) (Ls' := #[.val (.ref a1), .val (.int (1 : Int32)), .val (.int (List.getD xs 1 0)), .val (.int (3 : Int32))]) rfl rfl ?_
   refine o_goto w16 o_d14_63 (by decide) (pc' := 11) rfl ?_
   refine o_iloadN (pc' := 12) w16 o_d14_11 rfl rfl ?_
   refine o_aloadN (pc' := 13) w16 o_d14_12 rfl rfl rfl ?_
   refine o_getF (pc' := 16) w16 (host := "") (Or.inl (o_w78 hw)) Via.refl F_a1_byQuestion o_d14_13 rfl fun T17 w18 => ?_
   refine o_len (pc' := 17) w18 A_bq o_d14_16 rfl ?_
   refine o_icmp (pc' := 20) w18 o_d14_17 rfl (by decide) (pcY := 66) rfl (fun (hb17_1 : ¬ (3 : Int32) < (4 : Int32)) => absurd hb17_1 (by decide)) (fun (hb17_1 : (3 : Int32) < (4 : Int32)) => ?_)
   refine o_aloadN (pc' := 21) w18 o_d14_20 rfl rfl rfl ?_
   refine o_getF (pc' := 24) w18 (host := "") (Or.inl (o_w16 hw)) Via.refl F_a1_question o_d14_21 rfl fun T19 w20 => ?_
   refine o_aloadN (pc' := 25) w20 o_d14_24 rfl rfl rfl ?_
   refine o_getF (pc' := 28) w20 (host := "") (Or.inl (o_w78 hw)) Via.refl F_a1_byQuestion o_d14_25 rfl fun T21 w22 => ?_
   refine o_iloadN (pc' := 29) w22 o_d14_28 rfl rfl ?_
   refine o_ldI (pc' := 30) w22 (v := (.int (List.getD xs 3 0))) A_bq (by decide) (o_ivg rfl) o_d14_29 rfl ?_
   refine o_ldI (pc' := 31) w22 (v := (.int (List.getD qs (List.getD xs 3 0).toNatClampNeg 0))) A_qa (hxr 3) (o_ivg rfl) o_d14_30 rfl ?_
   refine o_aloadN (pc' := 32) w22 o_d14_31 rfl rfl rfl ?_
   refine o_getF (pc' := 35) w22 (host := "") (Or.inl (o_w16 hw)) Via.refl F_a1_question o_d14_32 rfl fun T23 w24 => ?_
   refine o_iloadN (pc' := 36) w24 o_d14_35 rfl rfl ?_
   refine o_ldI (pc' := 37) w24 (v := (.int (List.getD qs (List.getD xs 1 0).toNatClampNeg 0))) A_qa (hxr 1) (o_ivg rfl) o_d14_36 rfl ?_
   refine o_icmp (pc' := 40) w24 o_d14_37 rfl (by decide) (pcY := 66) rfl (fun (hb37_1 : ¬ (List.getD qs (List.getD xs 3 0).toNatClampNeg 0) = (List.getD qs (List.getD xs 1 0).toNatClampNeg 0)) => ?_) (fun (hb37_1 : (List.getD qs (List.getD xs 3 0).toNatClampNeg 0) = (List.getD qs (List.getD xs 1 0).toNatClampNeg 0)) => ?_)
   ·
    refine o_iloadN (pc' := 67) w24 o_d14_66 rfl rfl ?_
    have z2 := o_smT (xs := xs) (qs := qs) (ls := ls) (p := 1) (e := 2) hb37 hb57
    have z3 := o_smQ (xs := xs) (qs := qs) (ls := ls) (p := 1) (e := 3) hb37_1
    exact o_retV w24 (t := .int) rfl rfl (Or.inl ⟨rfl, by simp, _, rfl⟩) o_d14_67 (by decide) (by decide) (ms' := []) all0 ⟨rfl, rfl, (by show _ = some (Value.int (o_rl (o_sm xs qs ls 1) 2 2)); rw [o_rlT z2, o_rlF z3]; rfl)⟩
   ·
    refine o_aloadN (pc' := 41) w24 o_d14_40 rfl rfl rfl ?_
    refine o_getF (pc' := 44) w24 (host := "") (Or.inl (o_w20 hw)) Via.refl F_a1_label o_d14_41 rfl fun T25 w26 => ?_
    refine o_aloadN (pc' := 45) w26 o_d14_44 rfl rfl rfl ?_
    refine o_getF (pc' := 48) w26 (host := "") (Or.inl (o_w78 hw)) Via.refl F_a1_byQuestion o_d14_45 rfl fun T27 w28 => ?_
    refine o_iloadN (pc' := 49) w28 o_d14_48 rfl rfl ?_
    refine o_ldI (pc' := 50) w28 (v := (.int (List.getD xs 3 0))) A_bq (by decide) (o_ivg rfl) o_d14_49 rfl ?_
    refine o_ldI (pc' := 51) w28 (v := (.int (List.getD ls (List.getD xs 3 0).toNatClampNeg 0))) A_la (hxr 3) (o_ivg rfl) o_d14_50 rfl ?_
    refine o_aloadN (pc' := 52) w28 o_d14_51 rfl rfl rfl ?_
    refine o_getF (pc' := 55) w28 (host := "") (Or.inl (o_w20 hw)) Via.refl F_a1_label o_d14_52 rfl fun T29 w30 => ?_
    refine o_iloadN (pc' := 56) w30 o_d14_55 rfl rfl ?_
    refine o_ldI (pc' := 57) w30 (v := (.int (List.getD ls (List.getD xs 1 0).toNatClampNeg 0))) A_la (hxr 1) (o_ivg rfl) o_d14_56 rfl ?_
    refine o_icmp (pc' := 60) w30 o_d14_57 rfl (by decide) (pcY := 66) rfl (fun (hb57_1 : ¬ (List.getD ls (List.getD xs 3 0).toNatClampNeg 0) = (List.getD ls (List.getD xs 1 0).toNatClampNeg 0)) => ?_) (fun (hb57_1 : (List.getD ls (List.getD xs 3 0).toNatClampNeg 0) = (List.getD ls (List.getD xs 1 0).toNatClampNeg 0)) => ?_)
    ·
     refine o_iloadN (pc' := 67) w30 o_d14_66 rfl rfl ?_
     have z2 := o_smT (xs := xs) (qs := qs) (ls := ls) (p := 1) (e := 2) hb37 hb57
     have z3 := o_smL (xs := xs) (qs := qs) (ls := ls) (p := 1) (e := 3) hb57_1
     exact o_retV w30 (t := .int) rfl rfl (Or.inl ⟨rfl, by simp, _, rfl⟩) o_d14_67 (by decide) (by decide) (ms' := []) all0 ⟨rfl, rfl, (by show _ = some (Value.int (o_rl (o_sm xs qs ls 1) 2 2)); rw [o_rlT z2, o_rlF z3]; rfl)⟩
    ·
     refine o_iinc (pc' := 63) w30 o_d14_60 rfl (y := (4 : Int32)) (by decide) (Ls' := #[.val (.ref a1), .val (.int (1 : Int32)), .val (.int (List.getD xs 1 0)), .val (.int (4 : Int32))]) rfl rfl ?_
     refine o_goto w30 o_d14_63 (by decide) (pc' := 11) rfl ?_
     refine o_iloadN (pc' := 12) w30 o_d14_11 rfl rfl ?_
     refine o_aloadN (pc' := 13) w30 o_d14_12 rfl rfl rfl ?_
     refine o_getF (pc' := 16) w30 (host := "") (Or.inl (o_w78 hw)) Via.refl F_a1_byQuestion o_d14_13 rfl fun T31 w32 => ?_
     refine o_len (pc' := 17) w32 A_bq o_d14_16 rfl ?_
     refine o_icmp (pc' := 20) w32 o_d14_17 rfl (by decide) (pcY := 66) rfl (fun (hb17_2 : ¬ (4 : Int32) < (4 : Int32)) => ?_) (fun (hb17_2 : (4 : Int32) < (4 : Int32)) => absurd hb17_2 (by decide))
     refine o_iloadN (pc' := 67) w32 o_d14_66 rfl rfl ?_
     have z2 := o_smT (xs := xs) (qs := qs) (ls := ls) (p := 1) (e := 2) hb37 hb57
     have z3 := o_smT (xs := xs) (qs := qs) (ls := ls) (p := 1) (e := 3) hb37_1 hb57_1
     exact o_retV w32 (t := .int) rfl rfl (Or.inl ⟨rfl, by simp, _, rfl⟩) o_d14_67 (by decide) (by decide) (ms' := []) all0 ⟨rfl, rfl, (by show _ = some (Value.int (o_rl (o_sm xs qs ls 1) 2 2)); rw [o_rlT z2, o_rlT z3]; rfl)⟩
set_option maxRecDepth 100000 in
theorem o_fin1 : ∀ (f0 f1 f2 f3 : Fin 3) (g0 g1 g2 g3 : Fin 2), o_re (o_bq f0 f1 f2 f3 g0 g1 g2 g3) [Int32.ofNat g0.val, Int32.ofNat g1.val, Int32.ofNat g2.val, Int32.ofNat g3.val] [Int32.ofNat f0.val, Int32.ofNat f1.val, Int32.ofNat f2.val, Int32.ofNat f3.val] 1 = ((o_le (Int32.ofNat g0.val) (Int32.ofNat f0.val) (List.getD [Int32.ofNat g0.val, Int32.ofNat g1.val, Int32.ofNat g2.val, Int32.ofNat g3.val] (List.getD (o_bq f0 f1 f2 f3 g0 g1 g2 g3) 1 0).toNatClampNeg 0 * 3 + List.getD [Int32.ofNat f0.val, Int32.ofNat f1.val, Int32.ofNat f2.val, Int32.ofNat f3.val] (List.getD (o_bq f0 f1 f2 f3 g0 g1 g2 g3) 1 0).toNatClampNeg 0) + o_le (Int32.ofNat g1.val) (Int32.ofNat f1.val) (List.getD [Int32.ofNat g0.val, Int32.ofNat g1.val, Int32.ofNat g2.val, Int32.ofNat g3.val] (List.getD (o_bq f0 f1 f2 f3 g0 g1 g2 g3) 1 0).toNatClampNeg 0 * 3 + List.getD [Int32.ofNat f0.val, Int32.ofNat f1.val, Int32.ofNat f2.val, Int32.ofNat f3.val] (List.getD (o_bq f0 f1 f2 f3 g0 g1 g2 g3) 1 0).toNatClampNeg 0)) + o_le (Int32.ofNat g2.val) (Int32.ofNat f2.val) (List.getD [Int32.ofNat g0.val, Int32.ofNat g1.val, Int32.ofNat g2.val, Int32.ofNat g3.val] (List.getD (o_bq f0 f1 f2 f3 g0 g1 g2 g3) 1 0).toNatClampNeg 0 * 3 + List.getD [Int32.ofNat f0.val, Int32.ofNat f1.val, Int32.ofNat f2.val, Int32.ofNat f3.val] (List.getD (o_bq f0 f1 f2 f3 g0 g1 g2 g3) 1 0).toNatClampNeg 0)) + o_le (Int32.ofNat g3.val) (Int32.ofNat f3.val) (List.getD [Int32.ofNat g0.val, Int32.ofNat g1.val, Int32.ofNat g2.val, Int32.ofNat g3.val] (List.getD (o_bq f0 f1 f2 f3 g0 g1 g2 g3) 1 0).toNatClampNeg 0 * 3 + List.getD [Int32.ofNat f0.val, Int32.ofNat f1.val, Int32.ofNat f2.val, Int32.ofNat f3.val] (List.getD (o_bq f0 f1 f2 f3 g0 g1 g2 g3) 1 0).toNatClampNeg 0) := by decide +kernel
theorem o_ef_re2 (m : MethodId) (a1 : Addr) : entryFrame m #[(.ref a1), (.int (2 : Int32))] 4 = mkF m 0 #[.val (.ref a1), .val (.int (2 : Int32)), .unset, .unset] [] := by first | (simp [entryFrame, mkF, argsToLocals, Value.category]; done) | rfl
def o_Q_re2 (Z : State) (h0 : Heap) (a1 : Addr) (bq : Addr) (kb : ClassId) (xs : List Int32) (qa : Addr) (kq : ClassId) (qs : List Int32) (la : Addr) (kl : ClassId) (ls : List Int32) (v : Option Value) (h : Heap) (ms : List Addr) : Prop := (h0 = h) ∧ (ms = []) ∧ (v = some (.int (o_re xs qs ls 2)))
theorem o_ct_re2 (l : Launch) (Z : State) (a0 : Array Value) (hw : o_H a0 Z) (EL : List (String × Nat)) (hE : EW Z a0 EL) (n0 : Nat) (ws : List Jvm.Cond) (h0 : Heap) (O : Old Z n0 h0) (a1 : Addr) (bq : Addr) (kb : ClassId) (xs : List Int32) (qa : Addr) (kq : ClassId) (qs : List Int32) (la : Addr) (kl : ClassId) (ls : List Int32) (F_a1_byQuestion : Fld Z h0 a1 "com/example/throng/throng/engine/NumberedAnswers" "byQuestion" "[I" (.ref bq)) (A_bq : Arv Z h0 bq kb .int (4 : Int32) (o_iv xs) (.int 0)) (F_a1_question : Fld Z h0 a1 "com/example/throng/throng/engine/NumberedAnswers" "question" "[I" (.ref qa)) (A_qa : Arv Z h0 qa kq .int (4 : Int32) (o_iv qs) (.int 0)) (F_a1_label : Fld Z h0 a1 "com/example/throng/throng/engine/NumberedAnswers" "label" "[I" (.ref la)) (A_la : Arv Z h0 la kl .int (4 : Int32) (o_iv ls) (.int 0)) (hxr : ∀ i : Fin 4, ¬ List.getD xs i.val 0 < 0 ∧ List.getD xs i.val 0 < 4) :
    o_Ct l Z EL n0 (⟨"com/example/throng/throng/engine/NumberedAnswers", "runEnd", "(I)I"⟩ : MethodName) prog_86_method_11_code 4 (some .int) ws ({ frames := 0, cells := 0, slots := 0, locals := 0 } : Room) #[(.ref a1), (.int (2 : Int32))] h0 [] (o_Q_re2 Z h0 a1 bq kb xs qa kq qs la kl ls) := by
 refine o_enter (a0 := a0) o_pf14 hE O fun p e s m below meth c T0 w0 => ?_
 rw [o_ef_re2 m a1]
 refine o_aloadN (pc' := 1) w0 o_d14_0 rfl rfl rfl ?_
 refine o_getF (pc' := 4) w0 (host := "") (Or.inl (o_w78 hw)) Via.refl F_a1_byQuestion o_d14_1 rfl fun T1 w2 => ?_
 refine o_iloadN (pc' := 5) w2 o_d14_4 rfl rfl ?_
 refine o_ldI (pc' := 6) w2 (v := (.int (List.getD xs 2 0))) A_bq (by decide) (o_ivg rfl) o_d14_5 rfl ?_
 refine o_istoreN (pc' := 7) w2 o_d14_6 (Ls' := #[.val (.ref a1), .val (.int (2 : Int32)), .val (.int (List.getD xs 2 0)), .unset]) rfl rfl ?_
 refine o_iloadN (pc' := 8) w2 o_d14_7 rfl rfl ?_
 refine o_iconst (pc' := 9) w2 o_d14_8 (x := (1 : Int32)) rfl rfl ?_
 refine o_iadd (pc' := 10) w2 o_d14_9 (z := (3 : Int32)) (by decide) rfl ?_
 refine o_istoreN (pc' := 11) w2 o_d14_10 (Ls' := #[.val (.ref a1), .val (.int (2 : Int32)), .val (.int (List.getD xs 2 0)), .val (.int (3 : Int32))]) rfl rfl ?_
 refine o_iloadN (pc' := 12) w2 o_d14_11 rfl rfl ?_
 refine o_aloadN (pc' := 13) w2 o_d14_12 rfl rfl rfl ?_
 refine o_getF (pc' := 16) w2 (host := "") (Or.inl (o_w78 hw)) Via.refl F_a1_byQuestion o_d14_13 rfl fun T3 w4 => ?_
 refine o_len (pc' := 17) w4 A_bq o_d14_16 rfl ?_
 refine o_icmp (pc' := 20) w4 o_d14_17 rfl (by decide) (pcY := 66) rfl (fun (hb17 : ¬ (3 : Int32) < (4 : Int32)) => absurd hb17 (by decide)) (fun (hb17 : (3 : Int32) < (4 : Int32)) => ?_)
 refine o_aloadN (pc' := 21) w4 o_d14_20 rfl rfl rfl ?_
 refine o_getF (pc' := 24) w4 (host := "") (Or.inl (o_w16 hw)) Via.refl F_a1_question o_d14_21 rfl fun T5 w6 => ?_
 refine o_aloadN (pc' := 25) w6 o_d14_24 rfl rfl rfl ?_
 refine o_getF (pc' := 28) w6 (host := "") (Or.inl (o_w78 hw)) Via.refl F_a1_byQuestion o_d14_25 rfl fun T7 w8 => ?_
 refine o_iloadN (pc' := 29) w8 o_d14_28 rfl rfl ?_
 refine o_ldI (pc' := 30) w8 (v := (.int (List.getD xs 3 0))) A_bq (by decide) (o_ivg rfl) o_d14_29 rfl ?_
 refine o_ldI (pc' := 31) w8 (v := (.int (List.getD qs (List.getD xs 3 0).toNatClampNeg 0))) A_qa (hxr 3) (o_ivg rfl) o_d14_30 rfl ?_
 refine o_aloadN (pc' := 32) w8 o_d14_31 rfl rfl rfl ?_
 refine o_getF (pc' := 35) w8 (host := "") (Or.inl (o_w16 hw)) Via.refl F_a1_question o_d14_32 rfl fun T9 w10 => ?_
 refine o_iloadN (pc' := 36) w10 o_d14_35 rfl rfl ?_
 refine o_ldI (pc' := 37) w10 (v := (.int (List.getD qs (List.getD xs 2 0).toNatClampNeg 0))) A_qa (hxr 2) (o_ivg rfl) o_d14_36 rfl ?_
 refine o_icmp (pc' := 40) w10 o_d14_37 rfl (by decide) (pcY := 66) rfl (fun (hb37 : ¬ (List.getD qs (List.getD xs 3 0).toNatClampNeg 0) = (List.getD qs (List.getD xs 2 0).toNatClampNeg 0)) => ?_) (fun (hb37 : (List.getD qs (List.getD xs 3 0).toNatClampNeg 0) = (List.getD qs (List.getD xs 2 0).toNatClampNeg 0)) => ?_)
 ·
  refine o_iloadN (pc' := 67) w10 o_d14_66 rfl rfl ?_
  have z3 := o_smQ (xs := xs) (qs := qs) (ls := ls) (p := 2) (e := 3) hb37
  exact o_retV w10 (t := .int) rfl rfl (Or.inl ⟨rfl, by simp, _, rfl⟩) o_d14_67 (by decide) (by decide) (ms' := []) all0 ⟨rfl, rfl, (by show _ = some (Value.int (o_rl (o_sm xs qs ls 2) 1 3)); rw [o_rlF z3]; rfl)⟩
 ·
  refine o_aloadN (pc' := 41) w10 o_d14_40 rfl rfl rfl ?_
  refine o_getF (pc' := 44) w10 (host := "") (Or.inl (o_w20 hw)) Via.refl F_a1_label o_d14_41 rfl fun T11 w12 => ?_
  refine o_aloadN (pc' := 45) w12 o_d14_44 rfl rfl rfl ?_
  refine o_getF (pc' := 48) w12 (host := "") (Or.inl (o_w78 hw)) Via.refl F_a1_byQuestion o_d14_45 rfl fun T13 w14 => ?_
  refine o_iloadN (pc' := 49) w14 o_d14_48 rfl rfl ?_
  refine o_ldI (pc' := 50) w14 (v := (.int (List.getD xs 3 0))) A_bq (by decide) (o_ivg rfl) o_d14_49 rfl ?_
  refine o_ldI (pc' := 51) w14 (v := (.int (List.getD ls (List.getD xs 3 0).toNatClampNeg 0))) A_la (hxr 3) (o_ivg rfl) o_d14_50 rfl ?_
  refine o_aloadN (pc' := 52) w14 o_d14_51 rfl rfl rfl ?_
  refine o_getF (pc' := 55) w14 (host := "") (Or.inl (o_w20 hw)) Via.refl F_a1_label o_d14_52 rfl fun T15 w16 => ?_
  refine o_iloadN (pc' := 56) w16 o_d14_55 rfl rfl ?_
  refine o_ldI (pc' := 57) w16 (v := (.int (List.getD ls (List.getD xs 2 0).toNatClampNeg 0))) A_la (hxr 2) (o_ivg rfl) o_d14_56 rfl ?_
  refine o_icmp (pc' := 60) w16 o_d14_57 rfl (by decide) (pcY := 66) rfl (fun (hb57 : ¬ (List.getD ls (List.getD xs 3 0).toNatClampNeg 0) = (List.getD ls (List.getD xs 2 0).toNatClampNeg 0)) => ?_) (fun (hb57 : (List.getD ls (List.getD xs 3 0).toNatClampNeg 0) = (List.getD ls (List.getD xs 2 0).toNatClampNeg 0)) => ?_)
  ·
   refine o_iloadN (pc' := 67) w16 o_d14_66 rfl rfl ?_
   have z3 := o_smL (xs := xs) (qs := qs) (ls := ls) (p := 2) (e := 3) hb57
   exact o_retV w16 (t := .int) rfl rfl (Or.inl ⟨rfl, by simp, _, rfl⟩) o_d14_67 (by decide) (by decide) (ms' := []) all0 ⟨rfl, rfl, (by show _ = some (Value.int (o_rl (o_sm xs qs ls 2) 1 3)); rw [o_rlF z3]; rfl)⟩
  ·
   refine o_iinc (pc' := 63) w16 o_d14_60 rfl (y := (4 : Int32)) (by decide) (Ls' := #[.val (.ref a1), .val (.int (2 : Int32)), .val (.int (List.getD xs 2 0)), .val (.int (4 : Int32))]) rfl rfl ?_
   refine o_goto w16 o_d14_63 (by decide) (pc' := 11) rfl ?_
   refine o_iloadN (pc' := 12) w16 o_d14_11 rfl rfl ?_
   refine o_aloadN (pc' := 13) w16 o_d14_12 rfl rfl rfl ?_
   refine o_getF (pc' := 16) w16 (host := "") (Or.inl (o_w78 hw)) Via.refl F_a1_byQuestion o_d14_13 rfl fun T17 w18 => ?_
   refine o_len (pc' := 17) w18 A_bq o_d14_16 rfl ?_
   refine o_icmp (pc' := 20) w18 o_d14_17 rfl (by decide) (pcY := 66) rfl (fun (hb17_1 : ¬ (4 : Int32) < (4 : Int32)) => ?_) (fun (hb17_1 : (4 : Int32) < (4 : Int32)) => absurd hb17_1 (by decide))
   refine o_iloadN (pc' := 67) w18 o_d14_66 rfl rfl ?_
   have z3 := o_smT (xs := xs) (qs := qs) (ls := ls) (p := 2) (e := 3) hb37 hb57
   exact o_retV w18 (t := .int) rfl rfl (Or.inl ⟨rfl, by simp, _, rfl⟩) o_d14_67 (by decide) (by decide) (ms' := []) all0 ⟨rfl, rfl, (by show _ = some (Value.int (o_rl (o_sm xs qs ls 2) 1 3)); rw [o_rlT z3]; rfl)⟩
set_option maxRecDepth 100000 in
theorem o_fin2 : ∀ (f0 f1 f2 f3 : Fin 3) (g0 g1 g2 g3 : Fin 2), o_re (o_bq f0 f1 f2 f3 g0 g1 g2 g3) [Int32.ofNat g0.val, Int32.ofNat g1.val, Int32.ofNat g2.val, Int32.ofNat g3.val] [Int32.ofNat f0.val, Int32.ofNat f1.val, Int32.ofNat f2.val, Int32.ofNat f3.val] 2 = ((o_le (Int32.ofNat g0.val) (Int32.ofNat f0.val) (List.getD [Int32.ofNat g0.val, Int32.ofNat g1.val, Int32.ofNat g2.val, Int32.ofNat g3.val] (List.getD (o_bq f0 f1 f2 f3 g0 g1 g2 g3) 2 0).toNatClampNeg 0 * 3 + List.getD [Int32.ofNat f0.val, Int32.ofNat f1.val, Int32.ofNat f2.val, Int32.ofNat f3.val] (List.getD (o_bq f0 f1 f2 f3 g0 g1 g2 g3) 2 0).toNatClampNeg 0) + o_le (Int32.ofNat g1.val) (Int32.ofNat f1.val) (List.getD [Int32.ofNat g0.val, Int32.ofNat g1.val, Int32.ofNat g2.val, Int32.ofNat g3.val] (List.getD (o_bq f0 f1 f2 f3 g0 g1 g2 g3) 2 0).toNatClampNeg 0 * 3 + List.getD [Int32.ofNat f0.val, Int32.ofNat f1.val, Int32.ofNat f2.val, Int32.ofNat f3.val] (List.getD (o_bq f0 f1 f2 f3 g0 g1 g2 g3) 2 0).toNatClampNeg 0)) + o_le (Int32.ofNat g2.val) (Int32.ofNat f2.val) (List.getD [Int32.ofNat g0.val, Int32.ofNat g1.val, Int32.ofNat g2.val, Int32.ofNat g3.val] (List.getD (o_bq f0 f1 f2 f3 g0 g1 g2 g3) 2 0).toNatClampNeg 0 * 3 + List.getD [Int32.ofNat f0.val, Int32.ofNat f1.val, Int32.ofNat f2.val, Int32.ofNat f3.val] (List.getD (o_bq f0 f1 f2 f3 g0 g1 g2 g3) 2 0).toNatClampNeg 0)) + o_le (Int32.ofNat g3.val) (Int32.ofNat f3.val) (List.getD [Int32.ofNat g0.val, Int32.ofNat g1.val, Int32.ofNat g2.val, Int32.ofNat g3.val] (List.getD (o_bq f0 f1 f2 f3 g0 g1 g2 g3) 2 0).toNatClampNeg 0 * 3 + List.getD [Int32.ofNat f0.val, Int32.ofNat f1.val, Int32.ofNat f2.val, Int32.ofNat f3.val] (List.getD (o_bq f0 f1 f2 f3 g0 g1 g2 g3) 2 0).toNatClampNeg 0) := by decide +kernel
theorem o_ef_re3 (m : MethodId) (a1 : Addr) : entryFrame m #[(.ref a1), (.int (3 : Int32))] 4 = mkF m 0 #[.val (.ref a1), .val (.int (3 : Int32)), .unset, .unset] [] := by first | (simp [entryFrame, mkF, argsToLocals, Value.category]; done) | rfl
def o_Q_re3 (Z : State) (h0 : Heap) (a1 : Addr) (bq : Addr) (kb : ClassId) (xs : List Int32) (qa : Addr) (kq : ClassId) (qs : List Int32) (la : Addr) (kl : ClassId) (ls : List Int32) (v : Option Value) (h : Heap) (ms : List Addr) : Prop := (h0 = h) ∧ (ms = []) ∧ (v = some (.int (o_re xs qs ls 3)))
theorem o_ct_re3 (l : Launch) (Z : State) (a0 : Array Value) (hw : o_H a0 Z) (EL : List (String × Nat)) (hE : EW Z a0 EL) (n0 : Nat) (ws : List Jvm.Cond) (h0 : Heap) (O : Old Z n0 h0) (a1 : Addr) (bq : Addr) (kb : ClassId) (xs : List Int32) (qa : Addr) (kq : ClassId) (qs : List Int32) (la : Addr) (kl : ClassId) (ls : List Int32) (F_a1_byQuestion : Fld Z h0 a1 "com/example/throng/throng/engine/NumberedAnswers" "byQuestion" "[I" (.ref bq)) (A_bq : Arv Z h0 bq kb .int (4 : Int32) (o_iv xs) (.int 0)) (F_a1_question : Fld Z h0 a1 "com/example/throng/throng/engine/NumberedAnswers" "question" "[I" (.ref qa)) (A_qa : Arv Z h0 qa kq .int (4 : Int32) (o_iv qs) (.int 0)) (F_a1_label : Fld Z h0 a1 "com/example/throng/throng/engine/NumberedAnswers" "label" "[I" (.ref la)) (A_la : Arv Z h0 la kl .int (4 : Int32) (o_iv ls) (.int 0)) (hxr : ∀ i : Fin 4, ¬ List.getD xs i.val 0 < 0 ∧ List.getD xs i.val 0 < 4) :
    o_Ct l Z EL n0 (⟨"com/example/throng/throng/engine/NumberedAnswers", "runEnd", "(I)I"⟩ : MethodName) prog_86_method_11_code 4 (some .int) ws ({ frames := 0, cells := 0, slots := 0, locals := 0 } : Room) #[(.ref a1), (.int (3 : Int32))] h0 [] (o_Q_re3 Z h0 a1 bq kb xs qa kq qs la kl ls) := by
 refine o_enter (a0 := a0) o_pf14 hE O fun p e s m below meth c T0 w0 => ?_
 rw [o_ef_re3 m a1]
 refine o_aloadN (pc' := 1) w0 o_d14_0 rfl rfl rfl ?_
 refine o_getF (pc' := 4) w0 (host := "") (Or.inl (o_w78 hw)) Via.refl F_a1_byQuestion o_d14_1 rfl fun T1 w2 => ?_
 refine o_iloadN (pc' := 5) w2 o_d14_4 rfl rfl ?_
 refine o_ldI (pc' := 6) w2 (v := (.int (List.getD xs 3 0))) A_bq (by decide) (o_ivg rfl) o_d14_5 rfl ?_
 refine o_istoreN (pc' := 7) w2 o_d14_6 (Ls' := #[.val (.ref a1), .val (.int (3 : Int32)), .val (.int (List.getD xs 3 0)), .unset]) rfl rfl ?_
 refine o_iloadN (pc' := 8) w2 o_d14_7 rfl rfl ?_
 refine o_iconst (pc' := 9) w2 o_d14_8 (x := (1 : Int32)) rfl rfl ?_
 refine o_iadd (pc' := 10) w2 o_d14_9 (z := (4 : Int32)) (by decide) rfl ?_
 refine o_istoreN (pc' := 11) w2 o_d14_10 (Ls' := #[.val (.ref a1), .val (.int (3 : Int32)), .val (.int (List.getD xs 3 0)), .val (.int (4 : Int32))]) rfl rfl ?_
 refine o_iloadN (pc' := 12) w2 o_d14_11 rfl rfl ?_
 refine o_aloadN (pc' := 13) w2 o_d14_12 rfl rfl rfl ?_
 refine o_getF (pc' := 16) w2 (host := "") (Or.inl (o_w78 hw)) Via.refl F_a1_byQuestion o_d14_13 rfl fun T3 w4 => ?_
 refine o_len (pc' := 17) w4 A_bq o_d14_16 rfl ?_
 refine o_icmp (pc' := 20) w4 o_d14_17 rfl (by decide) (pcY := 66) rfl (fun (hb17 : ¬ (4 : Int32) < (4 : Int32)) => ?_) (fun (hb17 : (4 : Int32) < (4 : Int32)) => absurd hb17 (by decide))
 refine o_iloadN (pc' := 67) w4 o_d14_66 rfl rfl ?_
 exact o_retV w4 (t := .int) rfl rfl (Or.inl ⟨rfl, by simp, _, rfl⟩) o_d14_67 (by decide) (by decide) (ms' := []) all0 ⟨rfl, rfl, (by show _ = some (Value.int (o_rl (o_sm xs qs ls 3) 0 4)); rfl)⟩
set_option maxRecDepth 100000 in
theorem o_fin3 : ∀ (f0 f1 f2 f3 : Fin 3) (g0 g1 g2 g3 : Fin 2), o_re (o_bq f0 f1 f2 f3 g0 g1 g2 g3) [Int32.ofNat g0.val, Int32.ofNat g1.val, Int32.ofNat g2.val, Int32.ofNat g3.val] [Int32.ofNat f0.val, Int32.ofNat f1.val, Int32.ofNat f2.val, Int32.ofNat f3.val] 3 = ((o_le (Int32.ofNat g0.val) (Int32.ofNat f0.val) (List.getD [Int32.ofNat g0.val, Int32.ofNat g1.val, Int32.ofNat g2.val, Int32.ofNat g3.val] (List.getD (o_bq f0 f1 f2 f3 g0 g1 g2 g3) 3 0).toNatClampNeg 0 * 3 + List.getD [Int32.ofNat f0.val, Int32.ofNat f1.val, Int32.ofNat f2.val, Int32.ofNat f3.val] (List.getD (o_bq f0 f1 f2 f3 g0 g1 g2 g3) 3 0).toNatClampNeg 0) + o_le (Int32.ofNat g1.val) (Int32.ofNat f1.val) (List.getD [Int32.ofNat g0.val, Int32.ofNat g1.val, Int32.ofNat g2.val, Int32.ofNat g3.val] (List.getD (o_bq f0 f1 f2 f3 g0 g1 g2 g3) 3 0).toNatClampNeg 0 * 3 + List.getD [Int32.ofNat f0.val, Int32.ofNat f1.val, Int32.ofNat f2.val, Int32.ofNat f3.val] (List.getD (o_bq f0 f1 f2 f3 g0 g1 g2 g3) 3 0).toNatClampNeg 0)) + o_le (Int32.ofNat g2.val) (Int32.ofNat f2.val) (List.getD [Int32.ofNat g0.val, Int32.ofNat g1.val, Int32.ofNat g2.val, Int32.ofNat g3.val] (List.getD (o_bq f0 f1 f2 f3 g0 g1 g2 g3) 3 0).toNatClampNeg 0 * 3 + List.getD [Int32.ofNat f0.val, Int32.ofNat f1.val, Int32.ofNat f2.val, Int32.ofNat f3.val] (List.getD (o_bq f0 f1 f2 f3 g0 g1 g2 g3) 3 0).toNatClampNeg 0)) + o_le (Int32.ofNat g3.val) (Int32.ofNat f3.val) (List.getD [Int32.ofNat g0.val, Int32.ofNat g1.val, Int32.ofNat g2.val, Int32.ofNat g3.val] (List.getD (o_bq f0 f1 f2 f3 g0 g1 g2 g3) 3 0).toNatClampNeg 0 * 3 + List.getD [Int32.ofNat f0.val, Int32.ofNat f1.val, Int32.ofNat f2.val, Int32.ofNat f3.val] (List.getD (o_bq f0 f1 f2 f3 g0 g1 g2 g3) 3 0).toNatClampNeg 0) := by decide +kernel
theorem o_bqr (f0 f1 f2 f3 : Fin 3) (g0 g1 g2 g3 : Fin 2) (i : Fin 4) : ¬ (o_bq f0 f1 f2 f3 g0 g1 g2 g3).getD i.val 0 < 0 ∧ (o_bq f0 f1 f2 f3 g0 g1 g2 g3).getD i.val 0 < 4 := by
  unfold o_bq
  generalize o_u f0 f1 f2 f3 g0 g1 g2 g3 0 = u0, o_u f0 f1 f2 f3 g0 g1 g2 g3 1 = u1, o_u f0 f1 f2 f3 g0 g1 g2 g3 2 = u2, o_u f0 f1 f2 f3 g0 g1 g2 g3 3 = u3
  have hl : (o_it2 u0 u1 u2 u3).length = 4 := (o_stl _ _).2
  have hx : ∀ j : Fin 4, ¬ (o_it3 f0 f1 f2 f3).getD ((o_it2 u0 u1 u2 u3).getD j.val 0).toNatClampNeg 0 < 0 ∧ (o_it3 f0 f1 f2 f3).getD ((o_it2 u0 u1 u2 u3).getD j.val 0).toNatClampNeg 0 < 4 := fun j => o_it3r f0 f1 f2 f3 ⟨_, o_pn (o_it2r u0 u1 u2 u3 j)⟩
  have hg : ∀ (xs : List Int32) (i : Nat) (v : Int32), i < xs.length → (xs.set i v).getD i 0 = v := fun xs i v h => by rw [List.getD_eq_getElem?_getD, List.getElem?_set_self h]; rfl
  have hn : ∀ (xs : List Int32) (i j : Nat) (v : Int32), i ≠ j → (xs.set i v).getD j 0 = xs.getD j 0 := fun xs i j v h => by rw [List.getD_eq_getElem?_getD, List.getElem?_set_ne h, ← List.getD_eq_getElem?_getD]
  have e : (o_rm (o_it3 f0 f1 f2 f3) (o_it2 u0 u1 u2 u3) 4).getD i.val 0 = (o_it3 f0 f1 f2 f3).getD ((o_it2 u0 u1 u2 u3).getD i.val 0).toNatClampNeg 0 := by
    match i with
    | 0 => show (o_rm (o_it3 f0 f1 f2 f3) (o_it2 u0 u1 u2 u3) 4).getD 0 0 = (o_it3 f0 f1 f2 f3).getD ((o_it2 u0 u1 u2 u3).getD 0 0).toNatClampNeg 0; rw [o_rm, hn _ _ _ _ (by decide), o_rm, hn _ _ _ _ (by decide), o_rm, hn _ _ _ _ (by decide), o_rm, hg _ _ _ (by rw [o_rml, hl]; decide)]
    | 1 => show (o_rm (o_it3 f0 f1 f2 f3) (o_it2 u0 u1 u2 u3) 4).getD 1 0 = (o_it3 f0 f1 f2 f3).getD ((o_it2 u0 u1 u2 u3).getD 1 0).toNatClampNeg 0; rw [o_rm, hn _ _ _ _ (by decide), o_rm, hn _ _ _ _ (by decide), o_rm, hg _ _ _ (by rw [o_rml, hl]; decide)]
    | 2 => show (o_rm (o_it3 f0 f1 f2 f3) (o_it2 u0 u1 u2 u3) 4).getD 2 0 = (o_it3 f0 f1 f2 f3).getD ((o_it2 u0 u1 u2 u3).getD 2 0).toNatClampNeg 0; rw [o_rm, hn _ _ _ _ (by decide), o_rm, hg _ _ _ (by rw [o_rml, hl]; decide)]
    | 3 => show (o_rm (o_it3 f0 f1 f2 f3) (o_it2 u0 u1 u2 u3) 4).getD 3 0 = (o_it3 f0 f1 f2 f3).getD ((o_it2 u0 u1 u2 u3).getD 3 0).toNatClampNeg 0; rw [o_rm, hg _ _ _ (by rw [o_rml, hl]; decide)]
  rw [e]; exact hx i
theorem o_d15_0 : decode code 0 = .ok (.iconst 4, 1) := by decide +kernel
theorem o_d15_1 : decode code 1 = .ok (.newarray .int, 2) := by decide +kernel
theorem o_d15_3 : decode code 3 = .ok (.astore_n 3, 1) := by decide +kernel
theorem o_d15_4 : decode code 4 = .ok (.iconst 4, 1) := by decide +kernel
theorem o_d15_5 : decode code 5 = .ok (.newarray .int, 2) := by decide +kernel
theorem o_d15_7 : decode code 7 = .ok (.astore 4, 2) := by decide +kernel
theorem o_d15_9 : decode code 9 = .ok (.iconst 4, 1) := by decide +kernel
theorem o_d15_10 : decode code 10 = .ok (.newarray .int, 2) := by decide +kernel
theorem o_d15_12 : decode code 12 = .ok (.astore 5, 2) := by decide +kernel
theorem o_d15_14 : decode code 14 = .ok (.aload_n 3, 1) := by decide +kernel
theorem o_d15_15 : decode code 15 = .ok (.iconst 0, 1) := by decide +kernel
theorem o_d15_16 : decode code 16 = .ok (.iload_n 0, 1) := by decide +kernel
theorem o_d15_17 : decode code 17 = .ok (.iconst 1, 1) := by decide +kernel
theorem o_d15_18 : decode code 18 = .ok (.iand, 1) := by decide +kernel
theorem o_d15_19 : decode code 19 = .ok (.iastore, 1) := by decide +kernel
theorem o_d15_20 : decode code 20 = .ok (.aload_n 3, 1) := by decide +kernel
theorem o_d15_21 : decode code 21 = .ok (.iconst 1, 1) := by decide +kernel
theorem o_d15_22 : decode code 22 = .ok (.iload_n 0, 1) := by decide +kernel
theorem o_d15_23 : decode code 23 = .ok (.iconst 1, 1) := by decide +kernel
theorem o_d15_24 : decode code 24 = .ok (.iushr, 1) := by decide +kernel
theorem o_d15_25 : decode code 25 = .ok (.iconst 1, 1) := by decide +kernel
theorem o_d15_26 : decode code 26 = .ok (.iand, 1) := by decide +kernel
theorem o_d15_27 : decode code 27 = .ok (.iastore, 1) := by decide +kernel
theorem o_d15_28 : decode code 28 = .ok (.aload_n 3, 1) := by decide +kernel
theorem o_d15_29 : decode code 29 = .ok (.iconst 2, 1) := by decide +kernel
theorem o_d15_30 : decode code 30 = .ok (.iload_n 0, 1) := by decide +kernel
theorem o_d15_31 : decode code 31 = .ok (.iconst 2, 1) := by decide +kernel
theorem o_d15_32 : decode code 32 = .ok (.iushr, 1) := by decide +kernel
theorem o_d15_33 : decode code 33 = .ok (.iconst 1, 1) := by decide +kernel
theorem o_d15_34 : decode code 34 = .ok (.iand, 1) := by decide +kernel
theorem o_d15_35 : decode code 35 = .ok (.iastore, 1) := by decide +kernel
theorem o_d15_36 : decode code 36 = .ok (.aload_n 3, 1) := by decide +kernel
theorem o_d15_37 : decode code 37 = .ok (.iconst 3, 1) := by decide +kernel
theorem o_d15_38 : decode code 38 = .ok (.iload_n 0, 1) := by decide +kernel
theorem o_d15_39 : decode code 39 = .ok (.iconst 3, 1) := by decide +kernel
theorem o_d15_40 : decode code 40 = .ok (.iushr, 1) := by decide +kernel
theorem o_d15_41 : decode code 41 = .ok (.iconst 1, 1) := by decide +kernel
theorem o_d15_42 : decode code 42 = .ok (.iand, 1) := by decide +kernel
theorem o_d15_43 : decode code 43 = .ok (.iastore, 1) := by decide +kernel
theorem o_d15_44 : decode code 44 = .ok (.aload 5, 2) := by decide +kernel
theorem o_d15_46 : decode code 46 = .ok (.iconst 0, 1) := by decide +kernel
theorem o_d15_47 : decode code 47 = .ok (.iload_n 1, 1) := by decide +kernel
theorem o_d15_48 : decode code 48 = .ok (.sipush 255, 3) := by decide +kernel
theorem o_d15_51 : decode code 51 = .ok (.iand, 1) := by decide +kernel
theorem o_d15_52 : decode code 52 = .ok (.iconst 3, 1) := by decide +kernel
theorem o_d15_53 : decode code 53 = .ok (.irem, 1) := by decide +kernel
theorem o_d15_54 : decode code 54 = .ok (.iastore, 1) := by decide +kernel
theorem o_d15_55 : decode code 55 = .ok (.aload 5, 2) := by decide +kernel
theorem o_d15_57 : decode code 57 = .ok (.iconst 1, 1) := by decide +kernel
theorem o_d15_58 : decode code 58 = .ok (.iload_n 1, 1) := by decide +kernel
theorem o_d15_59 : decode code 59 = .ok (.bipush 8, 2) := by decide +kernel
theorem o_d15_61 : decode code 61 = .ok (.iushr, 1) := by decide +kernel
theorem o_d15_62 : decode code 62 = .ok (.sipush 255, 3) := by decide +kernel
theorem o_d15_65 : decode code 65 = .ok (.iand, 1) := by decide +kernel
theorem o_d15_66 : decode code 66 = .ok (.iconst 3, 1) := by decide +kernel
theorem o_d15_67 : decode code 67 = .ok (.irem, 1) := by decide +kernel
theorem o_d15_68 : decode code 68 = .ok (.iastore, 1) := by decide +kernel
theorem o_d15_69 : decode code 69 = .ok (.aload 5, 2) := by decide +kernel
theorem o_d15_71 : decode code 71 = .ok (.iconst 2, 1) := by decide +kernel
theorem o_d15_72 : decode code 72 = .ok (.iload_n 1, 1) := by decide +kernel
theorem o_d15_73 : decode code 73 = .ok (.bipush 16, 2) := by decide +kernel
theorem o_d15_75 : decode code 75 = .ok (.iushr, 1) := by decide +kernel
theorem o_d15_76 : decode code 76 = .ok (.sipush 255, 3) := by decide +kernel
theorem o_d15_79 : decode code 79 = .ok (.iand, 1) := by decide +kernel
theorem o_d15_80 : decode code 80 = .ok (.iconst 3, 1) := by decide +kernel
theorem o_d15_81 : decode code 81 = .ok (.irem, 1) := by decide +kernel
theorem o_d15_82 : decode code 82 = .ok (.iastore, 1) := by decide +kernel
theorem o_d15_83 : decode code 83 = .ok (.aload 5, 2) := by decide +kernel
theorem o_d15_85 : decode code 85 = .ok (.iconst 3, 1) := by decide +kernel
theorem o_d15_86 : decode code 86 = .ok (.iload_n 1, 1) := by decide +kernel
theorem o_d15_87 : decode code 87 = .ok (.bipush 24, 2) := by decide +kernel
theorem o_d15_89 : decode code 89 = .ok (.iushr, 1) := by decide +kernel
theorem o_d15_90 : decode code 90 = .ok (.sipush 255, 3) := by decide +kernel
theorem o_d15_93 : decode code 93 = .ok (.iand, 1) := by decide +kernel
theorem o_d15_94 : decode code 94 = .ok (.iconst 3, 1) := by decide +kernel
theorem o_d15_95 : decode code 95 = .ok (.irem, 1) := by decide +kernel
theorem o_d15_96 : decode code 96 = .ok (.iastore, 1) := by decide +kernel
theorem o_d15_97 : decode code 97 = .ok (.new 7, 3) := by decide +kernel
theorem o_w1 {Z a0} (hw : o_H a0 Z) : (.classLink "com/example/throng/throng/engine/NumberedAnswersRunEndPinLaw" 7 "com/example/throng/throng/engine/NumberedAnswers" : Jvm.Cond).before a0 Z = true := hw _ (List.mem_of_getElem? (i := 1) rfl)
theorem o_d15_100 : decode code 100 = .ok (.dup, 1) := by decide +kernel
theorem o_d15_101 : decode code 101 = .ok (.iconst 2, 1) := by decide +kernel
theorem o_d15_102 : decode code 102 = .ok (.iconst 3, 1) := by decide +kernel
theorem o_d15_103 : decode code 103 = .ok (.iconst 1, 1) := by decide +kernel
theorem o_d15_104 : decode code 104 = .ok (.aload_n 3, 1) := by decide +kernel
theorem o_d15_105 : decode code 105 = .ok (.aload 4, 2) := by decide +kernel
theorem o_d15_107 : decode code 107 = .ok (.aload 5, 2) := by decide +kernel
theorem o_d15_109 : decode code 109 = .ok (.invokespecial 9, 3) := by decide +kernel
theorem o_w6 {Z a0} (hw : o_H a0 Z) : (.code ⟨"com/example/throng/throng/engine/NumberedAnswers", "<init>", "(III[I[I[I)V"⟩ prog_86_method_1_code 8 (Option.none : Option Jvm.ClassFile.FieldType) : Jvm.Cond).before a0 Z = true := hw _ (List.mem_of_getElem? (i := 6) rfl)
theorem o_pd10 : parseMethodDescriptor "(III[I[I[I)V" = some ⟨[.int, .int, .int, (.array .int), (.array .int), (.array .int)], none⟩ := by decide +kernel
theorem o_w4 {Z a0} (hw : o_H a0 Z) : (.methodLink "com/example/throng/throng/engine/NumberedAnswersRunEndPinLaw" 9 ⟨"com/example/throng/throng/engine/NumberedAnswers", "<init>", "(III[I[I[I)V"⟩ : Jvm.Cond).before a0 Z = true := hw _ (List.mem_of_getElem? (i := 4) rfl)
theorem o_w5 {Z a0} (hw : o_H a0 Z) : (.instanceMethod ⟨"com/example/throng/throng/engine/NumberedAnswers", "<init>", "(III[I[I[I)V"⟩ : Jvm.Cond).before a0 Z = true := hw _ (List.mem_of_getElem? (i := 5) rfl)
theorem o_d15_112 : decode code 112 = .ok (.astore 6, 2) := by decide +kernel
theorem o_d15_114 : decode code 114 = .ok (.iload_n 2, 1) := by decide +kernel
theorem o_d15_115 : decode code 115 = .ok (.iconst 3, 1) := by decide +kernel
theorem o_d15_116 : decode code 116 = .ok (.iand, 1) := by decide +kernel
theorem o_d15_117 : decode code 117 = .ok (.istore 7, 2) := by decide +kernel
theorem o_d15_119 : decode code 119 = .ok (.aload 6, 2) := by decide +kernel
theorem o_d15_121 : decode code 121 = .ok (.iload 7, 2) := by decide +kernel
theorem o_d15_123 : decode code 123 = .ok (.invokevirtual 12, 3) := by decide +kernel
theorem o_w91 {Z a0} (hw : o_H a0 Z) : (.code ⟨"com/example/throng/throng/engine/NumberedAnswers", "byQuestion", "(I)I"⟩ prog_86_method_10_code 2 (Option.some Jvm.ClassFile.FieldType.int) : Jvm.Cond).before a0 Z = true := hw _ (List.mem_of_getElem? (i := 91) rfl)
theorem o_w87 {Z a0} (hw : o_H a0 Z) : (.methodLink "com/example/throng/throng/engine/NumberedAnswersRunEndPinLaw" 12 ⟨"com/example/throng/throng/engine/NumberedAnswers", "byQuestion", "(I)I"⟩ : Jvm.Cond).before a0 Z = true := hw _ (List.mem_of_getElem? (i := 87) rfl)
theorem o_w88 {Z a0} (hw : o_H a0 Z) : (.declares ⟨"com/example/throng/throng/engine/NumberedAnswers", "byQuestion", "(I)I"⟩ : Jvm.Cond).before a0 Z = true := hw _ (List.mem_of_getElem? (i := 88) rfl)
theorem o_w90 {Z a0} (hw : o_H a0 Z) : (.selects "com/example/throng/throng/engine/NumberedAnswers" ⟨"com/example/throng/throng/engine/NumberedAnswers", "byQuestion", "(I)I"⟩ ⟨"com/example/throng/throng/engine/NumberedAnswers", "byQuestion", "(I)I"⟩ : Jvm.Cond).before a0 Z = true := hw _ (List.mem_of_getElem? (i := 90) rfl)
theorem o_w89 {Z a0} (hw : o_H a0 Z) : (.instanceMethod ⟨"com/example/throng/throng/engine/NumberedAnswers", "byQuestion", "(I)I"⟩ : Jvm.Cond).before a0 Z = true := hw _ (List.mem_of_getElem? (i := 89) rfl)
theorem o_d15_126 : decode code 126 = .ok (.istore 8, 2) := by decide +kernel
theorem o_d15_128 : decode code 128 = .ok (.aload_n 3, 1) := by decide +kernel
theorem o_d15_129 : decode code 129 = .ok (.iload 8, 2) := by decide +kernel
theorem o_d15_131 : decode code 131 = .ok (.iaload, 1) := by decide +kernel
theorem o_d15_132 : decode code 132 = .ok (.iconst 3, 1) := by decide +kernel
theorem o_d15_133 : decode code 133 = .ok (.imul, 1) := by decide +kernel
theorem o_d15_134 : decode code 134 = .ok (.aload 5, 2) := by decide +kernel
theorem o_d15_136 : decode code 136 = .ok (.iload 8, 2) := by decide +kernel
theorem o_d15_138 : decode code 138 = .ok (.iaload, 1) := by decide +kernel
theorem o_d15_139 : decode code 139 = .ok (.iadd, 1) := by decide +kernel
theorem o_d15_140 : decode code 140 = .ok (.istore 9, 2) := by decide +kernel
theorem o_d15_142 : decode code 142 = .ok (.aload_n 3, 1) := by decide +kernel
theorem o_d15_143 : decode code 143 = .ok (.iconst 0, 1) := by decide +kernel
theorem o_d15_144 : decode code 144 = .ok (.iaload, 1) := by decide +kernel
theorem o_d15_145 : decode code 145 = .ok (.aload 5, 2) := by decide +kernel
theorem o_d15_147 : decode code 147 = .ok (.iconst 0, 1) := by decide +kernel
theorem o_d15_148 : decode code 148 = .ok (.iaload, 1) := by decide +kernel
theorem o_d15_149 : decode code 149 = .ok (.iload 9, 2) := by decide +kernel
theorem o_d15_151 : decode code 151 = .ok (.invokestatic 16, 3) := by decide +kernel
theorem o_w95 {Z a0} (hw : o_H a0 Z) : (.code ⟨"com/example/throng/throng/engine/NumberedAnswersRunEndPinLaw", "le", "(III)I"⟩ method_2_code 3 (Option.some Jvm.ClassFile.FieldType.int) : Jvm.Cond).before a0 Z = true := hw _ (List.mem_of_getElem? (i := 95) rfl)
theorem o_w94 {Z a0} (hw : o_H a0 Z) : (.initialized "com/example/throng/throng/engine/NumberedAnswersRunEndPinLaw" : Jvm.Cond).before a0 Z = true := hw _ (List.mem_of_getElem? (i := 94) rfl)
theorem o_pd11 : parseMethodDescriptor "(III)I" = some ⟨[.int, .int, .int], some .int⟩ := by decide +kernel
theorem o_w92 {Z a0} (hw : o_H a0 Z) : (.methodLink "com/example/throng/throng/engine/NumberedAnswersRunEndPinLaw" 16 ⟨"com/example/throng/throng/engine/NumberedAnswersRunEndPinLaw", "le", "(III)I"⟩ : Jvm.Cond).before a0 Z = true := hw _ (List.mem_of_getElem? (i := 92) rfl)
theorem o_w93 {Z a0} (hw : o_H a0 Z) : (.static ⟨"com/example/throng/throng/engine/NumberedAnswersRunEndPinLaw", "le", "(III)I"⟩ : Jvm.Cond).before a0 Z = true := hw _ (List.mem_of_getElem? (i := 93) rfl)
theorem o_d15_154 : decode code 154 = .ok (.aload_n 3, 1) := by decide +kernel
theorem o_d15_155 : decode code 155 = .ok (.iconst 1, 1) := by decide +kernel
theorem o_d15_156 : decode code 156 = .ok (.iaload, 1) := by decide +kernel
theorem o_d15_157 : decode code 157 = .ok (.aload 5, 2) := by decide +kernel
theorem o_d15_159 : decode code 159 = .ok (.iconst 1, 1) := by decide +kernel
theorem o_d15_160 : decode code 160 = .ok (.iaload, 1) := by decide +kernel
theorem o_d15_161 : decode code 161 = .ok (.iload 9, 2) := by decide +kernel
theorem o_d15_163 : decode code 163 = .ok (.invokestatic 16, 3) := by decide +kernel
theorem o_d15_166 : decode code 166 = .ok (.iadd, 1) := by decide +kernel
theorem o_d15_167 : decode code 167 = .ok (.aload_n 3, 1) := by decide +kernel
theorem o_d15_168 : decode code 168 = .ok (.iconst 2, 1) := by decide +kernel
theorem o_d15_169 : decode code 169 = .ok (.iaload, 1) := by decide +kernel
theorem o_d15_170 : decode code 170 = .ok (.aload 5, 2) := by decide +kernel
theorem o_d15_172 : decode code 172 = .ok (.iconst 2, 1) := by decide +kernel
theorem o_d15_173 : decode code 173 = .ok (.iaload, 1) := by decide +kernel
theorem o_d15_174 : decode code 174 = .ok (.iload 9, 2) := by decide +kernel
theorem o_d15_176 : decode code 176 = .ok (.invokestatic 16, 3) := by decide +kernel
theorem o_d15_179 : decode code 179 = .ok (.iadd, 1) := by decide +kernel
theorem o_d15_180 : decode code 180 = .ok (.aload_n 3, 1) := by decide +kernel
theorem o_d15_181 : decode code 181 = .ok (.iconst 3, 1) := by decide +kernel
theorem o_d15_182 : decode code 182 = .ok (.iaload, 1) := by decide +kernel
theorem o_d15_183 : decode code 183 = .ok (.aload 5, 2) := by decide +kernel
theorem o_d15_185 : decode code 185 = .ok (.iconst 3, 1) := by decide +kernel
theorem o_d15_186 : decode code 186 = .ok (.iaload, 1) := by decide +kernel
theorem o_d15_187 : decode code 187 = .ok (.iload 9, 2) := by decide +kernel
theorem o_d15_189 : decode code 189 = .ok (.invokestatic 16, 3) := by decide +kernel
theorem o_d15_192 : decode code 192 = .ok (.iadd, 1) := by decide +kernel
theorem o_d15_193 : decode code 193 = .ok (.istore 10, 2) := by decide +kernel
theorem o_d15_195 : decode code 195 = .ok (.aload 6, 2) := by decide +kernel
theorem o_d15_197 : decode code 197 = .ok (.iload 7, 2) := by decide +kernel
theorem o_d15_199 : decode code 199 = .ok (.invokevirtual 22, 3) := by decide +kernel
theorem o_w100 {Z a0} (hw : o_H a0 Z) : (.code ⟨"com/example/throng/throng/engine/NumberedAnswers", "runEnd", "(I)I"⟩ prog_86_method_11_code 4 (Option.some Jvm.ClassFile.FieldType.int) : Jvm.Cond).before a0 Z = true := hw _ (List.mem_of_getElem? (i := 100) rfl)
theorem o_w96 {Z a0} (hw : o_H a0 Z) : (.methodLink "com/example/throng/throng/engine/NumberedAnswersRunEndPinLaw" 22 ⟨"com/example/throng/throng/engine/NumberedAnswers", "runEnd", "(I)I"⟩ : Jvm.Cond).before a0 Z = true := hw _ (List.mem_of_getElem? (i := 96) rfl)
theorem o_w97 {Z a0} (hw : o_H a0 Z) : (.declares ⟨"com/example/throng/throng/engine/NumberedAnswers", "runEnd", "(I)I"⟩ : Jvm.Cond).before a0 Z = true := hw _ (List.mem_of_getElem? (i := 97) rfl)
theorem o_w99 {Z a0} (hw : o_H a0 Z) : (.selects "com/example/throng/throng/engine/NumberedAnswers" ⟨"com/example/throng/throng/engine/NumberedAnswers", "runEnd", "(I)I"⟩ ⟨"com/example/throng/throng/engine/NumberedAnswers", "runEnd", "(I)I"⟩ : Jvm.Cond).before a0 Z = true := hw _ (List.mem_of_getElem? (i := 99) rfl)
theorem o_w98 {Z a0} (hw : o_H a0 Z) : (.instanceMethod ⟨"com/example/throng/throng/engine/NumberedAnswers", "runEnd", "(I)I"⟩ : Jvm.Cond).before a0 Z = true := hw _ (List.mem_of_getElem? (i := 98) rfl)
theorem o_d15_202 : decode code 202 = .ok (.iload 10, 2) := by decide +kernel
theorem o_d15_204 : decode code 204 = .ok (.if_icmp .ne 7, 3) := by decide +kernel
theorem o_d15_207 : decode code 207 = .ok (.iconst 1, 1) := by decide +kernel
theorem o_d15_208 : decode code 208 = .ok (.goto 4, 3) := by decide +kernel
theorem o_d15_212 : decode code 212 = .ok (.ireturn, 1) := by decide +kernel
theorem o_ef_law (m : MethodId) (i0 : Int32) (i1 : Int32) (i2 : Int32) : entryFrame m #[(.int i0), (.int i1), (.int i2)] maxLocals = mkF m 0 #[.val (.int i0), .val (.int i1), .val (.int i2), .unset, .unset, .unset, .unset, .unset, .unset, .unset, .unset] [] := by first | (simp [entryFrame, mkF, argsToLocals, Value.category, maxLocals]; done) | rfl
theorem o_pf15 : plainFor (⟨"com/example/throng/throng/engine/NumberedAnswersRunEndPinLaw", "law", "(III)Z"⟩ : MethodName) = true := by first | exact plainFor_of_name (by first | (simp [plainName, overriddenIn]; done) | decide +kernel) | decide +kernel
def o_Q_law (Z : State) (h0 : Heap) (i0 : Int32) (i1 : Int32) (i2 : Int32) (v : Option Value) (h : Heap) (ms : List Addr) : Prop := (Keep h0 h []) ∧ (ms = []) ∧ (v = some (.int 1))
theorem o_ct_law (l : Launch) (Z : State) (a0 : Array Value) (hw : o_H a0 Z) (EL : List (String × Nat)) (hE : EW Z a0 EL) (n0 : Nat) (ws : List Jvm.Cond) (h0 : Heap) (O : Old Z n0 h0) (i0 : Int32) (i1 : Int32) (i2 : Int32)  :
    o_Ct l Z EL n0 x code maxLocals ret ws room_1 #[(.int i0), (.int i1), (.int i2)] h0 [] (o_Q_law Z h0 i0 i1 i2) := by
 refine o_enter (a0 := a0) o_pf15 hE O fun p e s m below meth c T0 w0 => ?_
 rw [o_ef_law m i0 i1 i2]
 have K : Keep h0 h0 [] := Keep.refl _ _
 obtain ⟨g0, hg0⟩ := o_f2 i0
 obtain ⟨f0, hf0⟩ := o_f3 i1
 obtain ⟨g1, hg1⟩ := o_f2 (XT.ushr i0 (1 : Int32))
 obtain ⟨f1, hf1⟩ := o_f3 (XT.ushr i1 (8 : Int32))
 obtain ⟨g2, hg2⟩ := o_f2 (XT.ushr i0 (2 : Int32))
 obtain ⟨f2, hf2⟩ := o_f3 (XT.ushr i1 (16 : Int32))
 obtain ⟨g3, hg3⟩ := o_f2 (XT.ushr i0 (3 : Int32))
 obtain ⟨f3, hf3⟩ := o_f3 (XT.ushr i1 (24 : Int32))
 refine o_iconst (pc' := 1) w0 o_d15_0 (x := (4 : Int32)) rfl rfl ?_
 refine o_newP (pc' := 3) w0 (aty := .int) (z := (4 : Int32)) (vs := [(.int 0), (.int 0), (.int 0), (.int 0)]) (dv := (.int 0)) (cap := 4) (o_w0 hw) o_d15_1 rfl (by decide) (by decide) (by decide) rfl (o_rep 4 (.int 0)) (by decide) (by decide) fun T1 h3 a5 g_a5 w2 E4 ⟨k_a5, A_a5⟩ => ?_
 have nw_a5 : h0.size ≤ a5 := Nat.le_trans K.1 (Nat.le_of_eq g_a5)
 replace K := K.ext E4
 refine o_astoreN (pc' := 4) w2 o_d15_3 rfl (Ls' := #[.val (.int i0), .val (.int i1), .val (.int i2), .val (.ref a5), .unset, .unset, .unset, .unset, .unset, .unset, .unset]) rfl rfl ?_
 refine o_iconst (pc' := 5) w2 o_d15_4 (x := (4 : Int32)) rfl rfl ?_
 refine o_newP (pc' := 7) w2 (aty := .int) (z := (4 : Int32)) (vs := [(.int 0), (.int 0), (.int 0), (.int 0)]) (dv := (.int 0)) (cap := 4) (o_w0 hw) o_d15_5 rfl (by decide) (by decide) (by decide) rfl (o_rep 4 (.int 0)) (by decide) (by decide) fun T6 h8 a10 g_a10 w7 E9 ⟨k_a10, A_a10⟩ => ?_
 have ne_a5_a10 : a5 ≠ a10 := Nat.ne_of_lt (Nat.lt_of_lt_of_le A_a5.lt (Nat.le_of_eq g_a10))
 have nw_a10 : h0.size ≤ a10 := Nat.le_trans K.1 (Nat.le_of_eq g_a10)
 replace A_a5 := A_a5.ext E9
 replace K := K.ext E9
 refine o_astore (pc' := 9) w7 o_d15_7 rfl (Ls' := #[.val (.int i0), .val (.int i1), .val (.int i2), .val (.ref a5), .val (.ref a10), .unset, .unset, .unset, .unset, .unset, .unset]) rfl rfl ?_
 refine o_iconst (pc' := 10) w7 o_d15_9 (x := (4 : Int32)) rfl rfl ?_
 refine o_newP (pc' := 12) w7 (aty := .int) (z := (4 : Int32)) (vs := [(.int 0), (.int 0), (.int 0), (.int 0)]) (dv := (.int 0)) (cap := 4) (o_w0 hw) o_d15_10 rfl (by decide) (by decide) (by decide) rfl (o_rep 4 (.int 0)) (by decide) (by decide) fun T11 h13 a15 g_a15 w12 E14 ⟨k_a15, A_a15⟩ => ?_
 have ne_a10_a15 : a10 ≠ a15 := Nat.ne_of_lt (Nat.lt_of_lt_of_le A_a10.lt (Nat.le_of_eq g_a15))
 have ne_a5_a15 : a5 ≠ a15 := Nat.ne_of_lt (Nat.lt_of_lt_of_le A_a5.lt (Nat.le_of_eq g_a15))
 have nw_a15 : h0.size ≤ a15 := Nat.le_trans K.1 (Nat.le_of_eq g_a15)
 replace A_a5 := A_a5.ext E14
 replace A_a10 := A_a10.ext E14
 replace K := K.ext E14
 refine o_astore (pc' := 14) w12 o_d15_12 rfl (Ls' := #[.val (.int i0), .val (.int i1), .val (.int i2), .val (.ref a5), .val (.ref a10), .val (.ref a15), .unset, .unset, .unset, .unset, .unset]) rfl rfl ?_
 refine o_aloadN (pc' := 15) w12 o_d15_14 rfl rfl rfl ?_
 refine o_iconst (pc' := 16) w12 o_d15_15 (x := (0 : Int32)) rfl rfl ?_
 refine o_iloadN (pc' := 17) w12 o_d15_16 rfl rfl ?_
 refine o_iconst (pc' := 18) w12 o_d15_17 (x := (1 : Int32)) rfl rfl ?_
 refine o_iand (pc' := 19) w12 o_d15_18 (z := (Int32.ofNat g0.val)) hg0 rfl ?_
 refine o_stI (pc' := 20) w12 (i := 0) (xv := (.int (Int32.ofNat g0.val))) (vs' := [(.int (Int32.ofNat g0.val)), (.int 0), (.int 0), (.int 0)]) (by simp) A_a5 (by decide) rfl (Nat.lt_of_sub_eq_succ rfl) rfl rfl rfl o_d15_19 rfl fun T16 h18 w17 W19 A_new => ?_
 clear A_a5
 replace A_a10 := A_a10.other W19 (Ne.symm ne_a5_a10)
 replace A_a15 := A_a15.other W19 (Ne.symm ne_a5_a15)
 replace K := K.wr W19 (Or.inr nw_a5)
 have A_a5 := A_new
 clear A_new
 refine o_aloadN (pc' := 21) w17 o_d15_20 rfl rfl rfl ?_
 refine o_iconst (pc' := 22) w17 o_d15_21 (x := (1 : Int32)) rfl rfl ?_
 refine o_iloadN (pc' := 23) w17 o_d15_22 rfl rfl ?_
 refine o_iconst (pc' := 24) w17 o_d15_23 (x := (1 : Int32)) rfl rfl ?_
 refine o_iushr (pc' := 25) w17 o_d15_24 (z := (XT.ushr i0 (1 : Int32))) rfl rfl ?_
 refine o_iconst (pc' := 26) w17 o_d15_25 (x := (1 : Int32)) rfl rfl ?_
 refine o_iand (pc' := 27) w17 o_d15_26 (z := (Int32.ofNat g1.val)) hg1 rfl ?_
 refine o_stI (pc' := 28) w17 (i := 1) (xv := (.int (Int32.ofNat g1.val))) (vs' := [(.int (Int32.ofNat g0.val)), (.int (Int32.ofNat g1.val)), (.int 0), (.int 0)]) (by simp) A_a5 (by decide) rfl (Nat.lt_of_sub_eq_succ rfl) rfl rfl rfl o_d15_27 rfl fun T20 h22 w21 W23 A_new => ?_
 clear A_a5
 replace A_a10 := A_a10.other W23 (Ne.symm ne_a5_a10)
 replace A_a15 := A_a15.other W23 (Ne.symm ne_a5_a15)
 replace K := K.wr W23 (Or.inr nw_a5)
 have A_a5 := A_new
 clear A_new
 refine o_aloadN (pc' := 29) w21 o_d15_28 rfl rfl rfl ?_
 refine o_iconst (pc' := 30) w21 o_d15_29 (x := (2 : Int32)) rfl rfl ?_
 refine o_iloadN (pc' := 31) w21 o_d15_30 rfl rfl ?_
 refine o_iconst (pc' := 32) w21 o_d15_31 (x := (2 : Int32)) rfl rfl ?_
 refine o_iushr (pc' := 33) w21 o_d15_32 (z := (XT.ushr i0 (2 : Int32))) rfl rfl ?_
 refine o_iconst (pc' := 34) w21 o_d15_33 (x := (1 : Int32)) rfl rfl ?_
 refine o_iand (pc' := 35) w21 o_d15_34 (z := (Int32.ofNat g2.val)) hg2 rfl ?_
 refine o_stI (pc' := 36) w21 (i := 2) (xv := (.int (Int32.ofNat g2.val))) (vs' := [(.int (Int32.ofNat g0.val)), (.int (Int32.ofNat g1.val)), (.int (Int32.ofNat g2.val)), (.int 0)]) (by simp) A_a5 (by decide) rfl (Nat.lt_of_sub_eq_succ rfl) rfl rfl rfl o_d15_35 rfl fun T24 h26 w25 W27 A_new => ?_
 clear A_a5
 replace A_a10 := A_a10.other W27 (Ne.symm ne_a5_a10)
 replace A_a15 := A_a15.other W27 (Ne.symm ne_a5_a15)
 replace K := K.wr W27 (Or.inr nw_a5)
 have A_a5 := A_new
 clear A_new
 refine o_aloadN (pc' := 37) w25 o_d15_36 rfl rfl rfl ?_
 refine o_iconst (pc' := 38) w25 o_d15_37 (x := (3 : Int32)) rfl rfl ?_
 refine o_iloadN (pc' := 39) w25 o_d15_38 rfl rfl ?_
 refine o_iconst (pc' := 40) w25 o_d15_39 (x := (3 : Int32)) rfl rfl ?_
 refine o_iushr (pc' := 41) w25 o_d15_40 (z := (XT.ushr i0 (3 : Int32))) rfl rfl ?_
 refine o_iconst (pc' := 42) w25 o_d15_41 (x := (1 : Int32)) rfl rfl ?_
 refine o_iand (pc' := 43) w25 o_d15_42 (z := (Int32.ofNat g3.val)) hg3 rfl ?_
 refine o_stI (pc' := 44) w25 (i := 3) (xv := (.int (Int32.ofNat g3.val))) (vs' := [(.int (Int32.ofNat g0.val)), (.int (Int32.ofNat g1.val)), (.int (Int32.ofNat g2.val)), (.int (Int32.ofNat g3.val))]) (by simp) A_a5 (by decide) rfl (Nat.lt_of_sub_eq_succ rfl) rfl rfl rfl o_d15_43 rfl fun T28 h30 w29 W31 A_new => ?_
 clear A_a5
 replace A_a10 := A_a10.other W31 (Ne.symm ne_a5_a10)
 replace A_a15 := A_a15.other W31 (Ne.symm ne_a5_a15)
 replace K := K.wr W31 (Or.inr nw_a5)
 have A_a5 := A_new
 clear A_new
 refine o_aload (pc' := 46) w29 o_d15_44 rfl rfl rfl ?_
 refine o_iconst (pc' := 47) w29 o_d15_46 (x := (0 : Int32)) rfl rfl ?_
 refine o_iloadN (pc' := 48) w29 o_d15_47 rfl rfl ?_
 refine o_sipush (pc' := 51) w29 o_d15_48 (x := (255 : Int32)) rfl rfl ?_
 refine o_iand (pc' := 52) w29 o_d15_51 (z := (i1 &&& (255 : Int32))) rfl rfl ?_
 refine o_iconst (pc' := 53) w29 o_d15_52 (x := (3 : Int32)) rfl rfl ?_
 refine o_irem (pc' := 54) w29 o_d15_53 (by decide) (z := (Int32.ofNat f0.val)) ((irem_eq_mod _ _).trans hf0) rfl ?_
 refine o_stI (pc' := 55) w29 (i := 0) (xv := (.int (Int32.ofNat f0.val))) (vs' := [(.int (Int32.ofNat f0.val)), (.int 0), (.int 0), (.int 0)]) (by simp) A_a15 (by decide) rfl (Nat.lt_of_sub_eq_succ rfl) rfl rfl rfl o_d15_54 rfl fun T32 h34 w33 W35 A_new => ?_
 clear A_a15
 replace A_a5 := A_a5.other W35 ne_a5_a15
 replace A_a10 := A_a10.other W35 ne_a10_a15
 replace K := K.wr W35 (Or.inr nw_a15)
 have A_a15 := A_new
 clear A_new
 refine o_aload (pc' := 57) w33 o_d15_55 rfl rfl rfl ?_
 refine o_iconst (pc' := 58) w33 o_d15_57 (x := (1 : Int32)) rfl rfl ?_
 refine o_iloadN (pc' := 59) w33 o_d15_58 rfl rfl ?_
 refine o_bipush (pc' := 61) w33 o_d15_59 (x := (8 : Int32)) rfl rfl ?_
 refine o_iushr (pc' := 62) w33 o_d15_61 (z := (XT.ushr i1 (8 : Int32))) rfl rfl ?_
 refine o_sipush (pc' := 65) w33 o_d15_62 (x := (255 : Int32)) rfl rfl ?_
 refine o_iand (pc' := 66) w33 o_d15_65 (z := ((XT.ushr i1 (8 : Int32)) &&& (255 : Int32))) rfl rfl ?_
 refine o_iconst (pc' := 67) w33 o_d15_66 (x := (3 : Int32)) rfl rfl ?_
 refine o_irem (pc' := 68) w33 o_d15_67 (by decide) (z := (Int32.ofNat f1.val)) ((irem_eq_mod _ _).trans hf1) rfl ?_
 refine o_stI (pc' := 69) w33 (i := 1) (xv := (.int (Int32.ofNat f1.val))) (vs' := [(.int (Int32.ofNat f0.val)), (.int (Int32.ofNat f1.val)), (.int 0), (.int 0)]) (by simp) A_a15 (by decide) rfl (Nat.lt_of_sub_eq_succ rfl) rfl rfl rfl o_d15_68 rfl fun T36 h38 w37 W39 A_new => ?_
 clear A_a15
 replace A_a5 := A_a5.other W39 ne_a5_a15
 replace A_a10 := A_a10.other W39 ne_a10_a15
 replace K := K.wr W39 (Or.inr nw_a15)
 have A_a15 := A_new
 clear A_new
 refine o_aload (pc' := 71) w37 o_d15_69 rfl rfl rfl ?_
 refine o_iconst (pc' := 72) w37 o_d15_71 (x := (2 : Int32)) rfl rfl ?_
 refine o_iloadN (pc' := 73) w37 o_d15_72 rfl rfl ?_
 refine o_bipush (pc' := 75) w37 o_d15_73 (x := (16 : Int32)) rfl rfl ?_
 refine o_iushr (pc' := 76) w37 o_d15_75 (z := (XT.ushr i1 (16 : Int32))) rfl rfl ?_
 refine o_sipush (pc' := 79) w37 o_d15_76 (x := (255 : Int32)) rfl rfl ?_
 refine o_iand (pc' := 80) w37 o_d15_79 (z := ((XT.ushr i1 (16 : Int32)) &&& (255 : Int32))) rfl rfl ?_
 refine o_iconst (pc' := 81) w37 o_d15_80 (x := (3 : Int32)) rfl rfl ?_
 refine o_irem (pc' := 82) w37 o_d15_81 (by decide) (z := (Int32.ofNat f2.val)) ((irem_eq_mod _ _).trans hf2) rfl ?_
 refine o_stI (pc' := 83) w37 (i := 2) (xv := (.int (Int32.ofNat f2.val))) (vs' := [(.int (Int32.ofNat f0.val)), (.int (Int32.ofNat f1.val)), (.int (Int32.ofNat f2.val)), (.int 0)]) (by simp) A_a15 (by decide) rfl (Nat.lt_of_sub_eq_succ rfl) rfl rfl rfl o_d15_82 rfl fun T40 h42 w41 W43 A_new => ?_
 clear A_a15
 replace A_a5 := A_a5.other W43 ne_a5_a15
 replace A_a10 := A_a10.other W43 ne_a10_a15
 replace K := K.wr W43 (Or.inr nw_a15)
 have A_a15 := A_new
 clear A_new
 refine o_aload (pc' := 85) w41 o_d15_83 rfl rfl rfl ?_
 refine o_iconst (pc' := 86) w41 o_d15_85 (x := (3 : Int32)) rfl rfl ?_
 refine o_iloadN (pc' := 87) w41 o_d15_86 rfl rfl ?_
 refine o_bipush (pc' := 89) w41 o_d15_87 (x := (24 : Int32)) rfl rfl ?_
 refine o_iushr (pc' := 90) w41 o_d15_89 (z := (XT.ushr i1 (24 : Int32))) rfl rfl ?_
 refine o_sipush (pc' := 93) w41 o_d15_90 (x := (255 : Int32)) rfl rfl ?_
 refine o_iand (pc' := 94) w41 o_d15_93 (z := ((XT.ushr i1 (24 : Int32)) &&& (255 : Int32))) rfl rfl ?_
 refine o_iconst (pc' := 95) w41 o_d15_94 (x := (3 : Int32)) rfl rfl ?_
 refine o_irem (pc' := 96) w41 o_d15_95 (by decide) (z := (Int32.ofNat f3.val)) ((irem_eq_mod _ _).trans hf3) rfl ?_
 refine o_stI (pc' := 97) w41 (i := 3) (xv := (.int (Int32.ofNat f3.val))) (vs' := [(.int (Int32.ofNat f0.val)), (.int (Int32.ofNat f1.val)), (.int (Int32.ofNat f2.val)), (.int (Int32.ofNat f3.val))]) (by simp) A_a15 (by decide) rfl (Nat.lt_of_sub_eq_succ rfl) rfl rfl rfl o_d15_96 rfl fun T44 h46 w45 W47 A_new => ?_
 clear A_a15
 replace A_a5 := A_a5.other W47 ne_a5_a15
 replace A_a10 := A_a10.other W47 ne_a10_a15
 replace K := K.wr W47 (Or.inr nw_a15)
 have A_a15 := A_new
 clear A_new
 refine o_newO (pc' := 100) w45 (o_w1 hw) (o_w2 hw) (o_w3 hw) o_d15_97 rfl (by decide) (by decide) fun T48 h50 a52 g_a52 w49 E51 ⟨E_a52, D53⟩ => ?_
 have ne_a10_a52 : a10 ≠ a52 := Nat.ne_of_lt (Nat.lt_of_lt_of_le A_a10.lt (Nat.le_of_eq g_a52))
 have ne_a15_a52 : a15 ≠ a52 := Nat.ne_of_lt (Nat.lt_of_lt_of_le A_a15.lt (Nat.le_of_eq g_a52))
 have ne_a5_a52 : a5 ≠ a52 := Nat.ne_of_lt (Nat.lt_of_lt_of_le A_a5.lt (Nat.le_of_eq g_a52))
 have nw_a52 : h0.size ≤ a52 := Nat.le_trans K.1 (Nat.le_of_eq g_a52)
 replace A_a5 := A_a5.ext E51
 replace A_a10 := A_a10.ext E51
 replace A_a15 := A_a15.ext E51
 replace K := K.ext E51
 have F_a52_questions : Fld Z h50 a52 "com/example/throng/throng/engine/NumberedAnswers" "questions" "I" (.int 0) := D53 (Or.inr (o_w11 hw)) (ty := .int) (by decide)
 have F_a52_labels : Fld Z h50 a52 "com/example/throng/throng/engine/NumberedAnswers" "labels" "I" (.int 0) := D53 (Or.inr (o_w13 hw)) (ty := .int) (by decide)
 have F_a52_workers : Fld Z h50 a52 "com/example/throng/throng/engine/NumberedAnswers" "workers" "I" (.int 0) := D53 (Or.inr (o_w15 hw)) (ty := .int) (by decide)
 have F_a52_question : Fld Z h50 a52 "com/example/throng/throng/engine/NumberedAnswers" "question" "[I" .null := D53 (Or.inr (o_w17 hw)) (ty := (.array .int)) (by decide)
 have F_a52_worker : Fld Z h50 a52 "com/example/throng/throng/engine/NumberedAnswers" "worker" "[I" .null := D53 (Or.inr (o_w19 hw)) (ty := (.array .int)) (by decide)
 have F_a52_label : Fld Z h50 a52 "com/example/throng/throng/engine/NumberedAnswers" "label" "[I" .null := D53 (Or.inr (o_w21 hw)) (ty := (.array .int)) (by decide)
 have F_a52_byQuestion : Fld Z h50 a52 "com/example/throng/throng/engine/NumberedAnswers" "byQuestion" "[I" .null := D53 (Or.inr (o_w79 hw)) (ty := (.array .int)) (by decide)
 have F_a52_start : Fld Z h50 a52 "com/example/throng/throng/engine/NumberedAnswers" "start" "[I" .null := D53 (Or.inr (o_w86 hw)) (ty := (.array .int)) (by decide)
 refine o_dup (pc' := 101) w49 o_d15_100 rfl rfl ?_
 refine o_iconst (pc' := 102) w49 o_d15_101 (x := (2 : Int32)) rfl rfl ?_
 refine o_iconst (pc' := 103) w49 o_d15_102 (x := (3 : Int32)) rfl rfl ?_
 refine o_iconst (pc' := 104) w49 o_d15_103 (x := (1 : Int32)) rfl rfl ?_
 refine o_aloadN (pc' := 105) w49 o_d15_104 rfl rfl rfl ?_
 refine o_aload (pc' := 107) w49 o_d15_105 rfl rfl rfl ?_
 refine o_aload (pc' := 109) w49 o_d15_107 rfl rfl rfl ?_
 refine o_callI (pc' := 112) w49 rfl (o_w4 hw) (o_w5 hw) (o_w3 hw) (o_w6 hw) (by decide) (o_ct_naI l Z a0 hw EL hE n0 [] h50 (o_old w49) a52 a5 a10 a15 (.int 0) (.int 0) (.int 0) .null .null .null .null .null k_a15 k_a5 f0 f1 f2 f3 g0 g1 g2 g3 E_a52 F_a52_questions F_a52_labels F_a52_workers F_a52_question F_a52_worker F_a52_label F_a52_byQuestion F_a52_start A_a15 A_a5 ne_a15_a52 ne_a5_a52) (allS (P := fun x => x ∈ _) (by simp) all0) (argsL := [(.int (2 : Int32)), (.int (3 : Int32)), (.int (1 : Int32)), (.ref a5), (.ref a10), (.ref a15)]) (rest := [(.ref a52)]) rfl rfl o_pd10 rfl o_d15_109 rfl (by decide) (W := 1) rfl (by decide) (by decide) (by decide) fun T54 h56 v57 ms58 w55 q59 => ?_
 obtain ⟨K62, bq_60, kb_61, rfl, rfl, nw_E_a52, nw_F_a52_question, nw_F_a52_label, nw_F_a52_byQuestion, nw_A_bq_60, p109_naI_0⟩ := q59
 have ne_a10_bq_60 : a10 ≠ bq_60 := Nat.ne_of_lt (Nat.lt_of_lt_of_le A_a10.lt p109_naI_0)
 have ne_a15_bq_60 : a15 ≠ bq_60 := Nat.ne_of_lt (Nat.lt_of_lt_of_le A_a15.lt p109_naI_0)
 have ne_a5_bq_60 : a5 ≠ bq_60 := Nat.ne_of_lt (Nat.lt_of_lt_of_le A_a5.lt p109_naI_0)
 have ne_a52_bq_60 : a52 ≠ bq_60 := Nat.ne_of_lt (Nat.lt_of_lt_of_le E_a52.lt p109_naI_0)
 have nw_bq_60 : h0.size ≤ bq_60 := Nat.le_trans K.1 p109_naI_0
 replace A_a5 := A_a5.keep K62 (ninS ne_a5_a52 nin0)
 replace A_a10 := A_a10.keep K62 (ninS ne_a10_a52 nin0)
 replace A_a15 := A_a15.keep K62 (ninS ne_a15_a52 nin0)
 replace K := K.trans K62 (allS (P := fun x => x ∈ ([] : List Addr) ∨ h0.size ≤ x) (Or.inr nw_a52) all0)
 have E_a52 := nw_E_a52; clear nw_E_a52
 have F_a52_question := nw_F_a52_question; clear nw_F_a52_question
 have F_a52_label := nw_F_a52_label; clear nw_F_a52_label
 have F_a52_byQuestion := nw_F_a52_byQuestion; clear nw_F_a52_byQuestion
 have A_bq_60 := nw_A_bq_60; clear nw_A_bq_60
 show o_Go Z EL n0 p e below s _ _ _ (T54.setTop (mkF m 112 _ [(.ref a52)]))
 refine o_astore (pc' := 114) w55 o_d15_112 rfl (Ls' := #[.val (.int i0), .val (.int i1), .val (.int i2), .val (.ref a5), .val (.ref a10), .val (.ref a15), .val (.ref a52), .unset, .unset, .unset, .unset]) rfl rfl ?_
 refine o_iloadN (pc' := 115) w55 o_d15_114 rfl rfl ?_
 refine o_iconst (pc' := 116) w55 o_d15_115 (x := (3 : Int32)) rfl rfl ?_
 rcases o_f4 i2 with hp | hp | hp | hp
 ·
  refine o_iand (pc' := 117) w55 o_d15_116 (z := (0 : Int32)) hp rfl ?_
  refine o_istore (pc' := 119) w55 o_d15_117 (Ls' := #[.val (.int i0), .val (.int i1), .val (.int i2), .val (.ref a5), .val (.ref a10), .val (.ref a15), .val (.ref a52), .val (.int (0 : Int32)), .unset, .unset, .unset]) rfl rfl ?_
  refine o_aload (pc' := 121) w55 o_d15_119 rfl rfl rfl ?_
  refine o_iload (pc' := 123) w55 o_d15_121 rfl rfl ?_
  refine o_callV (pc' := 126) w55 (o_w87 hw) (o_w88 hw) (fun s' hZ' => notFace_of_selects (args := #[]) (mvT hZ' (o_w90 hw))) (o_w90 hw) (o_w89 hw) (o_w3 hw) (o_w91 hw) (by decide) E_a52 (o_ct_byQ l Z a0 hw EL hE n0 [] h56 (o_old w55) a52 (0 : Int32) bq_60 kb_61 (o_bq f0 f1 f2 f3 g0 g1 g2 g3) 0 F_a52_byQuestion A_bq_60 (by decide) (rfl)) all0 (argsL := [(.int (0 : Int32))]) (rest := []) rfl rfl o_pd0 rfl o_d15_123 rfl (by decide) (W := 0) rfl (by decide) (by decide) (by decide) fun T63 h65 v66 ms67 w64 q68 => ?_
  obtain ⟨rfl, rfl, rfl⟩ := q68
  show o_Go Z EL n0 p e below s _ _ _ (T63.setTop (mkF m 126 _ [(.int (List.getD (o_bq f0 f1 f2 f3 g0 g1 g2 g3) 0 0))]))
  refine o_istore (pc' := 128) w64 o_d15_126 (Ls' := #[.val (.int i0), .val (.int i1), .val (.int i2), .val (.ref a5), .val (.ref a10), .val (.ref a15), .val (.ref a52), .val (.int (0 : Int32)), .val (.int (List.getD (o_bq f0 f1 f2 f3 g0 g1 g2 g3) 0 0)), .unset, .unset]) rfl rfl ?_
  refine o_aloadN (pc' := 129) w64 o_d15_128 rfl rfl rfl ?_
  refine o_iload (pc' := 131) w64 o_d15_129 rfl rfl ?_
  refine o_ldI (pc' := 132) w64 (v := (.int (List.getD [Int32.ofNat g0.val, Int32.ofNat g1.val, Int32.ofNat g2.val, Int32.ofNat g3.val] (List.getD (o_bq f0 f1 f2 f3 g0 g1 g2 g3) 0 0).toNatClampNeg 0))) A_a5 (o_bqr f0 f1 f2 f3 g0 g1 g2 g3 0) (o_ivg (l := [Int32.ofNat g0.val, Int32.ofNat g1.val, Int32.ofNat g2.val, Int32.ofNat g3.val]) rfl) o_d15_131 rfl ?_
  refine o_iconst (pc' := 133) w64 o_d15_132 (x := (3 : Int32)) rfl rfl ?_
  refine o_imul (pc' := 134) w64 o_d15_133 (z := ((List.getD [Int32.ofNat g0.val, Int32.ofNat g1.val, Int32.ofNat g2.val, Int32.ofNat g3.val] (List.getD (o_bq f0 f1 f2 f3 g0 g1 g2 g3) 0 0).toNatClampNeg 0) * (3 : Int32))) rfl rfl ?_
  refine o_aload (pc' := 136) w64 o_d15_134 rfl rfl rfl ?_
  refine o_iload (pc' := 138) w64 o_d15_136 rfl rfl ?_
  refine o_ldI (pc' := 139) w64 (v := (.int (List.getD [Int32.ofNat f0.val, Int32.ofNat f1.val, Int32.ofNat f2.val, Int32.ofNat f3.val] (List.getD (o_bq f0 f1 f2 f3 g0 g1 g2 g3) 0 0).toNatClampNeg 0))) A_a15 (o_bqr f0 f1 f2 f3 g0 g1 g2 g3 0) (o_ivg (l := [Int32.ofNat f0.val, Int32.ofNat f1.val, Int32.ofNat f2.val, Int32.ofNat f3.val]) rfl) o_d15_138 rfl ?_
  refine o_iadd (pc' := 140) w64 o_d15_139 (z := (((List.getD [Int32.ofNat g0.val, Int32.ofNat g1.val, Int32.ofNat g2.val, Int32.ofNat g3.val] (List.getD (o_bq f0 f1 f2 f3 g0 g1 g2 g3) 0 0).toNatClampNeg 0) * (3 : Int32)) + (List.getD [Int32.ofNat f0.val, Int32.ofNat f1.val, Int32.ofNat f2.val, Int32.ofNat f3.val] (List.getD (o_bq f0 f1 f2 f3 g0 g1 g2 g3) 0 0).toNatClampNeg 0))) rfl rfl ?_
  refine o_istore (pc' := 142) w64 o_d15_140 (Ls' := #[.val (.int i0), .val (.int i1), .val (.int i2), .val (.ref a5), .val (.ref a10), .val (.ref a15), .val (.ref a52), .val (.int (0 : Int32)), .val (.int (List.getD (o_bq f0 f1 f2 f3 g0 g1 g2 g3) 0 0)), .val (.int (((List.getD [Int32.ofNat g0.val, Int32.ofNat g1.val, Int32.ofNat g2.val, Int32.ofNat g3.val] (List.getD (o_bq f0 f1 f2 f3 g0 g1 g2 g3) 0 0).toNatClampNeg 0) * (3 : Int32)) + (List.getD [Int32.ofNat f0.val, Int32.ofNat f1.val, Int32.ofNat f2.val, Int32.ofNat f3.val] (List.getD (o_bq f0 f1 f2 f3 g0 g1 g2 g3) 0 0).toNatClampNeg 0))), .unset]) rfl rfl ?_
  refine o_aloadN (pc' := 143) w64 o_d15_142 rfl rfl rfl ?_
  refine o_iconst (pc' := 144) w64 o_d15_143 (x := (0 : Int32)) rfl rfl ?_
  refine o_ldI (pc' := 145) w64 (v := (.int (Int32.ofNat g0.val))) A_a5 (by decide) rfl o_d15_144 rfl ?_
  refine o_aload (pc' := 147) w64 o_d15_145 rfl rfl rfl ?_
  refine o_iconst (pc' := 148) w64 o_d15_147 (x := (0 : Int32)) rfl rfl ?_
  refine o_ldI (pc' := 149) w64 (v := (.int (Int32.ofNat f0.val))) A_a15 (by decide) rfl o_d15_148 rfl ?_
  refine o_iload (pc' := 151) w64 o_d15_149 rfl rfl ?_
  refine o_callS (pc' := 154) w64 (o_w92 hw) (o_w93 hw) (o_w94 hw) (o_w95 hw) (by decide) (o_ct_leq l Z a0 hw EL hE n0 [] h56 (o_old w64) (Int32.ofNat g0.val) (Int32.ofNat f0.val) (((List.getD [Int32.ofNat g0.val, Int32.ofNat g1.val, Int32.ofNat g2.val, Int32.ofNat g3.val] (List.getD (o_bq f0 f1 f2 f3 g0 g1 g2 g3) 0 0).toNatClampNeg 0) * (3 : Int32)) + (List.getD [Int32.ofNat f0.val, Int32.ofNat f1.val, Int32.ofNat f2.val, Int32.ofNat f3.val] (List.getD (o_bq f0 f1 f2 f3 g0 g1 g2 g3) 0 0).toNatClampNeg 0)) ) all0 (argsL := [(.int (Int32.ofNat g0.val)), (.int (Int32.ofNat f0.val)), (.int (((List.getD [Int32.ofNat g0.val, Int32.ofNat g1.val, Int32.ofNat g2.val, Int32.ofNat g3.val] (List.getD (o_bq f0 f1 f2 f3 g0 g1 g2 g3) 0 0).toNatClampNeg 0) * (3 : Int32)) + (List.getD [Int32.ofNat f0.val, Int32.ofNat f1.val, Int32.ofNat f2.val, Int32.ofNat f3.val] (List.getD (o_bq f0 f1 f2 f3 g0 g1 g2 g3) 0 0).toNatClampNeg 0)))]) (rest := []) rfl rfl o_pd11 rfl o_d15_151 rfl (by decide) (W := 0) rfl (by decide) (by decide) (by decide) fun T69 h71 v72 ms73 w70 q74 => ?_
  obtain ⟨rfl, rfl, rfl⟩ := q74
  show o_Go Z EL n0 p e below s _ _ _ (T69.setTop (mkF m 154 _ [(.int (o_le (Int32.ofNat g0.val) (Int32.ofNat f0.val) (((List.getD [Int32.ofNat g0.val, Int32.ofNat g1.val, Int32.ofNat g2.val, Int32.ofNat g3.val] (List.getD (o_bq f0 f1 f2 f3 g0 g1 g2 g3) 0 0).toNatClampNeg 0) * (3 : Int32)) + (List.getD [Int32.ofNat f0.val, Int32.ofNat f1.val, Int32.ofNat f2.val, Int32.ofNat f3.val] (List.getD (o_bq f0 f1 f2 f3 g0 g1 g2 g3) 0 0).toNatClampNeg 0))))]))
  refine o_aloadN (pc' := 155) w70 o_d15_154 rfl rfl rfl ?_
  refine o_iconst (pc' := 156) w70 o_d15_155 (x := (1 : Int32)) rfl rfl ?_
  refine o_ldI (pc' := 157) w70 (v := (.int (Int32.ofNat g1.val))) A_a5 (by decide) rfl o_d15_156 rfl ?_
  refine o_aload (pc' := 159) w70 o_d15_157 rfl rfl rfl ?_
  refine o_iconst (pc' := 160) w70 o_d15_159 (x := (1 : Int32)) rfl rfl ?_
  refine o_ldI (pc' := 161) w70 (v := (.int (Int32.ofNat f1.val))) A_a15 (by decide) rfl o_d15_160 rfl ?_
  refine o_iload (pc' := 163) w70 o_d15_161 rfl rfl ?_
  refine o_callS (pc' := 166) w70 (o_w92 hw) (o_w93 hw) (o_w94 hw) (o_w95 hw) (by decide) (o_ct_leq l Z a0 hw EL hE n0 [] h56 (o_old w70) (Int32.ofNat g1.val) (Int32.ofNat f1.val) (((List.getD [Int32.ofNat g0.val, Int32.ofNat g1.val, Int32.ofNat g2.val, Int32.ofNat g3.val] (List.getD (o_bq f0 f1 f2 f3 g0 g1 g2 g3) 0 0).toNatClampNeg 0) * (3 : Int32)) + (List.getD [Int32.ofNat f0.val, Int32.ofNat f1.val, Int32.ofNat f2.val, Int32.ofNat f3.val] (List.getD (o_bq f0 f1 f2 f3 g0 g1 g2 g3) 0 0).toNatClampNeg 0)) ) all0 (argsL := [(.int (Int32.ofNat g1.val)), (.int (Int32.ofNat f1.val)), (.int (((List.getD [Int32.ofNat g0.val, Int32.ofNat g1.val, Int32.ofNat g2.val, Int32.ofNat g3.val] (List.getD (o_bq f0 f1 f2 f3 g0 g1 g2 g3) 0 0).toNatClampNeg 0) * (3 : Int32)) + (List.getD [Int32.ofNat f0.val, Int32.ofNat f1.val, Int32.ofNat f2.val, Int32.ofNat f3.val] (List.getD (o_bq f0 f1 f2 f3 g0 g1 g2 g3) 0 0).toNatClampNeg 0)))]) (rest := [(.int (o_le (Int32.ofNat g0.val) (Int32.ofNat f0.val) (((List.getD [Int32.ofNat g0.val, Int32.ofNat g1.val, Int32.ofNat g2.val, Int32.ofNat g3.val] (List.getD (o_bq f0 f1 f2 f3 g0 g1 g2 g3) 0 0).toNatClampNeg 0) * (3 : Int32)) + (List.getD [Int32.ofNat f0.val, Int32.ofNat f1.val, Int32.ofNat f2.val, Int32.ofNat f3.val] (List.getD (o_bq f0 f1 f2 f3 g0 g1 g2 g3) 0 0).toNatClampNeg 0))))]) rfl rfl o_pd11 rfl o_d15_163 rfl (by decide) (W := 1) rfl (by decide) (by decide) (by decide) fun T75 h77 v78 ms79 w76 q80 => ?_
  obtain ⟨rfl, rfl, rfl⟩ := q80
  show o_Go Z EL n0 p e below s _ _ _ (T75.setTop (mkF m 166 _ [(.int (o_le (Int32.ofNat g1.val) (Int32.ofNat f1.val) (((List.getD [Int32.ofNat g0.val, Int32.ofNat g1.val, Int32.ofNat g2.val, Int32.ofNat g3.val] (List.getD (o_bq f0 f1 f2 f3 g0 g1 g2 g3) 0 0).toNatClampNeg 0) * (3 : Int32)) + (List.getD [Int32.ofNat f0.val, Int32.ofNat f1.val, Int32.ofNat f2.val, Int32.ofNat f3.val] (List.getD (o_bq f0 f1 f2 f3 g0 g1 g2 g3) 0 0).toNatClampNeg 0)))), (.int (o_le (Int32.ofNat g0.val) (Int32.ofNat f0.val) (((List.getD [Int32.ofNat g0.val, Int32.ofNat g1.val, Int32.ofNat g2.val, Int32.ofNat g3.val] (List.getD (o_bq f0 f1 f2 f3 g0 g1 g2 g3) 0 0).toNatClampNeg 0) * (3 : Int32)) + (List.getD [Int32.ofNat f0.val, Int32.ofNat f1.val, Int32.ofNat f2.val, Int32.ofNat f3.val] (List.getD (o_bq f0 f1 f2 f3 g0 g1 g2 g3) 0 0).toNatClampNeg 0))))]))
  refine o_iadd (pc' := 167) w76 o_d15_166 (z := ((o_le (Int32.ofNat g0.val) (Int32.ofNat f0.val) (((List.getD [Int32.ofNat g0.val, Int32.ofNat g1.val, Int32.ofNat g2.val, Int32.ofNat g3.val] (List.getD (o_bq f0 f1 f2 f3 g0 g1 g2 g3) 0 0).toNatClampNeg 0) * (3 : Int32)) + (List.getD [Int32.ofNat f0.val, Int32.ofNat f1.val, Int32.ofNat f2.val, Int32.ofNat f3.val] (List.getD (o_bq f0 f1 f2 f3 g0 g1 g2 g3) 0 0).toNatClampNeg 0))) + (o_le (Int32.ofNat g1.val) (Int32.ofNat f1.val) (((List.getD [Int32.ofNat g0.val, Int32.ofNat g1.val, Int32.ofNat g2.val, Int32.ofNat g3.val] (List.getD (o_bq f0 f1 f2 f3 g0 g1 g2 g3) 0 0).toNatClampNeg 0) * (3 : Int32)) + (List.getD [Int32.ofNat f0.val, Int32.ofNat f1.val, Int32.ofNat f2.val, Int32.ofNat f3.val] (List.getD (o_bq f0 f1 f2 f3 g0 g1 g2 g3) 0 0).toNatClampNeg 0))))) rfl rfl ?_
  refine o_aloadN (pc' := 168) w76 o_d15_167 rfl rfl rfl ?_
  refine o_iconst (pc' := 169) w76 o_d15_168 (x := (2 : Int32)) rfl rfl ?_
  refine o_ldI (pc' := 170) w76 (v := (.int (Int32.ofNat g2.val))) A_a5 (by decide) rfl o_d15_169 rfl ?_
  refine o_aload (pc' := 172) w76 o_d15_170 rfl rfl rfl ?_
  refine o_iconst (pc' := 173) w76 o_d15_172 (x := (2 : Int32)) rfl rfl ?_
  refine o_ldI (pc' := 174) w76 (v := (.int (Int32.ofNat f2.val))) A_a15 (by decide) rfl o_d15_173 rfl ?_
  refine o_iload (pc' := 176) w76 o_d15_174 rfl rfl ?_
  refine o_callS (pc' := 179) w76 (o_w92 hw) (o_w93 hw) (o_w94 hw) (o_w95 hw) (by decide) (o_ct_leq l Z a0 hw EL hE n0 [] h56 (o_old w76) (Int32.ofNat g2.val) (Int32.ofNat f2.val) (((List.getD [Int32.ofNat g0.val, Int32.ofNat g1.val, Int32.ofNat g2.val, Int32.ofNat g3.val] (List.getD (o_bq f0 f1 f2 f3 g0 g1 g2 g3) 0 0).toNatClampNeg 0) * (3 : Int32)) + (List.getD [Int32.ofNat f0.val, Int32.ofNat f1.val, Int32.ofNat f2.val, Int32.ofNat f3.val] (List.getD (o_bq f0 f1 f2 f3 g0 g1 g2 g3) 0 0).toNatClampNeg 0)) ) all0 (argsL := [(.int (Int32.ofNat g2.val)), (.int (Int32.ofNat f2.val)), (.int (((List.getD [Int32.ofNat g0.val, Int32.ofNat g1.val, Int32.ofNat g2.val, Int32.ofNat g3.val] (List.getD (o_bq f0 f1 f2 f3 g0 g1 g2 g3) 0 0).toNatClampNeg 0) * (3 : Int32)) + (List.getD [Int32.ofNat f0.val, Int32.ofNat f1.val, Int32.ofNat f2.val, Int32.ofNat f3.val] (List.getD (o_bq f0 f1 f2 f3 g0 g1 g2 g3) 0 0).toNatClampNeg 0)))]) (rest := [(.int ((o_le (Int32.ofNat g0.val) (Int32.ofNat f0.val) (((List.getD [Int32.ofNat g0.val, Int32.ofNat g1.val, Int32.ofNat g2.val, Int32.ofNat g3.val] (List.getD (o_bq f0 f1 f2 f3 g0 g1 g2 g3) 0 0).toNatClampNeg 0) * (3 : Int32)) + (List.getD [Int32.ofNat f0.val, Int32.ofNat f1.val, Int32.ofNat f2.val, Int32.ofNat f3.val] (List.getD (o_bq f0 f1 f2 f3 g0 g1 g2 g3) 0 0).toNatClampNeg 0))) + (o_le (Int32.ofNat g1.val) (Int32.ofNat f1.val) (((List.getD [Int32.ofNat g0.val, Int32.ofNat g1.val, Int32.ofNat g2.val, Int32.ofNat g3.val] (List.getD (o_bq f0 f1 f2 f3 g0 g1 g2 g3) 0 0).toNatClampNeg 0) * (3 : Int32)) + (List.getD [Int32.ofNat f0.val, Int32.ofNat f1.val, Int32.ofNat f2.val, Int32.ofNat f3.val] (List.getD (o_bq f0 f1 f2 f3 g0 g1 g2 g3) 0 0).toNatClampNeg 0)))))]) rfl rfl o_pd11 rfl o_d15_176 rfl (by decide) (W := 1) rfl (by decide) (by decide) (by decide) fun T81 h83 v84 ms85 w82 q86 => ?_
  obtain ⟨rfl, rfl, rfl⟩ := q86
  show o_Go Z EL n0 p e below s _ _ _ (T81.setTop (mkF m 179 _ [(.int (o_le (Int32.ofNat g2.val) (Int32.ofNat f2.val) (((List.getD [Int32.ofNat g0.val, Int32.ofNat g1.val, Int32.ofNat g2.val, Int32.ofNat g3.val] (List.getD (o_bq f0 f1 f2 f3 g0 g1 g2 g3) 0 0).toNatClampNeg 0) * (3 : Int32)) + (List.getD [Int32.ofNat f0.val, Int32.ofNat f1.val, Int32.ofNat f2.val, Int32.ofNat f3.val] (List.getD (o_bq f0 f1 f2 f3 g0 g1 g2 g3) 0 0).toNatClampNeg 0)))), (.int ((o_le (Int32.ofNat g0.val) (Int32.ofNat f0.val) (((List.getD [Int32.ofNat g0.val, Int32.ofNat g1.val, Int32.ofNat g2.val, Int32.ofNat g3.val] (List.getD (o_bq f0 f1 f2 f3 g0 g1 g2 g3) 0 0).toNatClampNeg 0) * (3 : Int32)) + (List.getD [Int32.ofNat f0.val, Int32.ofNat f1.val, Int32.ofNat f2.val, Int32.ofNat f3.val] (List.getD (o_bq f0 f1 f2 f3 g0 g1 g2 g3) 0 0).toNatClampNeg 0))) + (o_le (Int32.ofNat g1.val) (Int32.ofNat f1.val) (((List.getD [Int32.ofNat g0.val, Int32.ofNat g1.val, Int32.ofNat g2.val, Int32.ofNat g3.val] (List.getD (o_bq f0 f1 f2 f3 g0 g1 g2 g3) 0 0).toNatClampNeg 0) * (3 : Int32)) + (List.getD [Int32.ofNat f0.val, Int32.ofNat f1.val, Int32.ofNat f2.val, Int32.ofNat f3.val] (List.getD (o_bq f0 f1 f2 f3 g0 g1 g2 g3) 0 0).toNatClampNeg 0)))))]))
  refine o_iadd (pc' := 180) w82 o_d15_179 (z := (((o_le (Int32.ofNat g0.val) (Int32.ofNat f0.val) (((List.getD [Int32.ofNat g0.val, Int32.ofNat g1.val, Int32.ofNat g2.val, Int32.ofNat g3.val] (List.getD (o_bq f0 f1 f2 f3 g0 g1 g2 g3) 0 0).toNatClampNeg 0) * (3 : Int32)) + (List.getD [Int32.ofNat f0.val, Int32.ofNat f1.val, Int32.ofNat f2.val, Int32.ofNat f3.val] (List.getD (o_bq f0 f1 f2 f3 g0 g1 g2 g3) 0 0).toNatClampNeg 0))) + (o_le (Int32.ofNat g1.val) (Int32.ofNat f1.val) (((List.getD [Int32.ofNat g0.val, Int32.ofNat g1.val, Int32.ofNat g2.val, Int32.ofNat g3.val] (List.getD (o_bq f0 f1 f2 f3 g0 g1 g2 g3) 0 0).toNatClampNeg 0) * (3 : Int32)) + (List.getD [Int32.ofNat f0.val, Int32.ofNat f1.val, Int32.ofNat f2.val, Int32.ofNat f3.val] (List.getD (o_bq f0 f1 f2 f3 g0 g1 g2 g3) 0 0).toNatClampNeg 0)))) + (o_le (Int32.ofNat g2.val) (Int32.ofNat f2.val) (((List.getD [Int32.ofNat g0.val, Int32.ofNat g1.val, Int32.ofNat g2.val, Int32.ofNat g3.val] (List.getD (o_bq f0 f1 f2 f3 g0 g1 g2 g3) 0 0).toNatClampNeg 0) * (3 : Int32)) + (List.getD [Int32.ofNat f0.val, Int32.ofNat f1.val, Int32.ofNat f2.val, Int32.ofNat f3.val] (List.getD (o_bq f0 f1 f2 f3 g0 g1 g2 g3) 0 0).toNatClampNeg 0))))) rfl rfl ?_
  refine o_aloadN (pc' := 181) w82 o_d15_180 rfl rfl rfl ?_
  refine o_iconst (pc' := 182) w82 o_d15_181 (x := (3 : Int32)) rfl rfl ?_
  refine o_ldI (pc' := 183) w82 (v := (.int (Int32.ofNat g3.val))) A_a5 (by decide) rfl o_d15_182 rfl ?_
  refine o_aload (pc' := 185) w82 o_d15_183 rfl rfl rfl ?_
  refine o_iconst (pc' := 186) w82 o_d15_185 (x := (3 : Int32)) rfl rfl ?_
  refine o_ldI (pc' := 187) w82 (v := (.int (Int32.ofNat f3.val))) A_a15 (by decide) rfl o_d15_186 rfl ?_
  refine o_iload (pc' := 189) w82 o_d15_187 rfl rfl ?_
  refine o_callS (pc' := 192) w82 (o_w92 hw) (o_w93 hw) (o_w94 hw) (o_w95 hw) (by decide) (o_ct_leq l Z a0 hw EL hE n0 [] h56 (o_old w82) (Int32.ofNat g3.val) (Int32.ofNat f3.val) (((List.getD [Int32.ofNat g0.val, Int32.ofNat g1.val, Int32.ofNat g2.val, Int32.ofNat g3.val] (List.getD (o_bq f0 f1 f2 f3 g0 g1 g2 g3) 0 0).toNatClampNeg 0) * (3 : Int32)) + (List.getD [Int32.ofNat f0.val, Int32.ofNat f1.val, Int32.ofNat f2.val, Int32.ofNat f3.val] (List.getD (o_bq f0 f1 f2 f3 g0 g1 g2 g3) 0 0).toNatClampNeg 0)) ) all0 (argsL := [(.int (Int32.ofNat g3.val)), (.int (Int32.ofNat f3.val)), (.int (((List.getD [Int32.ofNat g0.val, Int32.ofNat g1.val, Int32.ofNat g2.val, Int32.ofNat g3.val] (List.getD (o_bq f0 f1 f2 f3 g0 g1 g2 g3) 0 0).toNatClampNeg 0) * (3 : Int32)) + (List.getD [Int32.ofNat f0.val, Int32.ofNat f1.val, Int32.ofNat f2.val, Int32.ofNat f3.val] (List.getD (o_bq f0 f1 f2 f3 g0 g1 g2 g3) 0 0).toNatClampNeg 0)))]) (rest := [(.int (((o_le (Int32.ofNat g0.val) (Int32.ofNat f0.val) (((List.getD [Int32.ofNat g0.val, Int32.ofNat g1.val, Int32.ofNat g2.val, Int32.ofNat g3.val] (List.getD (o_bq f0 f1 f2 f3 g0 g1 g2 g3) 0 0).toNatClampNeg 0) * (3 : Int32)) + (List.getD [Int32.ofNat f0.val, Int32.ofNat f1.val, Int32.ofNat f2.val, Int32.ofNat f3.val] (List.getD (o_bq f0 f1 f2 f3 g0 g1 g2 g3) 0 0).toNatClampNeg 0))) + (o_le (Int32.ofNat g1.val) (Int32.ofNat f1.val) (((List.getD [Int32.ofNat g0.val, Int32.ofNat g1.val, Int32.ofNat g2.val, Int32.ofNat g3.val] (List.getD (o_bq f0 f1 f2 f3 g0 g1 g2 g3) 0 0).toNatClampNeg 0) * (3 : Int32)) + (List.getD [Int32.ofNat f0.val, Int32.ofNat f1.val, Int32.ofNat f2.val, Int32.ofNat f3.val] (List.getD (o_bq f0 f1 f2 f3 g0 g1 g2 g3) 0 0).toNatClampNeg 0)))) + (o_le (Int32.ofNat g2.val) (Int32.ofNat f2.val) (((List.getD [Int32.ofNat g0.val, Int32.ofNat g1.val, Int32.ofNat g2.val, Int32.ofNat g3.val] (List.getD (o_bq f0 f1 f2 f3 g0 g1 g2 g3) 0 0).toNatClampNeg 0) * (3 : Int32)) + (List.getD [Int32.ofNat f0.val, Int32.ofNat f1.val, Int32.ofNat f2.val, Int32.ofNat f3.val] (List.getD (o_bq f0 f1 f2 f3 g0 g1 g2 g3) 0 0).toNatClampNeg 0)))))]) rfl rfl o_pd11 rfl o_d15_189 rfl (by decide) (W := 1) rfl (by decide) (by decide) (by decide) fun T87 h89 v90 ms91 w88 q92 => ?_
  obtain ⟨rfl, rfl, rfl⟩ := q92
  show o_Go Z EL n0 p e below s _ _ _ (T87.setTop (mkF m 192 _ [(.int (o_le (Int32.ofNat g3.val) (Int32.ofNat f3.val) (((List.getD [Int32.ofNat g0.val, Int32.ofNat g1.val, Int32.ofNat g2.val, Int32.ofNat g3.val] (List.getD (o_bq f0 f1 f2 f3 g0 g1 g2 g3) 0 0).toNatClampNeg 0) * (3 : Int32)) + (List.getD [Int32.ofNat f0.val, Int32.ofNat f1.val, Int32.ofNat f2.val, Int32.ofNat f3.val] (List.getD (o_bq f0 f1 f2 f3 g0 g1 g2 g3) 0 0).toNatClampNeg 0)))), (.int (((o_le (Int32.ofNat g0.val) (Int32.ofNat f0.val) (((List.getD [Int32.ofNat g0.val, Int32.ofNat g1.val, Int32.ofNat g2.val, Int32.ofNat g3.val] (List.getD (o_bq f0 f1 f2 f3 g0 g1 g2 g3) 0 0).toNatClampNeg 0) * (3 : Int32)) + (List.getD [Int32.ofNat f0.val, Int32.ofNat f1.val, Int32.ofNat f2.val, Int32.ofNat f3.val] (List.getD (o_bq f0 f1 f2 f3 g0 g1 g2 g3) 0 0).toNatClampNeg 0))) + (o_le (Int32.ofNat g1.val) (Int32.ofNat f1.val) (((List.getD [Int32.ofNat g0.val, Int32.ofNat g1.val, Int32.ofNat g2.val, Int32.ofNat g3.val] (List.getD (o_bq f0 f1 f2 f3 g0 g1 g2 g3) 0 0).toNatClampNeg 0) * (3 : Int32)) + (List.getD [Int32.ofNat f0.val, Int32.ofNat f1.val, Int32.ofNat f2.val, Int32.ofNat f3.val] (List.getD (o_bq f0 f1 f2 f3 g0 g1 g2 g3) 0 0).toNatClampNeg 0)))) + (o_le (Int32.ofNat g2.val) (Int32.ofNat f2.val) (((List.getD [Int32.ofNat g0.val, Int32.ofNat g1.val, Int32.ofNat g2.val, Int32.ofNat g3.val] (List.getD (o_bq f0 f1 f2 f3 g0 g1 g2 g3) 0 0).toNatClampNeg 0) * (3 : Int32)) + (List.getD [Int32.ofNat f0.val, Int32.ofNat f1.val, Int32.ofNat f2.val, Int32.ofNat f3.val] (List.getD (o_bq f0 f1 f2 f3 g0 g1 g2 g3) 0 0).toNatClampNeg 0)))))]))
  refine o_iadd (pc' := 193) w88 o_d15_192 (z := ((((o_le (Int32.ofNat g0.val) (Int32.ofNat f0.val) (((List.getD [Int32.ofNat g0.val, Int32.ofNat g1.val, Int32.ofNat g2.val, Int32.ofNat g3.val] (List.getD (o_bq f0 f1 f2 f3 g0 g1 g2 g3) 0 0).toNatClampNeg 0) * (3 : Int32)) + (List.getD [Int32.ofNat f0.val, Int32.ofNat f1.val, Int32.ofNat f2.val, Int32.ofNat f3.val] (List.getD (o_bq f0 f1 f2 f3 g0 g1 g2 g3) 0 0).toNatClampNeg 0))) + (o_le (Int32.ofNat g1.val) (Int32.ofNat f1.val) (((List.getD [Int32.ofNat g0.val, Int32.ofNat g1.val, Int32.ofNat g2.val, Int32.ofNat g3.val] (List.getD (o_bq f0 f1 f2 f3 g0 g1 g2 g3) 0 0).toNatClampNeg 0) * (3 : Int32)) + (List.getD [Int32.ofNat f0.val, Int32.ofNat f1.val, Int32.ofNat f2.val, Int32.ofNat f3.val] (List.getD (o_bq f0 f1 f2 f3 g0 g1 g2 g3) 0 0).toNatClampNeg 0)))) + (o_le (Int32.ofNat g2.val) (Int32.ofNat f2.val) (((List.getD [Int32.ofNat g0.val, Int32.ofNat g1.val, Int32.ofNat g2.val, Int32.ofNat g3.val] (List.getD (o_bq f0 f1 f2 f3 g0 g1 g2 g3) 0 0).toNatClampNeg 0) * (3 : Int32)) + (List.getD [Int32.ofNat f0.val, Int32.ofNat f1.val, Int32.ofNat f2.val, Int32.ofNat f3.val] (List.getD (o_bq f0 f1 f2 f3 g0 g1 g2 g3) 0 0).toNatClampNeg 0)))) + (o_le (Int32.ofNat g3.val) (Int32.ofNat f3.val) (((List.getD [Int32.ofNat g0.val, Int32.ofNat g1.val, Int32.ofNat g2.val, Int32.ofNat g3.val] (List.getD (o_bq f0 f1 f2 f3 g0 g1 g2 g3) 0 0).toNatClampNeg 0) * (3 : Int32)) + (List.getD [Int32.ofNat f0.val, Int32.ofNat f1.val, Int32.ofNat f2.val, Int32.ofNat f3.val] (List.getD (o_bq f0 f1 f2 f3 g0 g1 g2 g3) 0 0).toNatClampNeg 0))))) rfl rfl ?_
  refine o_istore (pc' := 195) w88 o_d15_193 (Ls' := #[.val (.int i0), .val (.int i1), .val (.int i2), .val (.ref a5), .val (.ref a10), .val (.ref a15), .val (.ref a52), .val (.int (0 : Int32)), .val (.int (List.getD (o_bq f0 f1 f2 f3 g0 g1 g2 g3) 0 0)), .val (.int (((List.getD [Int32.ofNat g0.val, Int32.ofNat g1.val, Int32.ofNat g2.val, Int32.ofNat g3.val] (List.getD (o_bq f0 f1 f2 f3 g0 g1 g2 g3) 0 0).toNatClampNeg 0) * (3 : Int32)) + (List.getD [Int32.ofNat f0.val, Int32.ofNat f1.val, Int32.ofNat f2.val, Int32.ofNat f3.val] (List.getD (o_bq f0 f1 f2 f3 g0 g1 g2 g3) 0 0).toNatClampNeg 0))), .val (.int ((((o_le (Int32.ofNat g0.val) (Int32.ofNat f0.val) (((List.getD [Int32.ofNat g0.val, Int32.ofNat g1.val, Int32.ofNat g2.val, Int32.ofNat g3.val] (List.getD (o_bq f0 f1 f2 f3 g0 g1 g2 g3) 0 0).toNatClampNeg 0) * (3 : Int32)) + (List.getD [Int32.ofNat f0.val, Int32.ofNat f1.val, Int32.ofNat f2.val, Int32.ofNat f3.val] (List.getD (o_bq f0 f1 f2 f3 g0 g1 g2 g3) 0 0).toNatClampNeg 0))) + (o_le (Int32.ofNat g1.val) (Int32.ofNat f1.val) (((List.getD [Int32.ofNat g0.val, Int32.ofNat g1.val, Int32.ofNat g2.val, Int32.ofNat g3.val] (List.getD (o_bq f0 f1 f2 f3 g0 g1 g2 g3) 0 0).toNatClampNeg 0) * (3 : Int32)) + (List.getD [Int32.ofNat f0.val, Int32.ofNat f1.val, Int32.ofNat f2.val, Int32.ofNat f3.val] (List.getD (o_bq f0 f1 f2 f3 g0 g1 g2 g3) 0 0).toNatClampNeg 0)))) + (o_le (Int32.ofNat g2.val) (Int32.ofNat f2.val) (((List.getD [Int32.ofNat g0.val, Int32.ofNat g1.val, Int32.ofNat g2.val, Int32.ofNat g3.val] (List.getD (o_bq f0 f1 f2 f3 g0 g1 g2 g3) 0 0).toNatClampNeg 0) * (3 : Int32)) + (List.getD [Int32.ofNat f0.val, Int32.ofNat f1.val, Int32.ofNat f2.val, Int32.ofNat f3.val] (List.getD (o_bq f0 f1 f2 f3 g0 g1 g2 g3) 0 0).toNatClampNeg 0)))) + (o_le (Int32.ofNat g3.val) (Int32.ofNat f3.val) (((List.getD [Int32.ofNat g0.val, Int32.ofNat g1.val, Int32.ofNat g2.val, Int32.ofNat g3.val] (List.getD (o_bq f0 f1 f2 f3 g0 g1 g2 g3) 0 0).toNatClampNeg 0) * (3 : Int32)) + (List.getD [Int32.ofNat f0.val, Int32.ofNat f1.val, Int32.ofNat f2.val, Int32.ofNat f3.val] (List.getD (o_bq f0 f1 f2 f3 g0 g1 g2 g3) 0 0).toNatClampNeg 0)))))]) rfl rfl ?_
  refine o_aload (pc' := 197) w88 o_d15_195 rfl rfl rfl ?_
  refine o_iload (pc' := 199) w88 o_d15_197 rfl rfl ?_
  replace A_a5 : Arv Z h56 a5 k_a5 .int (4 : Int32) (o_iv ([Int32.ofNat g0.val, Int32.ofNat g1.val, Int32.ofNat g2.val, Int32.ofNat g3.val])) (.int 0) := A_a5
  replace A_a15 : Arv Z h56 a15 k_a15 .int (4 : Int32) (o_iv ([Int32.ofNat f0.val, Int32.ofNat f1.val, Int32.ofNat f2.val, Int32.ofNat f3.val])) (.int 0) := A_a15
  refine o_callV (pc' := 202) w88 (o_w96 hw) (o_w97 hw) (fun s' hZ' => notFace_of_selects (args := #[]) (mvT hZ' (o_w99 hw))) (o_w99 hw) (o_w98 hw) (o_w3 hw) (o_w100 hw) (by decide) E_a52 (o_ct_re0 l Z a0 hw EL hE n0 [] h56 (o_old w88) a52 bq_60 kb_61 (o_bq f0 f1 f2 f3 g0 g1 g2 g3) a5 k_a5 ([Int32.ofNat g0.val, Int32.ofNat g1.val, Int32.ofNat g2.val, Int32.ofNat g3.val]) a15 k_a15 ([Int32.ofNat f0.val, Int32.ofNat f1.val, Int32.ofNat f2.val, Int32.ofNat f3.val]) F_a52_byQuestion A_bq_60 F_a52_question A_a5 F_a52_label A_a15 (o_bqr f0 f1 f2 f3 g0 g1 g2 g3)) all0 (argsL := [(.int (0 : Int32))]) (rest := []) rfl rfl o_pd0 rfl o_d15_199 rfl (by decide) (W := 0) rfl (by decide) (by decide) (by decide) fun T93 h95 v96 ms97 w94 q98 => ?_
  obtain ⟨rfl, rfl, rfl⟩ := q98
  show o_Go Z EL n0 p e below s _ _ _ (T93.setTop (mkF m 202 _ [(.int (o_re (o_bq f0 f1 f2 f3 g0 g1 g2 g3) ([Int32.ofNat g0.val, Int32.ofNat g1.val, Int32.ofNat g2.val, Int32.ofNat g3.val]) ([Int32.ofNat f0.val, Int32.ofNat f1.val, Int32.ofNat f2.val, Int32.ofNat f3.val]) 0))]))
  refine o_iload (pc' := 204) w94 o_d15_202 rfl rfl ?_
  refine o_icmp (pc' := 207) w94 o_d15_204 rfl (by decide) (pcY := 211) rfl (fun (hb204 : ¬ (o_re (o_bq f0 f1 f2 f3 g0 g1 g2 g3) ([Int32.ofNat g0.val, Int32.ofNat g1.val, Int32.ofNat g2.val, Int32.ofNat g3.val]) ([Int32.ofNat f0.val, Int32.ofNat f1.val, Int32.ofNat f2.val, Int32.ofNat f3.val]) 0) = ((((o_le (Int32.ofNat g0.val) (Int32.ofNat f0.val) (((List.getD [Int32.ofNat g0.val, Int32.ofNat g1.val, Int32.ofNat g2.val, Int32.ofNat g3.val] (List.getD (o_bq f0 f1 f2 f3 g0 g1 g2 g3) 0 0).toNatClampNeg 0) * (3 : Int32)) + (List.getD [Int32.ofNat f0.val, Int32.ofNat f1.val, Int32.ofNat f2.val, Int32.ofNat f3.val] (List.getD (o_bq f0 f1 f2 f3 g0 g1 g2 g3) 0 0).toNatClampNeg 0))) + (o_le (Int32.ofNat g1.val) (Int32.ofNat f1.val) (((List.getD [Int32.ofNat g0.val, Int32.ofNat g1.val, Int32.ofNat g2.val, Int32.ofNat g3.val] (List.getD (o_bq f0 f1 f2 f3 g0 g1 g2 g3) 0 0).toNatClampNeg 0) * (3 : Int32)) + (List.getD [Int32.ofNat f0.val, Int32.ofNat f1.val, Int32.ofNat f2.val, Int32.ofNat f3.val] (List.getD (o_bq f0 f1 f2 f3 g0 g1 g2 g3) 0 0).toNatClampNeg 0)))) + (o_le (Int32.ofNat g2.val) (Int32.ofNat f2.val) (((List.getD [Int32.ofNat g0.val, Int32.ofNat g1.val, Int32.ofNat g2.val, Int32.ofNat g3.val] (List.getD (o_bq f0 f1 f2 f3 g0 g1 g2 g3) 0 0).toNatClampNeg 0) * (3 : Int32)) + (List.getD [Int32.ofNat f0.val, Int32.ofNat f1.val, Int32.ofNat f2.val, Int32.ofNat f3.val] (List.getD (o_bq f0 f1 f2 f3 g0 g1 g2 g3) 0 0).toNatClampNeg 0)))) + (o_le (Int32.ofNat g3.val) (Int32.ofNat f3.val) (((List.getD [Int32.ofNat g0.val, Int32.ofNat g1.val, Int32.ofNat g2.val, Int32.ofNat g3.val] (List.getD (o_bq f0 f1 f2 f3 g0 g1 g2 g3) 0 0).toNatClampNeg 0) * (3 : Int32)) + (List.getD [Int32.ofNat f0.val, Int32.ofNat f1.val, Int32.ofNat f2.val, Int32.ofNat f3.val] (List.getD (o_bq f0 f1 f2 f3 g0 g1 g2 g3) 0 0).toNatClampNeg 0))))) => absurd (o_fin0 f0 f1 f2 f3 g0 g1 g2 g3) hb204) (fun (hb204 : (o_re (o_bq f0 f1 f2 f3 g0 g1 g2 g3) ([Int32.ofNat g0.val, Int32.ofNat g1.val, Int32.ofNat g2.val, Int32.ofNat g3.val]) ([Int32.ofNat f0.val, Int32.ofNat f1.val, Int32.ofNat f2.val, Int32.ofNat f3.val]) 0) = ((((o_le (Int32.ofNat g0.val) (Int32.ofNat f0.val) (((List.getD [Int32.ofNat g0.val, Int32.ofNat g1.val, Int32.ofNat g2.val, Int32.ofNat g3.val] (List.getD (o_bq f0 f1 f2 f3 g0 g1 g2 g3) 0 0).toNatClampNeg 0) * (3 : Int32)) + (List.getD [Int32.ofNat f0.val, Int32.ofNat f1.val, Int32.ofNat f2.val, Int32.ofNat f3.val] (List.getD (o_bq f0 f1 f2 f3 g0 g1 g2 g3) 0 0).toNatClampNeg 0))) + (o_le (Int32.ofNat g1.val) (Int32.ofNat f1.val) (((List.getD [Int32.ofNat g0.val, Int32.ofNat g1.val, Int32.ofNat g2.val, Int32.ofNat g3.val] (List.getD (o_bq f0 f1 f2 f3 g0 g1 g2 g3) 0 0).toNatClampNeg 0) * (3 : Int32)) + (List.getD [Int32.ofNat f0.val, Int32.ofNat f1.val, Int32.ofNat f2.val, Int32.ofNat f3.val] (List.getD (o_bq f0 f1 f2 f3 g0 g1 g2 g3) 0 0).toNatClampNeg 0)))) + (o_le (Int32.ofNat g2.val) (Int32.ofNat f2.val) (((List.getD [Int32.ofNat g0.val, Int32.ofNat g1.val, Int32.ofNat g2.val, Int32.ofNat g3.val] (List.getD (o_bq f0 f1 f2 f3 g0 g1 g2 g3) 0 0).toNatClampNeg 0) * (3 : Int32)) + (List.getD [Int32.ofNat f0.val, Int32.ofNat f1.val, Int32.ofNat f2.val, Int32.ofNat f3.val] (List.getD (o_bq f0 f1 f2 f3 g0 g1 g2 g3) 0 0).toNatClampNeg 0)))) + (o_le (Int32.ofNat g3.val) (Int32.ofNat f3.val) (((List.getD [Int32.ofNat g0.val, Int32.ofNat g1.val, Int32.ofNat g2.val, Int32.ofNat g3.val] (List.getD (o_bq f0 f1 f2 f3 g0 g1 g2 g3) 0 0).toNatClampNeg 0) * (3 : Int32)) + (List.getD [Int32.ofNat f0.val, Int32.ofNat f1.val, Int32.ofNat f2.val, Int32.ofNat f3.val] (List.getD (o_bq f0 f1 f2 f3 g0 g1 g2 g3) 0 0).toNatClampNeg 0))))) => ?_)
  refine o_iconst (pc' := 208) w94 o_d15_207 (x := (1 : Int32)) rfl rfl ?_
  refine o_goto w94 o_d15_208 (by decide) (pc' := 212) rfl ?_
  exact o_retV w94 (t := .boolean) rfl rfl (Or.inl ⟨rfl, by simp, _, rfl⟩) o_d15_212 (by decide) (by decide) (ms' := []) all0 ⟨K, rfl, rfl⟩
 ·
  refine o_iand (pc' := 117) w55 o_d15_116 (z := (1 : Int32)) hp rfl ?_
  refine o_istore (pc' := 119) w55 o_d15_117 (Ls' := #[.val (.int i0), .val (.int i1), .val (.int i2), .val (.ref a5), .val (.ref a10), .val (.ref a15), .val (.ref a52), .val (.int (1 : Int32)), .unset, .unset, .unset]) rfl rfl ?_
  refine o_aload (pc' := 121) w55 o_d15_119 rfl rfl rfl ?_
  refine o_iload (pc' := 123) w55 o_d15_121 rfl rfl ?_
  refine o_callV (pc' := 126) w55 (o_w87 hw) (o_w88 hw) (fun s' hZ' => notFace_of_selects (args := #[]) (mvT hZ' (o_w90 hw))) (o_w90 hw) (o_w89 hw) (o_w3 hw) (o_w91 hw) (by decide) E_a52 (o_ct_byQ l Z a0 hw EL hE n0 [] h56 (o_old w55) a52 (1 : Int32) bq_60 kb_61 (o_bq f0 f1 f2 f3 g0 g1 g2 g3) 1 F_a52_byQuestion A_bq_60 (by decide) (rfl)) all0 (argsL := [(.int (1 : Int32))]) (rest := []) rfl rfl o_pd0 rfl o_d15_123 rfl (by decide) (W := 0) rfl (by decide) (by decide) (by decide) fun T99 h101 v102 ms103 w100 q104 => ?_
  obtain ⟨rfl, rfl, rfl⟩ := q104
  show o_Go Z EL n0 p e below s _ _ _ (T99.setTop (mkF m 126 _ [(.int (List.getD (o_bq f0 f1 f2 f3 g0 g1 g2 g3) 1 0))]))
  refine o_istore (pc' := 128) w100 o_d15_126 (Ls' := #[.val (.int i0), .val (.int i1), .val (.int i2), .val (.ref a5), .val (.ref a10), .val (.ref a15), .val (.ref a52), .val (.int (1 : Int32)), .val (.int (List.getD (o_bq f0 f1 f2 f3 g0 g1 g2 g3) 1 0)), .unset, .unset]) rfl rfl ?_
  refine o_aloadN (pc' := 129) w100 o_d15_128 rfl rfl rfl ?_
  refine o_iload (pc' := 131) w100 o_d15_129 rfl rfl ?_
  refine o_ldI (pc' := 132) w100 (v := (.int (List.getD [Int32.ofNat g0.val, Int32.ofNat g1.val, Int32.ofNat g2.val, Int32.ofNat g3.val] (List.getD (o_bq f0 f1 f2 f3 g0 g1 g2 g3) 1 0).toNatClampNeg 0))) A_a5 (o_bqr f0 f1 f2 f3 g0 g1 g2 g3 1) (o_ivg (l := [Int32.ofNat g0.val, Int32.ofNat g1.val, Int32.ofNat g2.val, Int32.ofNat g3.val]) rfl) o_d15_131 rfl ?_
  refine o_iconst (pc' := 133) w100 o_d15_132 (x := (3 : Int32)) rfl rfl ?_
  refine o_imul (pc' := 134) w100 o_d15_133 (z := ((List.getD [Int32.ofNat g0.val, Int32.ofNat g1.val, Int32.ofNat g2.val, Int32.ofNat g3.val] (List.getD (o_bq f0 f1 f2 f3 g0 g1 g2 g3) 1 0).toNatClampNeg 0) * (3 : Int32))) rfl rfl ?_
  refine o_aload (pc' := 136) w100 o_d15_134 rfl rfl rfl ?_
  refine o_iload (pc' := 138) w100 o_d15_136 rfl rfl ?_
  refine o_ldI (pc' := 139) w100 (v := (.int (List.getD [Int32.ofNat f0.val, Int32.ofNat f1.val, Int32.ofNat f2.val, Int32.ofNat f3.val] (List.getD (o_bq f0 f1 f2 f3 g0 g1 g2 g3) 1 0).toNatClampNeg 0))) A_a15 (o_bqr f0 f1 f2 f3 g0 g1 g2 g3 1) (o_ivg (l := [Int32.ofNat f0.val, Int32.ofNat f1.val, Int32.ofNat f2.val, Int32.ofNat f3.val]) rfl) o_d15_138 rfl ?_
  refine o_iadd (pc' := 140) w100 o_d15_139 (z := (((List.getD [Int32.ofNat g0.val, Int32.ofNat g1.val, Int32.ofNat g2.val, Int32.ofNat g3.val] (List.getD (o_bq f0 f1 f2 f3 g0 g1 g2 g3) 1 0).toNatClampNeg 0) * (3 : Int32)) + (List.getD [Int32.ofNat f0.val, Int32.ofNat f1.val, Int32.ofNat f2.val, Int32.ofNat f3.val] (List.getD (o_bq f0 f1 f2 f3 g0 g1 g2 g3) 1 0).toNatClampNeg 0))) rfl rfl ?_
  refine o_istore (pc' := 142) w100 o_d15_140 (Ls' := #[.val (.int i0), .val (.int i1), .val (.int i2), .val (.ref a5), .val (.ref a10), .val (.ref a15), .val (.ref a52), .val (.int (1 : Int32)), .val (.int (List.getD (o_bq f0 f1 f2 f3 g0 g1 g2 g3) 1 0)), .val (.int (((List.getD [Int32.ofNat g0.val, Int32.ofNat g1.val, Int32.ofNat g2.val, Int32.ofNat g3.val] (List.getD (o_bq f0 f1 f2 f3 g0 g1 g2 g3) 1 0).toNatClampNeg 0) * (3 : Int32)) + (List.getD [Int32.ofNat f0.val, Int32.ofNat f1.val, Int32.ofNat f2.val, Int32.ofNat f3.val] (List.getD (o_bq f0 f1 f2 f3 g0 g1 g2 g3) 1 0).toNatClampNeg 0))), .unset]) rfl rfl ?_
  refine o_aloadN (pc' := 143) w100 o_d15_142 rfl rfl rfl ?_
  refine o_iconst (pc' := 144) w100 o_d15_143 (x := (0 : Int32)) rfl rfl ?_
  refine o_ldI (pc' := 145) w100 (v := (.int (Int32.ofNat g0.val))) A_a5 (by decide) rfl o_d15_144 rfl ?_
  refine o_aload (pc' := 147) w100 o_d15_145 rfl rfl rfl ?_
  refine o_iconst (pc' := 148) w100 o_d15_147 (x := (0 : Int32)) rfl rfl ?_
  refine o_ldI (pc' := 149) w100 (v := (.int (Int32.ofNat f0.val))) A_a15 (by decide) rfl o_d15_148 rfl ?_
  refine o_iload (pc' := 151) w100 o_d15_149 rfl rfl ?_
  refine o_callS (pc' := 154) w100 (o_w92 hw) (o_w93 hw) (o_w94 hw) (o_w95 hw) (by decide) (o_ct_leq l Z a0 hw EL hE n0 [] h56 (o_old w100) (Int32.ofNat g0.val) (Int32.ofNat f0.val) (((List.getD [Int32.ofNat g0.val, Int32.ofNat g1.val, Int32.ofNat g2.val, Int32.ofNat g3.val] (List.getD (o_bq f0 f1 f2 f3 g0 g1 g2 g3) 1 0).toNatClampNeg 0) * (3 : Int32)) + (List.getD [Int32.ofNat f0.val, Int32.ofNat f1.val, Int32.ofNat f2.val, Int32.ofNat f3.val] (List.getD (o_bq f0 f1 f2 f3 g0 g1 g2 g3) 1 0).toNatClampNeg 0)) ) all0 (argsL := [(.int (Int32.ofNat g0.val)), (.int (Int32.ofNat f0.val)), (.int (((List.getD [Int32.ofNat g0.val, Int32.ofNat g1.val, Int32.ofNat g2.val, Int32.ofNat g3.val] (List.getD (o_bq f0 f1 f2 f3 g0 g1 g2 g3) 1 0).toNatClampNeg 0) * (3 : Int32)) + (List.getD [Int32.ofNat f0.val, Int32.ofNat f1.val, Int32.ofNat f2.val, Int32.ofNat f3.val] (List.getD (o_bq f0 f1 f2 f3 g0 g1 g2 g3) 1 0).toNatClampNeg 0)))]) (rest := []) rfl rfl o_pd11 rfl o_d15_151 rfl (by decide) (W := 0) rfl (by decide) (by decide) (by decide) fun T105 h107 v108 ms109 w106 q110 => ?_
  obtain ⟨rfl, rfl, rfl⟩ := q110
  show o_Go Z EL n0 p e below s _ _ _ (T105.setTop (mkF m 154 _ [(.int (o_le (Int32.ofNat g0.val) (Int32.ofNat f0.val) (((List.getD [Int32.ofNat g0.val, Int32.ofNat g1.val, Int32.ofNat g2.val, Int32.ofNat g3.val] (List.getD (o_bq f0 f1 f2 f3 g0 g1 g2 g3) 1 0).toNatClampNeg 0) * (3 : Int32)) + (List.getD [Int32.ofNat f0.val, Int32.ofNat f1.val, Int32.ofNat f2.val, Int32.ofNat f3.val] (List.getD (o_bq f0 f1 f2 f3 g0 g1 g2 g3) 1 0).toNatClampNeg 0))))]))
  refine o_aloadN (pc' := 155) w106 o_d15_154 rfl rfl rfl ?_
  refine o_iconst (pc' := 156) w106 o_d15_155 (x := (1 : Int32)) rfl rfl ?_
  refine o_ldI (pc' := 157) w106 (v := (.int (Int32.ofNat g1.val))) A_a5 (by decide) rfl o_d15_156 rfl ?_
  refine o_aload (pc' := 159) w106 o_d15_157 rfl rfl rfl ?_
  refine o_iconst (pc' := 160) w106 o_d15_159 (x := (1 : Int32)) rfl rfl ?_
  refine o_ldI (pc' := 161) w106 (v := (.int (Int32.ofNat f1.val))) A_a15 (by decide) rfl o_d15_160 rfl ?_
  refine o_iload (pc' := 163) w106 o_d15_161 rfl rfl ?_
  refine o_callS (pc' := 166) w106 (o_w92 hw) (o_w93 hw) (o_w94 hw) (o_w95 hw) (by decide) (o_ct_leq l Z a0 hw EL hE n0 [] h56 (o_old w106) (Int32.ofNat g1.val) (Int32.ofNat f1.val) (((List.getD [Int32.ofNat g0.val, Int32.ofNat g1.val, Int32.ofNat g2.val, Int32.ofNat g3.val] (List.getD (o_bq f0 f1 f2 f3 g0 g1 g2 g3) 1 0).toNatClampNeg 0) * (3 : Int32)) + (List.getD [Int32.ofNat f0.val, Int32.ofNat f1.val, Int32.ofNat f2.val, Int32.ofNat f3.val] (List.getD (o_bq f0 f1 f2 f3 g0 g1 g2 g3) 1 0).toNatClampNeg 0)) ) all0 (argsL := [(.int (Int32.ofNat g1.val)), (.int (Int32.ofNat f1.val)), (.int (((List.getD [Int32.ofNat g0.val, Int32.ofNat g1.val, Int32.ofNat g2.val, Int32.ofNat g3.val] (List.getD (o_bq f0 f1 f2 f3 g0 g1 g2 g3) 1 0).toNatClampNeg 0) * (3 : Int32)) + (List.getD [Int32.ofNat f0.val, Int32.ofNat f1.val, Int32.ofNat f2.val, Int32.ofNat f3.val] (List.getD (o_bq f0 f1 f2 f3 g0 g1 g2 g3) 1 0).toNatClampNeg 0)))]) (rest := [(.int (o_le (Int32.ofNat g0.val) (Int32.ofNat f0.val) (((List.getD [Int32.ofNat g0.val, Int32.ofNat g1.val, Int32.ofNat g2.val, Int32.ofNat g3.val] (List.getD (o_bq f0 f1 f2 f3 g0 g1 g2 g3) 1 0).toNatClampNeg 0) * (3 : Int32)) + (List.getD [Int32.ofNat f0.val, Int32.ofNat f1.val, Int32.ofNat f2.val, Int32.ofNat f3.val] (List.getD (o_bq f0 f1 f2 f3 g0 g1 g2 g3) 1 0).toNatClampNeg 0))))]) rfl rfl o_pd11 rfl o_d15_163 rfl (by decide) (W := 1) rfl (by decide) (by decide) (by decide) fun T111 h113 v114 ms115 w112 q116 => ?_
  obtain ⟨rfl, rfl, rfl⟩ := q116
  show o_Go Z EL n0 p e below s _ _ _ (T111.setTop (mkF m 166 _ [(.int (o_le (Int32.ofNat g1.val) (Int32.ofNat f1.val) (((List.getD [Int32.ofNat g0.val, Int32.ofNat g1.val, Int32.ofNat g2.val, Int32.ofNat g3.val] (List.getD (o_bq f0 f1 f2 f3 g0 g1 g2 g3) 1 0).toNatClampNeg 0) * (3 : Int32)) + (List.getD [Int32.ofNat f0.val, Int32.ofNat f1.val, Int32.ofNat f2.val, Int32.ofNat f3.val] (List.getD (o_bq f0 f1 f2 f3 g0 g1 g2 g3) 1 0).toNatClampNeg 0)))), (.int (o_le (Int32.ofNat g0.val) (Int32.ofNat f0.val) (((List.getD [Int32.ofNat g0.val, Int32.ofNat g1.val, Int32.ofNat g2.val, Int32.ofNat g3.val] (List.getD (o_bq f0 f1 f2 f3 g0 g1 g2 g3) 1 0).toNatClampNeg 0) * (3 : Int32)) + (List.getD [Int32.ofNat f0.val, Int32.ofNat f1.val, Int32.ofNat f2.val, Int32.ofNat f3.val] (List.getD (o_bq f0 f1 f2 f3 g0 g1 g2 g3) 1 0).toNatClampNeg 0))))]))
  refine o_iadd (pc' := 167) w112 o_d15_166 (z := ((o_le (Int32.ofNat g0.val) (Int32.ofNat f0.val) (((List.getD [Int32.ofNat g0.val, Int32.ofNat g1.val, Int32.ofNat g2.val, Int32.ofNat g3.val] (List.getD (o_bq f0 f1 f2 f3 g0 g1 g2 g3) 1 0).toNatClampNeg 0) * (3 : Int32)) + (List.getD [Int32.ofNat f0.val, Int32.ofNat f1.val, Int32.ofNat f2.val, Int32.ofNat f3.val] (List.getD (o_bq f0 f1 f2 f3 g0 g1 g2 g3) 1 0).toNatClampNeg 0))) + (o_le (Int32.ofNat g1.val) (Int32.ofNat f1.val) (((List.getD [Int32.ofNat g0.val, Int32.ofNat g1.val, Int32.ofNat g2.val, Int32.ofNat g3.val] (List.getD (o_bq f0 f1 f2 f3 g0 g1 g2 g3) 1 0).toNatClampNeg 0) * (3 : Int32)) + (List.getD [Int32.ofNat f0.val, Int32.ofNat f1.val, Int32.ofNat f2.val, Int32.ofNat f3.val] (List.getD (o_bq f0 f1 f2 f3 g0 g1 g2 g3) 1 0).toNatClampNeg 0))))) rfl rfl ?_
  refine o_aloadN (pc' := 168) w112 o_d15_167 rfl rfl rfl ?_
  refine o_iconst (pc' := 169) w112 o_d15_168 (x := (2 : Int32)) rfl rfl ?_
  refine o_ldI (pc' := 170) w112 (v := (.int (Int32.ofNat g2.val))) A_a5 (by decide) rfl o_d15_169 rfl ?_
  refine o_aload (pc' := 172) w112 o_d15_170 rfl rfl rfl ?_
  refine o_iconst (pc' := 173) w112 o_d15_172 (x := (2 : Int32)) rfl rfl ?_
  refine o_ldI (pc' := 174) w112 (v := (.int (Int32.ofNat f2.val))) A_a15 (by decide) rfl o_d15_173 rfl ?_
  refine o_iload (pc' := 176) w112 o_d15_174 rfl rfl ?_
  refine o_callS (pc' := 179) w112 (o_w92 hw) (o_w93 hw) (o_w94 hw) (o_w95 hw) (by decide) (o_ct_leq l Z a0 hw EL hE n0 [] h56 (o_old w112) (Int32.ofNat g2.val) (Int32.ofNat f2.val) (((List.getD [Int32.ofNat g0.val, Int32.ofNat g1.val, Int32.ofNat g2.val, Int32.ofNat g3.val] (List.getD (o_bq f0 f1 f2 f3 g0 g1 g2 g3) 1 0).toNatClampNeg 0) * (3 : Int32)) + (List.getD [Int32.ofNat f0.val, Int32.ofNat f1.val, Int32.ofNat f2.val, Int32.ofNat f3.val] (List.getD (o_bq f0 f1 f2 f3 g0 g1 g2 g3) 1 0).toNatClampNeg 0)) ) all0 (argsL := [(.int (Int32.ofNat g2.val)), (.int (Int32.ofNat f2.val)), (.int (((List.getD [Int32.ofNat g0.val, Int32.ofNat g1.val, Int32.ofNat g2.val, Int32.ofNat g3.val] (List.getD (o_bq f0 f1 f2 f3 g0 g1 g2 g3) 1 0).toNatClampNeg 0) * (3 : Int32)) + (List.getD [Int32.ofNat f0.val, Int32.ofNat f1.val, Int32.ofNat f2.val, Int32.ofNat f3.val] (List.getD (o_bq f0 f1 f2 f3 g0 g1 g2 g3) 1 0).toNatClampNeg 0)))]) (rest := [(.int ((o_le (Int32.ofNat g0.val) (Int32.ofNat f0.val) (((List.getD [Int32.ofNat g0.val, Int32.ofNat g1.val, Int32.ofNat g2.val, Int32.ofNat g3.val] (List.getD (o_bq f0 f1 f2 f3 g0 g1 g2 g3) 1 0).toNatClampNeg 0) * (3 : Int32)) + (List.getD [Int32.ofNat f0.val, Int32.ofNat f1.val, Int32.ofNat f2.val, Int32.ofNat f3.val] (List.getD (o_bq f0 f1 f2 f3 g0 g1 g2 g3) 1 0).toNatClampNeg 0))) + (o_le (Int32.ofNat g1.val) (Int32.ofNat f1.val) (((List.getD [Int32.ofNat g0.val, Int32.ofNat g1.val, Int32.ofNat g2.val, Int32.ofNat g3.val] (List.getD (o_bq f0 f1 f2 f3 g0 g1 g2 g3) 1 0).toNatClampNeg 0) * (3 : Int32)) + (List.getD [Int32.ofNat f0.val, Int32.ofNat f1.val, Int32.ofNat f2.val, Int32.ofNat f3.val] (List.getD (o_bq f0 f1 f2 f3 g0 g1 g2 g3) 1 0).toNatClampNeg 0)))))]) rfl rfl o_pd11 rfl o_d15_176 rfl (by decide) (W := 1) rfl (by decide) (by decide) (by decide) fun T117 h119 v120 ms121 w118 q122 => ?_
  obtain ⟨rfl, rfl, rfl⟩ := q122
  show o_Go Z EL n0 p e below s _ _ _ (T117.setTop (mkF m 179 _ [(.int (o_le (Int32.ofNat g2.val) (Int32.ofNat f2.val) (((List.getD [Int32.ofNat g0.val, Int32.ofNat g1.val, Int32.ofNat g2.val, Int32.ofNat g3.val] (List.getD (o_bq f0 f1 f2 f3 g0 g1 g2 g3) 1 0).toNatClampNeg 0) * (3 : Int32)) + (List.getD [Int32.ofNat f0.val, Int32.ofNat f1.val, Int32.ofNat f2.val, Int32.ofNat f3.val] (List.getD (o_bq f0 f1 f2 f3 g0 g1 g2 g3) 1 0).toNatClampNeg 0)))), (.int ((o_le (Int32.ofNat g0.val) (Int32.ofNat f0.val) (((List.getD [Int32.ofNat g0.val, Int32.ofNat g1.val, Int32.ofNat g2.val, Int32.ofNat g3.val] (List.getD (o_bq f0 f1 f2 f3 g0 g1 g2 g3) 1 0).toNatClampNeg 0) * (3 : Int32)) + (List.getD [Int32.ofNat f0.val, Int32.ofNat f1.val, Int32.ofNat f2.val, Int32.ofNat f3.val] (List.getD (o_bq f0 f1 f2 f3 g0 g1 g2 g3) 1 0).toNatClampNeg 0))) + (o_le (Int32.ofNat g1.val) (Int32.ofNat f1.val) (((List.getD [Int32.ofNat g0.val, Int32.ofNat g1.val, Int32.ofNat g2.val, Int32.ofNat g3.val] (List.getD (o_bq f0 f1 f2 f3 g0 g1 g2 g3) 1 0).toNatClampNeg 0) * (3 : Int32)) + (List.getD [Int32.ofNat f0.val, Int32.ofNat f1.val, Int32.ofNat f2.val, Int32.ofNat f3.val] (List.getD (o_bq f0 f1 f2 f3 g0 g1 g2 g3) 1 0).toNatClampNeg 0)))))]))
  refine o_iadd (pc' := 180) w118 o_d15_179 (z := (((o_le (Int32.ofNat g0.val) (Int32.ofNat f0.val) (((List.getD [Int32.ofNat g0.val, Int32.ofNat g1.val, Int32.ofNat g2.val, Int32.ofNat g3.val] (List.getD (o_bq f0 f1 f2 f3 g0 g1 g2 g3) 1 0).toNatClampNeg 0) * (3 : Int32)) + (List.getD [Int32.ofNat f0.val, Int32.ofNat f1.val, Int32.ofNat f2.val, Int32.ofNat f3.val] (List.getD (o_bq f0 f1 f2 f3 g0 g1 g2 g3) 1 0).toNatClampNeg 0))) + (o_le (Int32.ofNat g1.val) (Int32.ofNat f1.val) (((List.getD [Int32.ofNat g0.val, Int32.ofNat g1.val, Int32.ofNat g2.val, Int32.ofNat g3.val] (List.getD (o_bq f0 f1 f2 f3 g0 g1 g2 g3) 1 0).toNatClampNeg 0) * (3 : Int32)) + (List.getD [Int32.ofNat f0.val, Int32.ofNat f1.val, Int32.ofNat f2.val, Int32.ofNat f3.val] (List.getD (o_bq f0 f1 f2 f3 g0 g1 g2 g3) 1 0).toNatClampNeg 0)))) + (o_le (Int32.ofNat g2.val) (Int32.ofNat f2.val) (((List.getD [Int32.ofNat g0.val, Int32.ofNat g1.val, Int32.ofNat g2.val, Int32.ofNat g3.val] (List.getD (o_bq f0 f1 f2 f3 g0 g1 g2 g3) 1 0).toNatClampNeg 0) * (3 : Int32)) + (List.getD [Int32.ofNat f0.val, Int32.ofNat f1.val, Int32.ofNat f2.val, Int32.ofNat f3.val] (List.getD (o_bq f0 f1 f2 f3 g0 g1 g2 g3) 1 0).toNatClampNeg 0))))) rfl rfl ?_
  refine o_aloadN (pc' := 181) w118 o_d15_180 rfl rfl rfl ?_
  refine o_iconst (pc' := 182) w118 o_d15_181 (x := (3 : Int32)) rfl rfl ?_
  refine o_ldI (pc' := 183) w118 (v := (.int (Int32.ofNat g3.val))) A_a5 (by decide) rfl o_d15_182 rfl ?_
  refine o_aload (pc' := 185) w118 o_d15_183 rfl rfl rfl ?_
  refine o_iconst (pc' := 186) w118 o_d15_185 (x := (3 : Int32)) rfl rfl ?_
  refine o_ldI (pc' := 187) w118 (v := (.int (Int32.ofNat f3.val))) A_a15 (by decide) rfl o_d15_186 rfl ?_
  refine o_iload (pc' := 189) w118 o_d15_187 rfl rfl ?_
  refine o_callS (pc' := 192) w118 (o_w92 hw) (o_w93 hw) (o_w94 hw) (o_w95 hw) (by decide) (o_ct_leq l Z a0 hw EL hE n0 [] h56 (o_old w118) (Int32.ofNat g3.val) (Int32.ofNat f3.val) (((List.getD [Int32.ofNat g0.val, Int32.ofNat g1.val, Int32.ofNat g2.val, Int32.ofNat g3.val] (List.getD (o_bq f0 f1 f2 f3 g0 g1 g2 g3) 1 0).toNatClampNeg 0) * (3 : Int32)) + (List.getD [Int32.ofNat f0.val, Int32.ofNat f1.val, Int32.ofNat f2.val, Int32.ofNat f3.val] (List.getD (o_bq f0 f1 f2 f3 g0 g1 g2 g3) 1 0).toNatClampNeg 0)) ) all0 (argsL := [(.int (Int32.ofNat g3.val)), (.int (Int32.ofNat f3.val)), (.int (((List.getD [Int32.ofNat g0.val, Int32.ofNat g1.val, Int32.ofNat g2.val, Int32.ofNat g3.val] (List.getD (o_bq f0 f1 f2 f3 g0 g1 g2 g3) 1 0).toNatClampNeg 0) * (3 : Int32)) + (List.getD [Int32.ofNat f0.val, Int32.ofNat f1.val, Int32.ofNat f2.val, Int32.ofNat f3.val] (List.getD (o_bq f0 f1 f2 f3 g0 g1 g2 g3) 1 0).toNatClampNeg 0)))]) (rest := [(.int (((o_le (Int32.ofNat g0.val) (Int32.ofNat f0.val) (((List.getD [Int32.ofNat g0.val, Int32.ofNat g1.val, Int32.ofNat g2.val, Int32.ofNat g3.val] (List.getD (o_bq f0 f1 f2 f3 g0 g1 g2 g3) 1 0).toNatClampNeg 0) * (3 : Int32)) + (List.getD [Int32.ofNat f0.val, Int32.ofNat f1.val, Int32.ofNat f2.val, Int32.ofNat f3.val] (List.getD (o_bq f0 f1 f2 f3 g0 g1 g2 g3) 1 0).toNatClampNeg 0))) + (o_le (Int32.ofNat g1.val) (Int32.ofNat f1.val) (((List.getD [Int32.ofNat g0.val, Int32.ofNat g1.val, Int32.ofNat g2.val, Int32.ofNat g3.val] (List.getD (o_bq f0 f1 f2 f3 g0 g1 g2 g3) 1 0).toNatClampNeg 0) * (3 : Int32)) + (List.getD [Int32.ofNat f0.val, Int32.ofNat f1.val, Int32.ofNat f2.val, Int32.ofNat f3.val] (List.getD (o_bq f0 f1 f2 f3 g0 g1 g2 g3) 1 0).toNatClampNeg 0)))) + (o_le (Int32.ofNat g2.val) (Int32.ofNat f2.val) (((List.getD [Int32.ofNat g0.val, Int32.ofNat g1.val, Int32.ofNat g2.val, Int32.ofNat g3.val] (List.getD (o_bq f0 f1 f2 f3 g0 g1 g2 g3) 1 0).toNatClampNeg 0) * (3 : Int32)) + (List.getD [Int32.ofNat f0.val, Int32.ofNat f1.val, Int32.ofNat f2.val, Int32.ofNat f3.val] (List.getD (o_bq f0 f1 f2 f3 g0 g1 g2 g3) 1 0).toNatClampNeg 0)))))]) rfl rfl o_pd11 rfl o_d15_189 rfl (by decide) (W := 1) rfl (by decide) (by decide) (by decide) fun T123 h125 v126 ms127 w124 q128 => ?_
  obtain ⟨rfl, rfl, rfl⟩ := q128
  show o_Go Z EL n0 p e below s _ _ _ (T123.setTop (mkF m 192 _ [(.int (o_le (Int32.ofNat g3.val) (Int32.ofNat f3.val) (((List.getD [Int32.ofNat g0.val, Int32.ofNat g1.val, Int32.ofNat g2.val, Int32.ofNat g3.val] (List.getD (o_bq f0 f1 f2 f3 g0 g1 g2 g3) 1 0).toNatClampNeg 0) * (3 : Int32)) + (List.getD [Int32.ofNat f0.val, Int32.ofNat f1.val, Int32.ofNat f2.val, Int32.ofNat f3.val] (List.getD (o_bq f0 f1 f2 f3 g0 g1 g2 g3) 1 0).toNatClampNeg 0)))), (.int (((o_le (Int32.ofNat g0.val) (Int32.ofNat f0.val) (((List.getD [Int32.ofNat g0.val, Int32.ofNat g1.val, Int32.ofNat g2.val, Int32.ofNat g3.val] (List.getD (o_bq f0 f1 f2 f3 g0 g1 g2 g3) 1 0).toNatClampNeg 0) * (3 : Int32)) + (List.getD [Int32.ofNat f0.val, Int32.ofNat f1.val, Int32.ofNat f2.val, Int32.ofNat f3.val] (List.getD (o_bq f0 f1 f2 f3 g0 g1 g2 g3) 1 0).toNatClampNeg 0))) + (o_le (Int32.ofNat g1.val) (Int32.ofNat f1.val) (((List.getD [Int32.ofNat g0.val, Int32.ofNat g1.val, Int32.ofNat g2.val, Int32.ofNat g3.val] (List.getD (o_bq f0 f1 f2 f3 g0 g1 g2 g3) 1 0).toNatClampNeg 0) * (3 : Int32)) + (List.getD [Int32.ofNat f0.val, Int32.ofNat f1.val, Int32.ofNat f2.val, Int32.ofNat f3.val] (List.getD (o_bq f0 f1 f2 f3 g0 g1 g2 g3) 1 0).toNatClampNeg 0)))) + (o_le (Int32.ofNat g2.val) (Int32.ofNat f2.val) (((List.getD [Int32.ofNat g0.val, Int32.ofNat g1.val, Int32.ofNat g2.val, Int32.ofNat g3.val] (List.getD (o_bq f0 f1 f2 f3 g0 g1 g2 g3) 1 0).toNatClampNeg 0) * (3 : Int32)) + (List.getD [Int32.ofNat f0.val, Int32.ofNat f1.val, Int32.ofNat f2.val, Int32.ofNat f3.val] (List.getD (o_bq f0 f1 f2 f3 g0 g1 g2 g3) 1 0).toNatClampNeg 0)))))]))
  refine o_iadd (pc' := 193) w124 o_d15_192 (z := ((((o_le (Int32.ofNat g0.val) (Int32.ofNat f0.val) (((List.getD [Int32.ofNat g0.val, Int32.ofNat g1.val, Int32.ofNat g2.val, Int32.ofNat g3.val] (List.getD (o_bq f0 f1 f2 f3 g0 g1 g2 g3) 1 0).toNatClampNeg 0) * (3 : Int32)) + (List.getD [Int32.ofNat f0.val, Int32.ofNat f1.val, Int32.ofNat f2.val, Int32.ofNat f3.val] (List.getD (o_bq f0 f1 f2 f3 g0 g1 g2 g3) 1 0).toNatClampNeg 0))) + (o_le (Int32.ofNat g1.val) (Int32.ofNat f1.val) (((List.getD [Int32.ofNat g0.val, Int32.ofNat g1.val, Int32.ofNat g2.val, Int32.ofNat g3.val] (List.getD (o_bq f0 f1 f2 f3 g0 g1 g2 g3) 1 0).toNatClampNeg 0) * (3 : Int32)) + (List.getD [Int32.ofNat f0.val, Int32.ofNat f1.val, Int32.ofNat f2.val, Int32.ofNat f3.val] (List.getD (o_bq f0 f1 f2 f3 g0 g1 g2 g3) 1 0).toNatClampNeg 0)))) + (o_le (Int32.ofNat g2.val) (Int32.ofNat f2.val) (((List.getD [Int32.ofNat g0.val, Int32.ofNat g1.val, Int32.ofNat g2.val, Int32.ofNat g3.val] (List.getD (o_bq f0 f1 f2 f3 g0 g1 g2 g3) 1 0).toNatClampNeg 0) * (3 : Int32)) + (List.getD [Int32.ofNat f0.val, Int32.ofNat f1.val, Int32.ofNat f2.val, Int32.ofNat f3.val] (List.getD (o_bq f0 f1 f2 f3 g0 g1 g2 g3) 1 0).toNatClampNeg 0)))) + (o_le (Int32.ofNat g3.val) (Int32.ofNat f3.val) (((List.getD [Int32.ofNat g0.val, Int32.ofNat g1.val, Int32.ofNat g2.val, Int32.ofNat g3.val] (List.getD (o_bq f0 f1 f2 f3 g0 g1 g2 g3) 1 0).toNatClampNeg 0) * (3 : Int32)) + (List.getD [Int32.ofNat f0.val, Int32.ofNat f1.val, Int32.ofNat f2.val, Int32.ofNat f3.val] (List.getD (o_bq f0 f1 f2 f3 g0 g1 g2 g3) 1 0).toNatClampNeg 0))))) rfl rfl ?_
  refine o_istore (pc' := 195) w124 o_d15_193 (Ls' := #[.val (.int i0), .val (.int i1), .val (.int i2), .val (.ref a5), .val (.ref a10), .val (.ref a15), .val (.ref a52), .val (.int (1 : Int32)), .val (.int (List.getD (o_bq f0 f1 f2 f3 g0 g1 g2 g3) 1 0)), .val (.int (((List.getD [Int32.ofNat g0.val, Int32.ofNat g1.val, Int32.ofNat g2.val, Int32.ofNat g3.val] (List.getD (o_bq f0 f1 f2 f3 g0 g1 g2 g3) 1 0).toNatClampNeg 0) * (3 : Int32)) + (List.getD [Int32.ofNat f0.val, Int32.ofNat f1.val, Int32.ofNat f2.val, Int32.ofNat f3.val] (List.getD (o_bq f0 f1 f2 f3 g0 g1 g2 g3) 1 0).toNatClampNeg 0))), .val (.int ((((o_le (Int32.ofNat g0.val) (Int32.ofNat f0.val) (((List.getD [Int32.ofNat g0.val, Int32.ofNat g1.val, Int32.ofNat g2.val, Int32.ofNat g3.val] (List.getD (o_bq f0 f1 f2 f3 g0 g1 g2 g3) 1 0).toNatClampNeg 0) * (3 : Int32)) + (List.getD [Int32.ofNat f0.val, Int32.ofNat f1.val, Int32.ofNat f2.val, Int32.ofNat f3.val] (List.getD (o_bq f0 f1 f2 f3 g0 g1 g2 g3) 1 0).toNatClampNeg 0))) + (o_le (Int32.ofNat g1.val) (Int32.ofNat f1.val) (((List.getD [Int32.ofNat g0.val, Int32.ofNat g1.val, Int32.ofNat g2.val, Int32.ofNat g3.val] (List.getD (o_bq f0 f1 f2 f3 g0 g1 g2 g3) 1 0).toNatClampNeg 0) * (3 : Int32)) + (List.getD [Int32.ofNat f0.val, Int32.ofNat f1.val, Int32.ofNat f2.val, Int32.ofNat f3.val] (List.getD (o_bq f0 f1 f2 f3 g0 g1 g2 g3) 1 0).toNatClampNeg 0)))) + (o_le (Int32.ofNat g2.val) (Int32.ofNat f2.val) (((List.getD [Int32.ofNat g0.val, Int32.ofNat g1.val, Int32.ofNat g2.val, Int32.ofNat g3.val] (List.getD (o_bq f0 f1 f2 f3 g0 g1 g2 g3) 1 0).toNatClampNeg 0) * (3 : Int32)) + (List.getD [Int32.ofNat f0.val, Int32.ofNat f1.val, Int32.ofNat f2.val, Int32.ofNat f3.val] (List.getD (o_bq f0 f1 f2 f3 g0 g1 g2 g3) 1 0).toNatClampNeg 0)))) + (o_le (Int32.ofNat g3.val) (Int32.ofNat f3.val) (((List.getD [Int32.ofNat g0.val, Int32.ofNat g1.val, Int32.ofNat g2.val, Int32.ofNat g3.val] (List.getD (o_bq f0 f1 f2 f3 g0 g1 g2 g3) 1 0).toNatClampNeg 0) * (3 : Int32)) + (List.getD [Int32.ofNat f0.val, Int32.ofNat f1.val, Int32.ofNat f2.val, Int32.ofNat f3.val] (List.getD (o_bq f0 f1 f2 f3 g0 g1 g2 g3) 1 0).toNatClampNeg 0)))))]) rfl rfl ?_
  refine o_aload (pc' := 197) w124 o_d15_195 rfl rfl rfl ?_
  refine o_iload (pc' := 199) w124 o_d15_197 rfl rfl ?_
  replace A_a5 : Arv Z h56 a5 k_a5 .int (4 : Int32) (o_iv ([Int32.ofNat g0.val, Int32.ofNat g1.val, Int32.ofNat g2.val, Int32.ofNat g3.val])) (.int 0) := A_a5
  replace A_a15 : Arv Z h56 a15 k_a15 .int (4 : Int32) (o_iv ([Int32.ofNat f0.val, Int32.ofNat f1.val, Int32.ofNat f2.val, Int32.ofNat f3.val])) (.int 0) := A_a15
  refine o_callV (pc' := 202) w124 (o_w96 hw) (o_w97 hw) (fun s' hZ' => notFace_of_selects (args := #[]) (mvT hZ' (o_w99 hw))) (o_w99 hw) (o_w98 hw) (o_w3 hw) (o_w100 hw) (by decide) E_a52 (o_ct_re1 l Z a0 hw EL hE n0 [] h56 (o_old w124) a52 bq_60 kb_61 (o_bq f0 f1 f2 f3 g0 g1 g2 g3) a5 k_a5 ([Int32.ofNat g0.val, Int32.ofNat g1.val, Int32.ofNat g2.val, Int32.ofNat g3.val]) a15 k_a15 ([Int32.ofNat f0.val, Int32.ofNat f1.val, Int32.ofNat f2.val, Int32.ofNat f3.val]) F_a52_byQuestion A_bq_60 F_a52_question A_a5 F_a52_label A_a15 (o_bqr f0 f1 f2 f3 g0 g1 g2 g3)) all0 (argsL := [(.int (1 : Int32))]) (rest := []) rfl rfl o_pd0 rfl o_d15_199 rfl (by decide) (W := 0) rfl (by decide) (by decide) (by decide) fun T129 h131 v132 ms133 w130 q134 => ?_
  obtain ⟨rfl, rfl, rfl⟩ := q134
  show o_Go Z EL n0 p e below s _ _ _ (T129.setTop (mkF m 202 _ [(.int (o_re (o_bq f0 f1 f2 f3 g0 g1 g2 g3) ([Int32.ofNat g0.val, Int32.ofNat g1.val, Int32.ofNat g2.val, Int32.ofNat g3.val]) ([Int32.ofNat f0.val, Int32.ofNat f1.val, Int32.ofNat f2.val, Int32.ofNat f3.val]) 1))]))
  refine o_iload (pc' := 204) w130 o_d15_202 rfl rfl ?_
  refine o_icmp (pc' := 207) w130 o_d15_204 rfl (by decide) (pcY := 211) rfl (fun (hb204 : ¬ (o_re (o_bq f0 f1 f2 f3 g0 g1 g2 g3) ([Int32.ofNat g0.val, Int32.ofNat g1.val, Int32.ofNat g2.val, Int32.ofNat g3.val]) ([Int32.ofNat f0.val, Int32.ofNat f1.val, Int32.ofNat f2.val, Int32.ofNat f3.val]) 1) = ((((o_le (Int32.ofNat g0.val) (Int32.ofNat f0.val) (((List.getD [Int32.ofNat g0.val, Int32.ofNat g1.val, Int32.ofNat g2.val, Int32.ofNat g3.val] (List.getD (o_bq f0 f1 f2 f3 g0 g1 g2 g3) 1 0).toNatClampNeg 0) * (3 : Int32)) + (List.getD [Int32.ofNat f0.val, Int32.ofNat f1.val, Int32.ofNat f2.val, Int32.ofNat f3.val] (List.getD (o_bq f0 f1 f2 f3 g0 g1 g2 g3) 1 0).toNatClampNeg 0))) + (o_le (Int32.ofNat g1.val) (Int32.ofNat f1.val) (((List.getD [Int32.ofNat g0.val, Int32.ofNat g1.val, Int32.ofNat g2.val, Int32.ofNat g3.val] (List.getD (o_bq f0 f1 f2 f3 g0 g1 g2 g3) 1 0).toNatClampNeg 0) * (3 : Int32)) + (List.getD [Int32.ofNat f0.val, Int32.ofNat f1.val, Int32.ofNat f2.val, Int32.ofNat f3.val] (List.getD (o_bq f0 f1 f2 f3 g0 g1 g2 g3) 1 0).toNatClampNeg 0)))) + (o_le (Int32.ofNat g2.val) (Int32.ofNat f2.val) (((List.getD [Int32.ofNat g0.val, Int32.ofNat g1.val, Int32.ofNat g2.val, Int32.ofNat g3.val] (List.getD (o_bq f0 f1 f2 f3 g0 g1 g2 g3) 1 0).toNatClampNeg 0) * (3 : Int32)) + (List.getD [Int32.ofNat f0.val, Int32.ofNat f1.val, Int32.ofNat f2.val, Int32.ofNat f3.val] (List.getD (o_bq f0 f1 f2 f3 g0 g1 g2 g3) 1 0).toNatClampNeg 0)))) + (o_le (Int32.ofNat g3.val) (Int32.ofNat f3.val) (((List.getD [Int32.ofNat g0.val, Int32.ofNat g1.val, Int32.ofNat g2.val, Int32.ofNat g3.val] (List.getD (o_bq f0 f1 f2 f3 g0 g1 g2 g3) 1 0).toNatClampNeg 0) * (3 : Int32)) + (List.getD [Int32.ofNat f0.val, Int32.ofNat f1.val, Int32.ofNat f2.val, Int32.ofNat f3.val] (List.getD (o_bq f0 f1 f2 f3 g0 g1 g2 g3) 1 0).toNatClampNeg 0))))) => absurd (o_fin1 f0 f1 f2 f3 g0 g1 g2 g3) hb204) (fun (hb204 : (o_re (o_bq f0 f1 f2 f3 g0 g1 g2 g3) ([Int32.ofNat g0.val, Int32.ofNat g1.val, Int32.ofNat g2.val, Int32.ofNat g3.val]) ([Int32.ofNat f0.val, Int32.ofNat f1.val, Int32.ofNat f2.val, Int32.ofNat f3.val]) 1) = ((((o_le (Int32.ofNat g0.val) (Int32.ofNat f0.val) (((List.getD [Int32.ofNat g0.val, Int32.ofNat g1.val, Int32.ofNat g2.val, Int32.ofNat g3.val] (List.getD (o_bq f0 f1 f2 f3 g0 g1 g2 g3) 1 0).toNatClampNeg 0) * (3 : Int32)) + (List.getD [Int32.ofNat f0.val, Int32.ofNat f1.val, Int32.ofNat f2.val, Int32.ofNat f3.val] (List.getD (o_bq f0 f1 f2 f3 g0 g1 g2 g3) 1 0).toNatClampNeg 0))) + (o_le (Int32.ofNat g1.val) (Int32.ofNat f1.val) (((List.getD [Int32.ofNat g0.val, Int32.ofNat g1.val, Int32.ofNat g2.val, Int32.ofNat g3.val] (List.getD (o_bq f0 f1 f2 f3 g0 g1 g2 g3) 1 0).toNatClampNeg 0) * (3 : Int32)) + (List.getD [Int32.ofNat f0.val, Int32.ofNat f1.val, Int32.ofNat f2.val, Int32.ofNat f3.val] (List.getD (o_bq f0 f1 f2 f3 g0 g1 g2 g3) 1 0).toNatClampNeg 0)))) + (o_le (Int32.ofNat g2.val) (Int32.ofNat f2.val) (((List.getD [Int32.ofNat g0.val, Int32.ofNat g1.val, Int32.ofNat g2.val, Int32.ofNat g3.val] (List.getD (o_bq f0 f1 f2 f3 g0 g1 g2 g3) 1 0).toNatClampNeg 0) * (3 : Int32)) + (List.getD [Int32.ofNat f0.val, Int32.ofNat f1.val, Int32.ofNat f2.val, Int32.ofNat f3.val] (List.getD (o_bq f0 f1 f2 f3 g0 g1 g2 g3) 1 0).toNatClampNeg 0)))) + (o_le (Int32.ofNat g3.val) (Int32.ofNat f3.val) (((List.getD [Int32.ofNat g0.val, Int32.ofNat g1.val, Int32.ofNat g2.val, Int32.ofNat g3.val] (List.getD (o_bq f0 f1 f2 f3 g0 g1 g2 g3) 1 0).toNatClampNeg 0) * (3 : Int32)) + (List.getD [Int32.ofNat f0.val, Int32.ofNat f1.val, Int32.ofNat f2.val, Int32.ofNat f3.val] (List.getD (o_bq f0 f1 f2 f3 g0 g1 g2 g3) 1 0).toNatClampNeg 0))))) => ?_)
  refine o_iconst (pc' := 208) w130 o_d15_207 (x := (1 : Int32)) rfl rfl ?_
  refine o_goto w130 o_d15_208 (by decide) (pc' := 212) rfl ?_
  exact o_retV w130 (t := .boolean) rfl rfl (Or.inl ⟨rfl, by simp, _, rfl⟩) o_d15_212 (by decide) (by decide) (ms' := []) all0 ⟨K, rfl, rfl⟩
 ·
  refine o_iand (pc' := 117) w55 o_d15_116 (z := (2 : Int32)) hp rfl ?_
  refine o_istore (pc' := 119) w55 o_d15_117 (Ls' := #[.val (.int i0), .val (.int i1), .val (.int i2), .val (.ref a5), .val (.ref a10), .val (.ref a15), .val (.ref a52), .val (.int (2 : Int32)), .unset, .unset, .unset]) rfl rfl ?_
  refine o_aload (pc' := 121) w55 o_d15_119 rfl rfl rfl ?_
  refine o_iload (pc' := 123) w55 o_d15_121 rfl rfl ?_
  refine o_callV (pc' := 126) w55 (o_w87 hw) (o_w88 hw) (fun s' hZ' => notFace_of_selects (args := #[]) (mvT hZ' (o_w90 hw))) (o_w90 hw) (o_w89 hw) (o_w3 hw) (o_w91 hw) (by decide) E_a52 (o_ct_byQ l Z a0 hw EL hE n0 [] h56 (o_old w55) a52 (2 : Int32) bq_60 kb_61 (o_bq f0 f1 f2 f3 g0 g1 g2 g3) 2 F_a52_byQuestion A_bq_60 (by decide) (rfl)) all0 (argsL := [(.int (2 : Int32))]) (rest := []) rfl rfl o_pd0 rfl o_d15_123 rfl (by decide) (W := 0) rfl (by decide) (by decide) (by decide) fun T135 h137 v138 ms139 w136 q140 => ?_
  obtain ⟨rfl, rfl, rfl⟩ := q140
  show o_Go Z EL n0 p e below s _ _ _ (T135.setTop (mkF m 126 _ [(.int (List.getD (o_bq f0 f1 f2 f3 g0 g1 g2 g3) 2 0))]))
  refine o_istore (pc' := 128) w136 o_d15_126 (Ls' := #[.val (.int i0), .val (.int i1), .val (.int i2), .val (.ref a5), .val (.ref a10), .val (.ref a15), .val (.ref a52), .val (.int (2 : Int32)), .val (.int (List.getD (o_bq f0 f1 f2 f3 g0 g1 g2 g3) 2 0)), .unset, .unset]) rfl rfl ?_
  refine o_aloadN (pc' := 129) w136 o_d15_128 rfl rfl rfl ?_
  refine o_iload (pc' := 131) w136 o_d15_129 rfl rfl ?_
  refine o_ldI (pc' := 132) w136 (v := (.int (List.getD [Int32.ofNat g0.val, Int32.ofNat g1.val, Int32.ofNat g2.val, Int32.ofNat g3.val] (List.getD (o_bq f0 f1 f2 f3 g0 g1 g2 g3) 2 0).toNatClampNeg 0))) A_a5 (o_bqr f0 f1 f2 f3 g0 g1 g2 g3 2) (o_ivg (l := [Int32.ofNat g0.val, Int32.ofNat g1.val, Int32.ofNat g2.val, Int32.ofNat g3.val]) rfl) o_d15_131 rfl ?_
  refine o_iconst (pc' := 133) w136 o_d15_132 (x := (3 : Int32)) rfl rfl ?_
  refine o_imul (pc' := 134) w136 o_d15_133 (z := ((List.getD [Int32.ofNat g0.val, Int32.ofNat g1.val, Int32.ofNat g2.val, Int32.ofNat g3.val] (List.getD (o_bq f0 f1 f2 f3 g0 g1 g2 g3) 2 0).toNatClampNeg 0) * (3 : Int32))) rfl rfl ?_
  refine o_aload (pc' := 136) w136 o_d15_134 rfl rfl rfl ?_
  refine o_iload (pc' := 138) w136 o_d15_136 rfl rfl ?_
  refine o_ldI (pc' := 139) w136 (v := (.int (List.getD [Int32.ofNat f0.val, Int32.ofNat f1.val, Int32.ofNat f2.val, Int32.ofNat f3.val] (List.getD (o_bq f0 f1 f2 f3 g0 g1 g2 g3) 2 0).toNatClampNeg 0))) A_a15 (o_bqr f0 f1 f2 f3 g0 g1 g2 g3 2) (o_ivg (l := [Int32.ofNat f0.val, Int32.ofNat f1.val, Int32.ofNat f2.val, Int32.ofNat f3.val]) rfl) o_d15_138 rfl ?_
  refine o_iadd (pc' := 140) w136 o_d15_139 (z := (((List.getD [Int32.ofNat g0.val, Int32.ofNat g1.val, Int32.ofNat g2.val, Int32.ofNat g3.val] (List.getD (o_bq f0 f1 f2 f3 g0 g1 g2 g3) 2 0).toNatClampNeg 0) * (3 : Int32)) + (List.getD [Int32.ofNat f0.val, Int32.ofNat f1.val, Int32.ofNat f2.val, Int32.ofNat f3.val] (List.getD (o_bq f0 f1 f2 f3 g0 g1 g2 g3) 2 0).toNatClampNeg 0))) rfl rfl ?_
  refine o_istore (pc' := 142) w136 o_d15_140 (Ls' := #[.val (.int i0), .val (.int i1), .val (.int i2), .val (.ref a5), .val (.ref a10), .val (.ref a15), .val (.ref a52), .val (.int (2 : Int32)), .val (.int (List.getD (o_bq f0 f1 f2 f3 g0 g1 g2 g3) 2 0)), .val (.int (((List.getD [Int32.ofNat g0.val, Int32.ofNat g1.val, Int32.ofNat g2.val, Int32.ofNat g3.val] (List.getD (o_bq f0 f1 f2 f3 g0 g1 g2 g3) 2 0).toNatClampNeg 0) * (3 : Int32)) + (List.getD [Int32.ofNat f0.val, Int32.ofNat f1.val, Int32.ofNat f2.val, Int32.ofNat f3.val] (List.getD (o_bq f0 f1 f2 f3 g0 g1 g2 g3) 2 0).toNatClampNeg 0))), .unset]) rfl rfl ?_
  refine o_aloadN (pc' := 143) w136 o_d15_142 rfl rfl rfl ?_
  refine o_iconst (pc' := 144) w136 o_d15_143 (x := (0 : Int32)) rfl rfl ?_
  refine o_ldI (pc' := 145) w136 (v := (.int (Int32.ofNat g0.val))) A_a5 (by decide) rfl o_d15_144 rfl ?_
  refine o_aload (pc' := 147) w136 o_d15_145 rfl rfl rfl ?_
  refine o_iconst (pc' := 148) w136 o_d15_147 (x := (0 : Int32)) rfl rfl ?_
  refine o_ldI (pc' := 149) w136 (v := (.int (Int32.ofNat f0.val))) A_a15 (by decide) rfl o_d15_148 rfl ?_
  refine o_iload (pc' := 151) w136 o_d15_149 rfl rfl ?_
  refine o_callS (pc' := 154) w136 (o_w92 hw) (o_w93 hw) (o_w94 hw) (o_w95 hw) (by decide) (o_ct_leq l Z a0 hw EL hE n0 [] h56 (o_old w136) (Int32.ofNat g0.val) (Int32.ofNat f0.val) (((List.getD [Int32.ofNat g0.val, Int32.ofNat g1.val, Int32.ofNat g2.val, Int32.ofNat g3.val] (List.getD (o_bq f0 f1 f2 f3 g0 g1 g2 g3) 2 0).toNatClampNeg 0) * (3 : Int32)) + (List.getD [Int32.ofNat f0.val, Int32.ofNat f1.val, Int32.ofNat f2.val, Int32.ofNat f3.val] (List.getD (o_bq f0 f1 f2 f3 g0 g1 g2 g3) 2 0).toNatClampNeg 0)) ) all0 (argsL := [(.int (Int32.ofNat g0.val)), (.int (Int32.ofNat f0.val)), (.int (((List.getD [Int32.ofNat g0.val, Int32.ofNat g1.val, Int32.ofNat g2.val, Int32.ofNat g3.val] (List.getD (o_bq f0 f1 f2 f3 g0 g1 g2 g3) 2 0).toNatClampNeg 0) * (3 : Int32)) + (List.getD [Int32.ofNat f0.val, Int32.ofNat f1.val, Int32.ofNat f2.val, Int32.ofNat f3.val] (List.getD (o_bq f0 f1 f2 f3 g0 g1 g2 g3) 2 0).toNatClampNeg 0)))]) (rest := []) rfl rfl o_pd11 rfl o_d15_151 rfl (by decide) (W := 0) rfl (by decide) (by decide) (by decide) fun T141 h143 v144 ms145 w142 q146 => ?_
  obtain ⟨rfl, rfl, rfl⟩ := q146
  show o_Go Z EL n0 p e below s _ _ _ (T141.setTop (mkF m 154 _ [(.int (o_le (Int32.ofNat g0.val) (Int32.ofNat f0.val) (((List.getD [Int32.ofNat g0.val, Int32.ofNat g1.val, Int32.ofNat g2.val, Int32.ofNat g3.val] (List.getD (o_bq f0 f1 f2 f3 g0 g1 g2 g3) 2 0).toNatClampNeg 0) * (3 : Int32)) + (List.getD [Int32.ofNat f0.val, Int32.ofNat f1.val, Int32.ofNat f2.val, Int32.ofNat f3.val] (List.getD (o_bq f0 f1 f2 f3 g0 g1 g2 g3) 2 0).toNatClampNeg 0))))]))
  refine o_aloadN (pc' := 155) w142 o_d15_154 rfl rfl rfl ?_
  refine o_iconst (pc' := 156) w142 o_d15_155 (x := (1 : Int32)) rfl rfl ?_
  refine o_ldI (pc' := 157) w142 (v := (.int (Int32.ofNat g1.val))) A_a5 (by decide) rfl o_d15_156 rfl ?_
  refine o_aload (pc' := 159) w142 o_d15_157 rfl rfl rfl ?_
  refine o_iconst (pc' := 160) w142 o_d15_159 (x := (1 : Int32)) rfl rfl ?_
  refine o_ldI (pc' := 161) w142 (v := (.int (Int32.ofNat f1.val))) A_a15 (by decide) rfl o_d15_160 rfl ?_
  refine o_iload (pc' := 163) w142 o_d15_161 rfl rfl ?_
  refine o_callS (pc' := 166) w142 (o_w92 hw) (o_w93 hw) (o_w94 hw) (o_w95 hw) (by decide) (o_ct_leq l Z a0 hw EL hE n0 [] h56 (o_old w142) (Int32.ofNat g1.val) (Int32.ofNat f1.val) (((List.getD [Int32.ofNat g0.val, Int32.ofNat g1.val, Int32.ofNat g2.val, Int32.ofNat g3.val] (List.getD (o_bq f0 f1 f2 f3 g0 g1 g2 g3) 2 0).toNatClampNeg 0) * (3 : Int32)) + (List.getD [Int32.ofNat f0.val, Int32.ofNat f1.val, Int32.ofNat f2.val, Int32.ofNat f3.val] (List.getD (o_bq f0 f1 f2 f3 g0 g1 g2 g3) 2 0).toNatClampNeg 0)) ) all0 (argsL := [(.int (Int32.ofNat g1.val)), (.int (Int32.ofNat f1.val)), (.int (((List.getD [Int32.ofNat g0.val, Int32.ofNat g1.val, Int32.ofNat g2.val, Int32.ofNat g3.val] (List.getD (o_bq f0 f1 f2 f3 g0 g1 g2 g3) 2 0).toNatClampNeg 0) * (3 : Int32)) + (List.getD [Int32.ofNat f0.val, Int32.ofNat f1.val, Int32.ofNat f2.val, Int32.ofNat f3.val] (List.getD (o_bq f0 f1 f2 f3 g0 g1 g2 g3) 2 0).toNatClampNeg 0)))]) (rest := [(.int (o_le (Int32.ofNat g0.val) (Int32.ofNat f0.val) (((List.getD [Int32.ofNat g0.val, Int32.ofNat g1.val, Int32.ofNat g2.val, Int32.ofNat g3.val] (List.getD (o_bq f0 f1 f2 f3 g0 g1 g2 g3) 2 0).toNatClampNeg 0) * (3 : Int32)) + (List.getD [Int32.ofNat f0.val, Int32.ofNat f1.val, Int32.ofNat f2.val, Int32.ofNat f3.val] (List.getD (o_bq f0 f1 f2 f3 g0 g1 g2 g3) 2 0).toNatClampNeg 0))))]) rfl rfl o_pd11 rfl o_d15_163 rfl (by decide) (W := 1) rfl (by decide) (by decide) (by decide) fun T147 h149 v150 ms151 w148 q152 => ?_
  obtain ⟨rfl, rfl, rfl⟩ := q152
  show o_Go Z EL n0 p e below s _ _ _ (T147.setTop (mkF m 166 _ [(.int (o_le (Int32.ofNat g1.val) (Int32.ofNat f1.val) (((List.getD [Int32.ofNat g0.val, Int32.ofNat g1.val, Int32.ofNat g2.val, Int32.ofNat g3.val] (List.getD (o_bq f0 f1 f2 f3 g0 g1 g2 g3) 2 0).toNatClampNeg 0) * (3 : Int32)) + (List.getD [Int32.ofNat f0.val, Int32.ofNat f1.val, Int32.ofNat f2.val, Int32.ofNat f3.val] (List.getD (o_bq f0 f1 f2 f3 g0 g1 g2 g3) 2 0).toNatClampNeg 0)))), (.int (o_le (Int32.ofNat g0.val) (Int32.ofNat f0.val) (((List.getD [Int32.ofNat g0.val, Int32.ofNat g1.val, Int32.ofNat g2.val, Int32.ofNat g3.val] (List.getD (o_bq f0 f1 f2 f3 g0 g1 g2 g3) 2 0).toNatClampNeg 0) * (3 : Int32)) + (List.getD [Int32.ofNat f0.val, Int32.ofNat f1.val, Int32.ofNat f2.val, Int32.ofNat f3.val] (List.getD (o_bq f0 f1 f2 f3 g0 g1 g2 g3) 2 0).toNatClampNeg 0))))]))
  refine o_iadd (pc' := 167) w148 o_d15_166 (z := ((o_le (Int32.ofNat g0.val) (Int32.ofNat f0.val) (((List.getD [Int32.ofNat g0.val, Int32.ofNat g1.val, Int32.ofNat g2.val, Int32.ofNat g3.val] (List.getD (o_bq f0 f1 f2 f3 g0 g1 g2 g3) 2 0).toNatClampNeg 0) * (3 : Int32)) + (List.getD [Int32.ofNat f0.val, Int32.ofNat f1.val, Int32.ofNat f2.val, Int32.ofNat f3.val] (List.getD (o_bq f0 f1 f2 f3 g0 g1 g2 g3) 2 0).toNatClampNeg 0))) + (o_le (Int32.ofNat g1.val) (Int32.ofNat f1.val) (((List.getD [Int32.ofNat g0.val, Int32.ofNat g1.val, Int32.ofNat g2.val, Int32.ofNat g3.val] (List.getD (o_bq f0 f1 f2 f3 g0 g1 g2 g3) 2 0).toNatClampNeg 0) * (3 : Int32)) + (List.getD [Int32.ofNat f0.val, Int32.ofNat f1.val, Int32.ofNat f2.val, Int32.ofNat f3.val] (List.getD (o_bq f0 f1 f2 f3 g0 g1 g2 g3) 2 0).toNatClampNeg 0))))) rfl rfl ?_
  refine o_aloadN (pc' := 168) w148 o_d15_167 rfl rfl rfl ?_
  refine o_iconst (pc' := 169) w148 o_d15_168 (x := (2 : Int32)) rfl rfl ?_
  refine o_ldI (pc' := 170) w148 (v := (.int (Int32.ofNat g2.val))) A_a5 (by decide) rfl o_d15_169 rfl ?_
  refine o_aload (pc' := 172) w148 o_d15_170 rfl rfl rfl ?_
  refine o_iconst (pc' := 173) w148 o_d15_172 (x := (2 : Int32)) rfl rfl ?_
  refine o_ldI (pc' := 174) w148 (v := (.int (Int32.ofNat f2.val))) A_a15 (by decide) rfl o_d15_173 rfl ?_
  refine o_iload (pc' := 176) w148 o_d15_174 rfl rfl ?_
  refine o_callS (pc' := 179) w148 (o_w92 hw) (o_w93 hw) (o_w94 hw) (o_w95 hw) (by decide) (o_ct_leq l Z a0 hw EL hE n0 [] h56 (o_old w148) (Int32.ofNat g2.val) (Int32.ofNat f2.val) (((List.getD [Int32.ofNat g0.val, Int32.ofNat g1.val, Int32.ofNat g2.val, Int32.ofNat g3.val] (List.getD (o_bq f0 f1 f2 f3 g0 g1 g2 g3) 2 0).toNatClampNeg 0) * (3 : Int32)) + (List.getD [Int32.ofNat f0.val, Int32.ofNat f1.val, Int32.ofNat f2.val, Int32.ofNat f3.val] (List.getD (o_bq f0 f1 f2 f3 g0 g1 g2 g3) 2 0).toNatClampNeg 0)) ) all0 (argsL := [(.int (Int32.ofNat g2.val)), (.int (Int32.ofNat f2.val)), (.int (((List.getD [Int32.ofNat g0.val, Int32.ofNat g1.val, Int32.ofNat g2.val, Int32.ofNat g3.val] (List.getD (o_bq f0 f1 f2 f3 g0 g1 g2 g3) 2 0).toNatClampNeg 0) * (3 : Int32)) + (List.getD [Int32.ofNat f0.val, Int32.ofNat f1.val, Int32.ofNat f2.val, Int32.ofNat f3.val] (List.getD (o_bq f0 f1 f2 f3 g0 g1 g2 g3) 2 0).toNatClampNeg 0)))]) (rest := [(.int ((o_le (Int32.ofNat g0.val) (Int32.ofNat f0.val) (((List.getD [Int32.ofNat g0.val, Int32.ofNat g1.val, Int32.ofNat g2.val, Int32.ofNat g3.val] (List.getD (o_bq f0 f1 f2 f3 g0 g1 g2 g3) 2 0).toNatClampNeg 0) * (3 : Int32)) + (List.getD [Int32.ofNat f0.val, Int32.ofNat f1.val, Int32.ofNat f2.val, Int32.ofNat f3.val] (List.getD (o_bq f0 f1 f2 f3 g0 g1 g2 g3) 2 0).toNatClampNeg 0))) + (o_le (Int32.ofNat g1.val) (Int32.ofNat f1.val) (((List.getD [Int32.ofNat g0.val, Int32.ofNat g1.val, Int32.ofNat g2.val, Int32.ofNat g3.val] (List.getD (o_bq f0 f1 f2 f3 g0 g1 g2 g3) 2 0).toNatClampNeg 0) * (3 : Int32)) + (List.getD [Int32.ofNat f0.val, Int32.ofNat f1.val, Int32.ofNat f2.val, Int32.ofNat f3.val] (List.getD (o_bq f0 f1 f2 f3 g0 g1 g2 g3) 2 0).toNatClampNeg 0)))))]) rfl rfl o_pd11 rfl o_d15_176 rfl (by decide) (W := 1) rfl (by decide) (by decide) (by decide) fun T153 h155 v156 ms157 w154 q158 => ?_
  obtain ⟨rfl, rfl, rfl⟩ := q158
  show o_Go Z EL n0 p e below s _ _ _ (T153.setTop (mkF m 179 _ [(.int (o_le (Int32.ofNat g2.val) (Int32.ofNat f2.val) (((List.getD [Int32.ofNat g0.val, Int32.ofNat g1.val, Int32.ofNat g2.val, Int32.ofNat g3.val] (List.getD (o_bq f0 f1 f2 f3 g0 g1 g2 g3) 2 0).toNatClampNeg 0) * (3 : Int32)) + (List.getD [Int32.ofNat f0.val, Int32.ofNat f1.val, Int32.ofNat f2.val, Int32.ofNat f3.val] (List.getD (o_bq f0 f1 f2 f3 g0 g1 g2 g3) 2 0).toNatClampNeg 0)))), (.int ((o_le (Int32.ofNat g0.val) (Int32.ofNat f0.val) (((List.getD [Int32.ofNat g0.val, Int32.ofNat g1.val, Int32.ofNat g2.val, Int32.ofNat g3.val] (List.getD (o_bq f0 f1 f2 f3 g0 g1 g2 g3) 2 0).toNatClampNeg 0) * (3 : Int32)) + (List.getD [Int32.ofNat f0.val, Int32.ofNat f1.val, Int32.ofNat f2.val, Int32.ofNat f3.val] (List.getD (o_bq f0 f1 f2 f3 g0 g1 g2 g3) 2 0).toNatClampNeg 0))) + (o_le (Int32.ofNat g1.val) (Int32.ofNat f1.val) (((List.getD [Int32.ofNat g0.val, Int32.ofNat g1.val, Int32.ofNat g2.val, Int32.ofNat g3.val] (List.getD (o_bq f0 f1 f2 f3 g0 g1 g2 g3) 2 0).toNatClampNeg 0) * (3 : Int32)) + (List.getD [Int32.ofNat f0.val, Int32.ofNat f1.val, Int32.ofNat f2.val, Int32.ofNat f3.val] (List.getD (o_bq f0 f1 f2 f3 g0 g1 g2 g3) 2 0).toNatClampNeg 0)))))]))
  refine o_iadd (pc' := 180) w154 o_d15_179 (z := (((o_le (Int32.ofNat g0.val) (Int32.ofNat f0.val) (((List.getD [Int32.ofNat g0.val, Int32.ofNat g1.val, Int32.ofNat g2.val, Int32.ofNat g3.val] (List.getD (o_bq f0 f1 f2 f3 g0 g1 g2 g3) 2 0).toNatClampNeg 0) * (3 : Int32)) + (List.getD [Int32.ofNat f0.val, Int32.ofNat f1.val, Int32.ofNat f2.val, Int32.ofNat f3.val] (List.getD (o_bq f0 f1 f2 f3 g0 g1 g2 g3) 2 0).toNatClampNeg 0))) + (o_le (Int32.ofNat g1.val) (Int32.ofNat f1.val) (((List.getD [Int32.ofNat g0.val, Int32.ofNat g1.val, Int32.ofNat g2.val, Int32.ofNat g3.val] (List.getD (o_bq f0 f1 f2 f3 g0 g1 g2 g3) 2 0).toNatClampNeg 0) * (3 : Int32)) + (List.getD [Int32.ofNat f0.val, Int32.ofNat f1.val, Int32.ofNat f2.val, Int32.ofNat f3.val] (List.getD (o_bq f0 f1 f2 f3 g0 g1 g2 g3) 2 0).toNatClampNeg 0)))) + (o_le (Int32.ofNat g2.val) (Int32.ofNat f2.val) (((List.getD [Int32.ofNat g0.val, Int32.ofNat g1.val, Int32.ofNat g2.val, Int32.ofNat g3.val] (List.getD (o_bq f0 f1 f2 f3 g0 g1 g2 g3) 2 0).toNatClampNeg 0) * (3 : Int32)) + (List.getD [Int32.ofNat f0.val, Int32.ofNat f1.val, Int32.ofNat f2.val, Int32.ofNat f3.val] (List.getD (o_bq f0 f1 f2 f3 g0 g1 g2 g3) 2 0).toNatClampNeg 0))))) rfl rfl ?_
  refine o_aloadN (pc' := 181) w154 o_d15_180 rfl rfl rfl ?_
  refine o_iconst (pc' := 182) w154 o_d15_181 (x := (3 : Int32)) rfl rfl ?_
  refine o_ldI (pc' := 183) w154 (v := (.int (Int32.ofNat g3.val))) A_a5 (by decide) rfl o_d15_182 rfl ?_
  refine o_aload (pc' := 185) w154 o_d15_183 rfl rfl rfl ?_
  refine o_iconst (pc' := 186) w154 o_d15_185 (x := (3 : Int32)) rfl rfl ?_
  refine o_ldI (pc' := 187) w154 (v := (.int (Int32.ofNat f3.val))) A_a15 (by decide) rfl o_d15_186 rfl ?_
  refine o_iload (pc' := 189) w154 o_d15_187 rfl rfl ?_
  refine o_callS (pc' := 192) w154 (o_w92 hw) (o_w93 hw) (o_w94 hw) (o_w95 hw) (by decide) (o_ct_leq l Z a0 hw EL hE n0 [] h56 (o_old w154) (Int32.ofNat g3.val) (Int32.ofNat f3.val) (((List.getD [Int32.ofNat g0.val, Int32.ofNat g1.val, Int32.ofNat g2.val, Int32.ofNat g3.val] (List.getD (o_bq f0 f1 f2 f3 g0 g1 g2 g3) 2 0).toNatClampNeg 0) * (3 : Int32)) + (List.getD [Int32.ofNat f0.val, Int32.ofNat f1.val, Int32.ofNat f2.val, Int32.ofNat f3.val] (List.getD (o_bq f0 f1 f2 f3 g0 g1 g2 g3) 2 0).toNatClampNeg 0)) ) all0 (argsL := [(.int (Int32.ofNat g3.val)), (.int (Int32.ofNat f3.val)), (.int (((List.getD [Int32.ofNat g0.val, Int32.ofNat g1.val, Int32.ofNat g2.val, Int32.ofNat g3.val] (List.getD (o_bq f0 f1 f2 f3 g0 g1 g2 g3) 2 0).toNatClampNeg 0) * (3 : Int32)) + (List.getD [Int32.ofNat f0.val, Int32.ofNat f1.val, Int32.ofNat f2.val, Int32.ofNat f3.val] (List.getD (o_bq f0 f1 f2 f3 g0 g1 g2 g3) 2 0).toNatClampNeg 0)))]) (rest := [(.int (((o_le (Int32.ofNat g0.val) (Int32.ofNat f0.val) (((List.getD [Int32.ofNat g0.val, Int32.ofNat g1.val, Int32.ofNat g2.val, Int32.ofNat g3.val] (List.getD (o_bq f0 f1 f2 f3 g0 g1 g2 g3) 2 0).toNatClampNeg 0) * (3 : Int32)) + (List.getD [Int32.ofNat f0.val, Int32.ofNat f1.val, Int32.ofNat f2.val, Int32.ofNat f3.val] (List.getD (o_bq f0 f1 f2 f3 g0 g1 g2 g3) 2 0).toNatClampNeg 0))) + (o_le (Int32.ofNat g1.val) (Int32.ofNat f1.val) (((List.getD [Int32.ofNat g0.val, Int32.ofNat g1.val, Int32.ofNat g2.val, Int32.ofNat g3.val] (List.getD (o_bq f0 f1 f2 f3 g0 g1 g2 g3) 2 0).toNatClampNeg 0) * (3 : Int32)) + (List.getD [Int32.ofNat f0.val, Int32.ofNat f1.val, Int32.ofNat f2.val, Int32.ofNat f3.val] (List.getD (o_bq f0 f1 f2 f3 g0 g1 g2 g3) 2 0).toNatClampNeg 0)))) + (o_le (Int32.ofNat g2.val) (Int32.ofNat f2.val) (((List.getD [Int32.ofNat g0.val, Int32.ofNat g1.val, Int32.ofNat g2.val, Int32.ofNat g3.val] (List.getD (o_bq f0 f1 f2 f3 g0 g1 g2 g3) 2 0).toNatClampNeg 0) * (3 : Int32)) + (List.getD [Int32.ofNat f0.val, Int32.ofNat f1.val, Int32.ofNat f2.val, Int32.ofNat f3.val] (List.getD (o_bq f0 f1 f2 f3 g0 g1 g2 g3) 2 0).toNatClampNeg 0)))))]) rfl rfl o_pd11 rfl o_d15_189 rfl (by decide) (W := 1) rfl (by decide) (by decide) (by decide) fun T159 h161 v162 ms163 w160 q164 => ?_
  obtain ⟨rfl, rfl, rfl⟩ := q164
  show o_Go Z EL n0 p e below s _ _ _ (T159.setTop (mkF m 192 _ [(.int (o_le (Int32.ofNat g3.val) (Int32.ofNat f3.val) (((List.getD [Int32.ofNat g0.val, Int32.ofNat g1.val, Int32.ofNat g2.val, Int32.ofNat g3.val] (List.getD (o_bq f0 f1 f2 f3 g0 g1 g2 g3) 2 0).toNatClampNeg 0) * (3 : Int32)) + (List.getD [Int32.ofNat f0.val, Int32.ofNat f1.val, Int32.ofNat f2.val, Int32.ofNat f3.val] (List.getD (o_bq f0 f1 f2 f3 g0 g1 g2 g3) 2 0).toNatClampNeg 0)))), (.int (((o_le (Int32.ofNat g0.val) (Int32.ofNat f0.val) (((List.getD [Int32.ofNat g0.val, Int32.ofNat g1.val, Int32.ofNat g2.val, Int32.ofNat g3.val] (List.getD (o_bq f0 f1 f2 f3 g0 g1 g2 g3) 2 0).toNatClampNeg 0) * (3 : Int32)) + (List.getD [Int32.ofNat f0.val, Int32.ofNat f1.val, Int32.ofNat f2.val, Int32.ofNat f3.val] (List.getD (o_bq f0 f1 f2 f3 g0 g1 g2 g3) 2 0).toNatClampNeg 0))) + (o_le (Int32.ofNat g1.val) (Int32.ofNat f1.val) (((List.getD [Int32.ofNat g0.val, Int32.ofNat g1.val, Int32.ofNat g2.val, Int32.ofNat g3.val] (List.getD (o_bq f0 f1 f2 f3 g0 g1 g2 g3) 2 0).toNatClampNeg 0) * (3 : Int32)) + (List.getD [Int32.ofNat f0.val, Int32.ofNat f1.val, Int32.ofNat f2.val, Int32.ofNat f3.val] (List.getD (o_bq f0 f1 f2 f3 g0 g1 g2 g3) 2 0).toNatClampNeg 0)))) + (o_le (Int32.ofNat g2.val) (Int32.ofNat f2.val) (((List.getD [Int32.ofNat g0.val, Int32.ofNat g1.val, Int32.ofNat g2.val, Int32.ofNat g3.val] (List.getD (o_bq f0 f1 f2 f3 g0 g1 g2 g3) 2 0).toNatClampNeg 0) * (3 : Int32)) + (List.getD [Int32.ofNat f0.val, Int32.ofNat f1.val, Int32.ofNat f2.val, Int32.ofNat f3.val] (List.getD (o_bq f0 f1 f2 f3 g0 g1 g2 g3) 2 0).toNatClampNeg 0)))))]))
  refine o_iadd (pc' := 193) w160 o_d15_192 (z := ((((o_le (Int32.ofNat g0.val) (Int32.ofNat f0.val) (((List.getD [Int32.ofNat g0.val, Int32.ofNat g1.val, Int32.ofNat g2.val, Int32.ofNat g3.val] (List.getD (o_bq f0 f1 f2 f3 g0 g1 g2 g3) 2 0).toNatClampNeg 0) * (3 : Int32)) + (List.getD [Int32.ofNat f0.val, Int32.ofNat f1.val, Int32.ofNat f2.val, Int32.ofNat f3.val] (List.getD (o_bq f0 f1 f2 f3 g0 g1 g2 g3) 2 0).toNatClampNeg 0))) + (o_le (Int32.ofNat g1.val) (Int32.ofNat f1.val) (((List.getD [Int32.ofNat g0.val, Int32.ofNat g1.val, Int32.ofNat g2.val, Int32.ofNat g3.val] (List.getD (o_bq f0 f1 f2 f3 g0 g1 g2 g3) 2 0).toNatClampNeg 0) * (3 : Int32)) + (List.getD [Int32.ofNat f0.val, Int32.ofNat f1.val, Int32.ofNat f2.val, Int32.ofNat f3.val] (List.getD (o_bq f0 f1 f2 f3 g0 g1 g2 g3) 2 0).toNatClampNeg 0)))) + (o_le (Int32.ofNat g2.val) (Int32.ofNat f2.val) (((List.getD [Int32.ofNat g0.val, Int32.ofNat g1.val, Int32.ofNat g2.val, Int32.ofNat g3.val] (List.getD (o_bq f0 f1 f2 f3 g0 g1 g2 g3) 2 0).toNatClampNeg 0) * (3 : Int32)) + (List.getD [Int32.ofNat f0.val, Int32.ofNat f1.val, Int32.ofNat f2.val, Int32.ofNat f3.val] (List.getD (o_bq f0 f1 f2 f3 g0 g1 g2 g3) 2 0).toNatClampNeg 0)))) + (o_le (Int32.ofNat g3.val) (Int32.ofNat f3.val) (((List.getD [Int32.ofNat g0.val, Int32.ofNat g1.val, Int32.ofNat g2.val, Int32.ofNat g3.val] (List.getD (o_bq f0 f1 f2 f3 g0 g1 g2 g3) 2 0).toNatClampNeg 0) * (3 : Int32)) + (List.getD [Int32.ofNat f0.val, Int32.ofNat f1.val, Int32.ofNat f2.val, Int32.ofNat f3.val] (List.getD (o_bq f0 f1 f2 f3 g0 g1 g2 g3) 2 0).toNatClampNeg 0))))) rfl rfl ?_
  refine o_istore (pc' := 195) w160 o_d15_193 (Ls' := #[.val (.int i0), .val (.int i1), .val (.int i2), .val (.ref a5), .val (.ref a10), .val (.ref a15), .val (.ref a52), .val (.int (2 : Int32)), .val (.int (List.getD (o_bq f0 f1 f2 f3 g0 g1 g2 g3) 2 0)), .val (.int (((List.getD [Int32.ofNat g0.val, Int32.ofNat g1.val, Int32.ofNat g2.val, Int32.ofNat g3.val] (List.getD (o_bq f0 f1 f2 f3 g0 g1 g2 g3) 2 0).toNatClampNeg 0) * (3 : Int32)) + (List.getD [Int32.ofNat f0.val, Int32.ofNat f1.val, Int32.ofNat f2.val, Int32.ofNat f3.val] (List.getD (o_bq f0 f1 f2 f3 g0 g1 g2 g3) 2 0).toNatClampNeg 0))), .val (.int ((((o_le (Int32.ofNat g0.val) (Int32.ofNat f0.val) (((List.getD [Int32.ofNat g0.val, Int32.ofNat g1.val, Int32.ofNat g2.val, Int32.ofNat g3.val] (List.getD (o_bq f0 f1 f2 f3 g0 g1 g2 g3) 2 0).toNatClampNeg 0) * (3 : Int32)) + (List.getD [Int32.ofNat f0.val, Int32.ofNat f1.val, Int32.ofNat f2.val, Int32.ofNat f3.val] (List.getD (o_bq f0 f1 f2 f3 g0 g1 g2 g3) 2 0).toNatClampNeg 0))) + (o_le (Int32.ofNat g1.val) (Int32.ofNat f1.val) (((List.getD [Int32.ofNat g0.val, Int32.ofNat g1.val, Int32.ofNat g2.val, Int32.ofNat g3.val] (List.getD (o_bq f0 f1 f2 f3 g0 g1 g2 g3) 2 0).toNatClampNeg 0) * (3 : Int32)) + (List.getD [Int32.ofNat f0.val, Int32.ofNat f1.val, Int32.ofNat f2.val, Int32.ofNat f3.val] (List.getD (o_bq f0 f1 f2 f3 g0 g1 g2 g3) 2 0).toNatClampNeg 0)))) + (o_le (Int32.ofNat g2.val) (Int32.ofNat f2.val) (((List.getD [Int32.ofNat g0.val, Int32.ofNat g1.val, Int32.ofNat g2.val, Int32.ofNat g3.val] (List.getD (o_bq f0 f1 f2 f3 g0 g1 g2 g3) 2 0).toNatClampNeg 0) * (3 : Int32)) + (List.getD [Int32.ofNat f0.val, Int32.ofNat f1.val, Int32.ofNat f2.val, Int32.ofNat f3.val] (List.getD (o_bq f0 f1 f2 f3 g0 g1 g2 g3) 2 0).toNatClampNeg 0)))) + (o_le (Int32.ofNat g3.val) (Int32.ofNat f3.val) (((List.getD [Int32.ofNat g0.val, Int32.ofNat g1.val, Int32.ofNat g2.val, Int32.ofNat g3.val] (List.getD (o_bq f0 f1 f2 f3 g0 g1 g2 g3) 2 0).toNatClampNeg 0) * (3 : Int32)) + (List.getD [Int32.ofNat f0.val, Int32.ofNat f1.val, Int32.ofNat f2.val, Int32.ofNat f3.val] (List.getD (o_bq f0 f1 f2 f3 g0 g1 g2 g3) 2 0).toNatClampNeg 0)))))]) rfl rfl ?_
  refine o_aload (pc' := 197) w160 o_d15_195 rfl rfl rfl ?_
  refine o_iload (pc' := 199) w160 o_d15_197 rfl rfl ?_
  replace A_a5 : Arv Z h56 a5 k_a5 .int (4 : Int32) (o_iv ([Int32.ofNat g0.val, Int32.ofNat g1.val, Int32.ofNat g2.val, Int32.ofNat g3.val])) (.int 0) := A_a5
  replace A_a15 : Arv Z h56 a15 k_a15 .int (4 : Int32) (o_iv ([Int32.ofNat f0.val, Int32.ofNat f1.val, Int32.ofNat f2.val, Int32.ofNat f3.val])) (.int 0) := A_a15
  refine o_callV (pc' := 202) w160 (o_w96 hw) (o_w97 hw) (fun s' hZ' => notFace_of_selects (args := #[]) (mvT hZ' (o_w99 hw))) (o_w99 hw) (o_w98 hw) (o_w3 hw) (o_w100 hw) (by decide) E_a52 (o_ct_re2 l Z a0 hw EL hE n0 [] h56 (o_old w160) a52 bq_60 kb_61 (o_bq f0 f1 f2 f3 g0 g1 g2 g3) a5 k_a5 ([Int32.ofNat g0.val, Int32.ofNat g1.val, Int32.ofNat g2.val, Int32.ofNat g3.val]) a15 k_a15 ([Int32.ofNat f0.val, Int32.ofNat f1.val, Int32.ofNat f2.val, Int32.ofNat f3.val]) F_a52_byQuestion A_bq_60 F_a52_question A_a5 F_a52_label A_a15 (o_bqr f0 f1 f2 f3 g0 g1 g2 g3)) all0 (argsL := [(.int (2 : Int32))]) (rest := []) rfl rfl o_pd0 rfl o_d15_199 rfl (by decide) (W := 0) rfl (by decide) (by decide) (by decide) fun T165 h167 v168 ms169 w166 q170 => ?_
  obtain ⟨rfl, rfl, rfl⟩ := q170
  show o_Go Z EL n0 p e below s _ _ _ (T165.setTop (mkF m 202 _ [(.int (o_re (o_bq f0 f1 f2 f3 g0 g1 g2 g3) ([Int32.ofNat g0.val, Int32.ofNat g1.val, Int32.ofNat g2.val, Int32.ofNat g3.val]) ([Int32.ofNat f0.val, Int32.ofNat f1.val, Int32.ofNat f2.val, Int32.ofNat f3.val]) 2))]))
  refine o_iload (pc' := 204) w166 o_d15_202 rfl rfl ?_
  refine o_icmp (pc' := 207) w166 o_d15_204 rfl (by decide) (pcY := 211) rfl (fun (hb204 : ¬ (o_re (o_bq f0 f1 f2 f3 g0 g1 g2 g3) ([Int32.ofNat g0.val, Int32.ofNat g1.val, Int32.ofNat g2.val, Int32.ofNat g3.val]) ([Int32.ofNat f0.val, Int32.ofNat f1.val, Int32.ofNat f2.val, Int32.ofNat f3.val]) 2) = ((((o_le (Int32.ofNat g0.val) (Int32.ofNat f0.val) (((List.getD [Int32.ofNat g0.val, Int32.ofNat g1.val, Int32.ofNat g2.val, Int32.ofNat g3.val] (List.getD (o_bq f0 f1 f2 f3 g0 g1 g2 g3) 2 0).toNatClampNeg 0) * (3 : Int32)) + (List.getD [Int32.ofNat f0.val, Int32.ofNat f1.val, Int32.ofNat f2.val, Int32.ofNat f3.val] (List.getD (o_bq f0 f1 f2 f3 g0 g1 g2 g3) 2 0).toNatClampNeg 0))) + (o_le (Int32.ofNat g1.val) (Int32.ofNat f1.val) (((List.getD [Int32.ofNat g0.val, Int32.ofNat g1.val, Int32.ofNat g2.val, Int32.ofNat g3.val] (List.getD (o_bq f0 f1 f2 f3 g0 g1 g2 g3) 2 0).toNatClampNeg 0) * (3 : Int32)) + (List.getD [Int32.ofNat f0.val, Int32.ofNat f1.val, Int32.ofNat f2.val, Int32.ofNat f3.val] (List.getD (o_bq f0 f1 f2 f3 g0 g1 g2 g3) 2 0).toNatClampNeg 0)))) + (o_le (Int32.ofNat g2.val) (Int32.ofNat f2.val) (((List.getD [Int32.ofNat g0.val, Int32.ofNat g1.val, Int32.ofNat g2.val, Int32.ofNat g3.val] (List.getD (o_bq f0 f1 f2 f3 g0 g1 g2 g3) 2 0).toNatClampNeg 0) * (3 : Int32)) + (List.getD [Int32.ofNat f0.val, Int32.ofNat f1.val, Int32.ofNat f2.val, Int32.ofNat f3.val] (List.getD (o_bq f0 f1 f2 f3 g0 g1 g2 g3) 2 0).toNatClampNeg 0)))) + (o_le (Int32.ofNat g3.val) (Int32.ofNat f3.val) (((List.getD [Int32.ofNat g0.val, Int32.ofNat g1.val, Int32.ofNat g2.val, Int32.ofNat g3.val] (List.getD (o_bq f0 f1 f2 f3 g0 g1 g2 g3) 2 0).toNatClampNeg 0) * (3 : Int32)) + (List.getD [Int32.ofNat f0.val, Int32.ofNat f1.val, Int32.ofNat f2.val, Int32.ofNat f3.val] (List.getD (o_bq f0 f1 f2 f3 g0 g1 g2 g3) 2 0).toNatClampNeg 0))))) => absurd (o_fin2 f0 f1 f2 f3 g0 g1 g2 g3) hb204) (fun (hb204 : (o_re (o_bq f0 f1 f2 f3 g0 g1 g2 g3) ([Int32.ofNat g0.val, Int32.ofNat g1.val, Int32.ofNat g2.val, Int32.ofNat g3.val]) ([Int32.ofNat f0.val, Int32.ofNat f1.val, Int32.ofNat f2.val, Int32.ofNat f3.val]) 2) = ((((o_le (Int32.ofNat g0.val) (Int32.ofNat f0.val) (((List.getD [Int32.ofNat g0.val, Int32.ofNat g1.val, Int32.ofNat g2.val, Int32.ofNat g3.val] (List.getD (o_bq f0 f1 f2 f3 g0 g1 g2 g3) 2 0).toNatClampNeg 0) * (3 : Int32)) + (List.getD [Int32.ofNat f0.val, Int32.ofNat f1.val, Int32.ofNat f2.val, Int32.ofNat f3.val] (List.getD (o_bq f0 f1 f2 f3 g0 g1 g2 g3) 2 0).toNatClampNeg 0))) + (o_le (Int32.ofNat g1.val) (Int32.ofNat f1.val) (((List.getD [Int32.ofNat g0.val, Int32.ofNat g1.val, Int32.ofNat g2.val, Int32.ofNat g3.val] (List.getD (o_bq f0 f1 f2 f3 g0 g1 g2 g3) 2 0).toNatClampNeg 0) * (3 : Int32)) + (List.getD [Int32.ofNat f0.val, Int32.ofNat f1.val, Int32.ofNat f2.val, Int32.ofNat f3.val] (List.getD (o_bq f0 f1 f2 f3 g0 g1 g2 g3) 2 0).toNatClampNeg 0)))) + (o_le (Int32.ofNat g2.val) (Int32.ofNat f2.val) (((List.getD [Int32.ofNat g0.val, Int32.ofNat g1.val, Int32.ofNat g2.val, Int32.ofNat g3.val] (List.getD (o_bq f0 f1 f2 f3 g0 g1 g2 g3) 2 0).toNatClampNeg 0) * (3 : Int32)) + (List.getD [Int32.ofNat f0.val, Int32.ofNat f1.val, Int32.ofNat f2.val, Int32.ofNat f3.val] (List.getD (o_bq f0 f1 f2 f3 g0 g1 g2 g3) 2 0).toNatClampNeg 0)))) + (o_le (Int32.ofNat g3.val) (Int32.ofNat f3.val) (((List.getD [Int32.ofNat g0.val, Int32.ofNat g1.val, Int32.ofNat g2.val, Int32.ofNat g3.val] (List.getD (o_bq f0 f1 f2 f3 g0 g1 g2 g3) 2 0).toNatClampNeg 0) * (3 : Int32)) + (List.getD [Int32.ofNat f0.val, Int32.ofNat f1.val, Int32.ofNat f2.val, Int32.ofNat f3.val] (List.getD (o_bq f0 f1 f2 f3 g0 g1 g2 g3) 2 0).toNatClampNeg 0))))) => ?_)
  refine o_iconst (pc' := 208) w166 o_d15_207 (x := (1 : Int32)) rfl rfl ?_
  refine o_goto w166 o_d15_208 (by decide) (pc' := 212) rfl ?_
  exact o_retV w166 (t := .boolean) rfl rfl (Or.inl ⟨rfl, by simp, _, rfl⟩) o_d15_212 (by decide) (by decide) (ms' := []) all0 ⟨K, rfl, rfl⟩
 ·
  refine o_iand (pc' := 117) w55 o_d15_116 (z := (3 : Int32)) hp rfl ?_
  refine o_istore (pc' := 119) w55 o_d15_117 (Ls' := #[.val (.int i0), .val (.int i1), .val (.int i2), .val (.ref a5), .val (.ref a10), .val (.ref a15), .val (.ref a52), .val (.int (3 : Int32)), .unset, .unset, .unset]) rfl rfl ?_
  refine o_aload (pc' := 121) w55 o_d15_119 rfl rfl rfl ?_
  refine o_iload (pc' := 123) w55 o_d15_121 rfl rfl ?_
  refine o_callV (pc' := 126) w55 (o_w87 hw) (o_w88 hw) (fun s' hZ' => notFace_of_selects (args := #[]) (mvT hZ' (o_w90 hw))) (o_w90 hw) (o_w89 hw) (o_w3 hw) (o_w91 hw) (by decide) E_a52 (o_ct_byQ l Z a0 hw EL hE n0 [] h56 (o_old w55) a52 (3 : Int32) bq_60 kb_61 (o_bq f0 f1 f2 f3 g0 g1 g2 g3) 3 F_a52_byQuestion A_bq_60 (by decide) (rfl)) all0 (argsL := [(.int (3 : Int32))]) (rest := []) rfl rfl o_pd0 rfl o_d15_123 rfl (by decide) (W := 0) rfl (by decide) (by decide) (by decide) fun T171 h173 v174 ms175 w172 q176 => ?_
  obtain ⟨rfl, rfl, rfl⟩ := q176
  show o_Go Z EL n0 p e below s _ _ _ (T171.setTop (mkF m 126 _ [(.int (List.getD (o_bq f0 f1 f2 f3 g0 g1 g2 g3) 3 0))]))
  refine o_istore (pc' := 128) w172 o_d15_126 (Ls' := #[.val (.int i0), .val (.int i1), .val (.int i2), .val (.ref a5), .val (.ref a10), .val (.ref a15), .val (.ref a52), .val (.int (3 : Int32)), .val (.int (List.getD (o_bq f0 f1 f2 f3 g0 g1 g2 g3) 3 0)), .unset, .unset]) rfl rfl ?_
  refine o_aloadN (pc' := 129) w172 o_d15_128 rfl rfl rfl ?_
  refine o_iload (pc' := 131) w172 o_d15_129 rfl rfl ?_
  refine o_ldI (pc' := 132) w172 (v := (.int (List.getD [Int32.ofNat g0.val, Int32.ofNat g1.val, Int32.ofNat g2.val, Int32.ofNat g3.val] (List.getD (o_bq f0 f1 f2 f3 g0 g1 g2 g3) 3 0).toNatClampNeg 0))) A_a5 (o_bqr f0 f1 f2 f3 g0 g1 g2 g3 3) (o_ivg (l := [Int32.ofNat g0.val, Int32.ofNat g1.val, Int32.ofNat g2.val, Int32.ofNat g3.val]) rfl) o_d15_131 rfl ?_
  refine o_iconst (pc' := 133) w172 o_d15_132 (x := (3 : Int32)) rfl rfl ?_
  refine o_imul (pc' := 134) w172 o_d15_133 (z := ((List.getD [Int32.ofNat g0.val, Int32.ofNat g1.val, Int32.ofNat g2.val, Int32.ofNat g3.val] (List.getD (o_bq f0 f1 f2 f3 g0 g1 g2 g3) 3 0).toNatClampNeg 0) * (3 : Int32))) rfl rfl ?_
  refine o_aload (pc' := 136) w172 o_d15_134 rfl rfl rfl ?_
  refine o_iload (pc' := 138) w172 o_d15_136 rfl rfl ?_
  refine o_ldI (pc' := 139) w172 (v := (.int (List.getD [Int32.ofNat f0.val, Int32.ofNat f1.val, Int32.ofNat f2.val, Int32.ofNat f3.val] (List.getD (o_bq f0 f1 f2 f3 g0 g1 g2 g3) 3 0).toNatClampNeg 0))) A_a15 (o_bqr f0 f1 f2 f3 g0 g1 g2 g3 3) (o_ivg (l := [Int32.ofNat f0.val, Int32.ofNat f1.val, Int32.ofNat f2.val, Int32.ofNat f3.val]) rfl) o_d15_138 rfl ?_
  refine o_iadd (pc' := 140) w172 o_d15_139 (z := (((List.getD [Int32.ofNat g0.val, Int32.ofNat g1.val, Int32.ofNat g2.val, Int32.ofNat g3.val] (List.getD (o_bq f0 f1 f2 f3 g0 g1 g2 g3) 3 0).toNatClampNeg 0) * (3 : Int32)) + (List.getD [Int32.ofNat f0.val, Int32.ofNat f1.val, Int32.ofNat f2.val, Int32.ofNat f3.val] (List.getD (o_bq f0 f1 f2 f3 g0 g1 g2 g3) 3 0).toNatClampNeg 0))) rfl rfl ?_
  refine o_istore (pc' := 142) w172 o_d15_140 (Ls' := #[.val (.int i0), .val (.int i1), .val (.int i2), .val (.ref a5), .val (.ref a10), .val (.ref a15), .val (.ref a52), .val (.int (3 : Int32)), .val (.int (List.getD (o_bq f0 f1 f2 f3 g0 g1 g2 g3) 3 0)), .val (.int (((List.getD [Int32.ofNat g0.val, Int32.ofNat g1.val, Int32.ofNat g2.val, Int32.ofNat g3.val] (List.getD (o_bq f0 f1 f2 f3 g0 g1 g2 g3) 3 0).toNatClampNeg 0) * (3 : Int32)) + (List.getD [Int32.ofNat f0.val, Int32.ofNat f1.val, Int32.ofNat f2.val, Int32.ofNat f3.val] (List.getD (o_bq f0 f1 f2 f3 g0 g1 g2 g3) 3 0).toNatClampNeg 0))), .unset]) rfl rfl ?_
  refine o_aloadN (pc' := 143) w172 o_d15_142 rfl rfl rfl ?_
  refine o_iconst (pc' := 144) w172 o_d15_143 (x := (0 : Int32)) rfl rfl ?_
  refine o_ldI (pc' := 145) w172 (v := (.int (Int32.ofNat g0.val))) A_a5 (by decide) rfl o_d15_144 rfl ?_
  refine o_aload (pc' := 147) w172 o_d15_145 rfl rfl rfl ?_
  refine o_iconst (pc' := 148) w172 o_d15_147 (x := (0 : Int32)) rfl rfl ?_
  refine o_ldI (pc' := 149) w172 (v := (.int (Int32.ofNat f0.val))) A_a15 (by decide) rfl o_d15_148 rfl ?_
  refine o_iload (pc' := 151) w172 o_d15_149 rfl rfl ?_
  refine o_callS (pc' := 154) w172 (o_w92 hw) (o_w93 hw) (o_w94 hw) (o_w95 hw) (by decide) (o_ct_leq l Z a0 hw EL hE n0 [] h56 (o_old w172) (Int32.ofNat g0.val) (Int32.ofNat f0.val) (((List.getD [Int32.ofNat g0.val, Int32.ofNat g1.val, Int32.ofNat g2.val, Int32.ofNat g3.val] (List.getD (o_bq f0 f1 f2 f3 g0 g1 g2 g3) 3 0).toNatClampNeg 0) * (3 : Int32)) + (List.getD [Int32.ofNat f0.val, Int32.ofNat f1.val, Int32.ofNat f2.val, Int32.ofNat f3.val] (List.getD (o_bq f0 f1 f2 f3 g0 g1 g2 g3) 3 0).toNatClampNeg 0)) ) all0 (argsL := [(.int (Int32.ofNat g0.val)), (.int (Int32.ofNat f0.val)), (.int (((List.getD [Int32.ofNat g0.val, Int32.ofNat g1.val, Int32.ofNat g2.val, Int32.ofNat g3.val] (List.getD (o_bq f0 f1 f2 f3 g0 g1 g2 g3) 3 0).toNatClampNeg 0) * (3 : Int32)) + (List.getD [Int32.ofNat f0.val, Int32.ofNat f1.val, Int32.ofNat f2.val, Int32.ofNat f3.val] (List.getD (o_bq f0 f1 f2 f3 g0 g1 g2 g3) 3 0).toNatClampNeg 0)))]) (rest := []) rfl rfl o_pd11 rfl o_d15_151 rfl (by decide) (W := 0) rfl (by decide) (by decide) (by decide) fun T177 h179 v180 ms181 w178 q182 => ?_
  obtain ⟨rfl, rfl, rfl⟩ := q182
  show o_Go Z EL n0 p e below s _ _ _ (T177.setTop (mkF m 154 _ [(.int (o_le (Int32.ofNat g0.val) (Int32.ofNat f0.val) (((List.getD [Int32.ofNat g0.val, Int32.ofNat g1.val, Int32.ofNat g2.val, Int32.ofNat g3.val] (List.getD (o_bq f0 f1 f2 f3 g0 g1 g2 g3) 3 0).toNatClampNeg 0) * (3 : Int32)) + (List.getD [Int32.ofNat f0.val, Int32.ofNat f1.val, Int32.ofNat f2.val, Int32.ofNat f3.val] (List.getD (o_bq f0 f1 f2 f3 g0 g1 g2 g3) 3 0).toNatClampNeg 0))))]))
  refine o_aloadN (pc' := 155) w178 o_d15_154 rfl rfl rfl ?_
  refine o_iconst (pc' := 156) w178 o_d15_155 (x := (1 : Int32)) rfl rfl ?_
  refine o_ldI (pc' := 157) w178 (v := (.int (Int32.ofNat g1.val))) A_a5 (by decide) rfl o_d15_156 rfl ?_
  refine o_aload (pc' := 159) w178 o_d15_157 rfl rfl rfl ?_
  refine o_iconst (pc' := 160) w178 o_d15_159 (x := (1 : Int32)) rfl rfl ?_
  refine o_ldI (pc' := 161) w178 (v := (.int (Int32.ofNat f1.val))) A_a15 (by decide) rfl o_d15_160 rfl ?_
  refine o_iload (pc' := 163) w178 o_d15_161 rfl rfl ?_
  refine o_callS (pc' := 166) w178 (o_w92 hw) (o_w93 hw) (o_w94 hw) (o_w95 hw) (by decide) (o_ct_leq l Z a0 hw EL hE n0 [] h56 (o_old w178) (Int32.ofNat g1.val) (Int32.ofNat f1.val) (((List.getD [Int32.ofNat g0.val, Int32.ofNat g1.val, Int32.ofNat g2.val, Int32.ofNat g3.val] (List.getD (o_bq f0 f1 f2 f3 g0 g1 g2 g3) 3 0).toNatClampNeg 0) * (3 : Int32)) + (List.getD [Int32.ofNat f0.val, Int32.ofNat f1.val, Int32.ofNat f2.val, Int32.ofNat f3.val] (List.getD (o_bq f0 f1 f2 f3 g0 g1 g2 g3) 3 0).toNatClampNeg 0)) ) all0 (argsL := [(.int (Int32.ofNat g1.val)), (.int (Int32.ofNat f1.val)), (.int (((List.getD [Int32.ofNat g0.val, Int32.ofNat g1.val, Int32.ofNat g2.val, Int32.ofNat g3.val] (List.getD (o_bq f0 f1 f2 f3 g0 g1 g2 g3) 3 0).toNatClampNeg 0) * (3 : Int32)) + (List.getD [Int32.ofNat f0.val, Int32.ofNat f1.val, Int32.ofNat f2.val, Int32.ofNat f3.val] (List.getD (o_bq f0 f1 f2 f3 g0 g1 g2 g3) 3 0).toNatClampNeg 0)))]) (rest := [(.int (o_le (Int32.ofNat g0.val) (Int32.ofNat f0.val) (((List.getD [Int32.ofNat g0.val, Int32.ofNat g1.val, Int32.ofNat g2.val, Int32.ofNat g3.val] (List.getD (o_bq f0 f1 f2 f3 g0 g1 g2 g3) 3 0).toNatClampNeg 0) * (3 : Int32)) + (List.getD [Int32.ofNat f0.val, Int32.ofNat f1.val, Int32.ofNat f2.val, Int32.ofNat f3.val] (List.getD (o_bq f0 f1 f2 f3 g0 g1 g2 g3) 3 0).toNatClampNeg 0))))]) rfl rfl o_pd11 rfl o_d15_163 rfl (by decide) (W := 1) rfl (by decide) (by decide) (by decide) fun T183 h185 v186 ms187 w184 q188 => ?_
  obtain ⟨rfl, rfl, rfl⟩ := q188
  show o_Go Z EL n0 p e below s _ _ _ (T183.setTop (mkF m 166 _ [(.int (o_le (Int32.ofNat g1.val) (Int32.ofNat f1.val) (((List.getD [Int32.ofNat g0.val, Int32.ofNat g1.val, Int32.ofNat g2.val, Int32.ofNat g3.val] (List.getD (o_bq f0 f1 f2 f3 g0 g1 g2 g3) 3 0).toNatClampNeg 0) * (3 : Int32)) + (List.getD [Int32.ofNat f0.val, Int32.ofNat f1.val, Int32.ofNat f2.val, Int32.ofNat f3.val] (List.getD (o_bq f0 f1 f2 f3 g0 g1 g2 g3) 3 0).toNatClampNeg 0)))), (.int (o_le (Int32.ofNat g0.val) (Int32.ofNat f0.val) (((List.getD [Int32.ofNat g0.val, Int32.ofNat g1.val, Int32.ofNat g2.val, Int32.ofNat g3.val] (List.getD (o_bq f0 f1 f2 f3 g0 g1 g2 g3) 3 0).toNatClampNeg 0) * (3 : Int32)) + (List.getD [Int32.ofNat f0.val, Int32.ofNat f1.val, Int32.ofNat f2.val, Int32.ofNat f3.val] (List.getD (o_bq f0 f1 f2 f3 g0 g1 g2 g3) 3 0).toNatClampNeg 0))))]))
  refine o_iadd (pc' := 167) w184 o_d15_166 (z := ((o_le (Int32.ofNat g0.val) (Int32.ofNat f0.val) (((List.getD [Int32.ofNat g0.val, Int32.ofNat g1.val, Int32.ofNat g2.val, Int32.ofNat g3.val] (List.getD (o_bq f0 f1 f2 f3 g0 g1 g2 g3) 3 0).toNatClampNeg 0) * (3 : Int32)) + (List.getD [Int32.ofNat f0.val, Int32.ofNat f1.val, Int32.ofNat f2.val, Int32.ofNat f3.val] (List.getD (o_bq f0 f1 f2 f3 g0 g1 g2 g3) 3 0).toNatClampNeg 0))) + (o_le (Int32.ofNat g1.val) (Int32.ofNat f1.val) (((List.getD [Int32.ofNat g0.val, Int32.ofNat g1.val, Int32.ofNat g2.val, Int32.ofNat g3.val] (List.getD (o_bq f0 f1 f2 f3 g0 g1 g2 g3) 3 0).toNatClampNeg 0) * (3 : Int32)) + (List.getD [Int32.ofNat f0.val, Int32.ofNat f1.val, Int32.ofNat f2.val, Int32.ofNat f3.val] (List.getD (o_bq f0 f1 f2 f3 g0 g1 g2 g3) 3 0).toNatClampNeg 0))))) rfl rfl ?_
  refine o_aloadN (pc' := 168) w184 o_d15_167 rfl rfl rfl ?_
  refine o_iconst (pc' := 169) w184 o_d15_168 (x := (2 : Int32)) rfl rfl ?_
  refine o_ldI (pc' := 170) w184 (v := (.int (Int32.ofNat g2.val))) A_a5 (by decide) rfl o_d15_169 rfl ?_
  refine o_aload (pc' := 172) w184 o_d15_170 rfl rfl rfl ?_
  refine o_iconst (pc' := 173) w184 o_d15_172 (x := (2 : Int32)) rfl rfl ?_
  refine o_ldI (pc' := 174) w184 (v := (.int (Int32.ofNat f2.val))) A_a15 (by decide) rfl o_d15_173 rfl ?_
  refine o_iload (pc' := 176) w184 o_d15_174 rfl rfl ?_
  refine o_callS (pc' := 179) w184 (o_w92 hw) (o_w93 hw) (o_w94 hw) (o_w95 hw) (by decide) (o_ct_leq l Z a0 hw EL hE n0 [] h56 (o_old w184) (Int32.ofNat g2.val) (Int32.ofNat f2.val) (((List.getD [Int32.ofNat g0.val, Int32.ofNat g1.val, Int32.ofNat g2.val, Int32.ofNat g3.val] (List.getD (o_bq f0 f1 f2 f3 g0 g1 g2 g3) 3 0).toNatClampNeg 0) * (3 : Int32)) + (List.getD [Int32.ofNat f0.val, Int32.ofNat f1.val, Int32.ofNat f2.val, Int32.ofNat f3.val] (List.getD (o_bq f0 f1 f2 f3 g0 g1 g2 g3) 3 0).toNatClampNeg 0)) ) all0 (argsL := [(.int (Int32.ofNat g2.val)), (.int (Int32.ofNat f2.val)), (.int (((List.getD [Int32.ofNat g0.val, Int32.ofNat g1.val, Int32.ofNat g2.val, Int32.ofNat g3.val] (List.getD (o_bq f0 f1 f2 f3 g0 g1 g2 g3) 3 0).toNatClampNeg 0) * (3 : Int32)) + (List.getD [Int32.ofNat f0.val, Int32.ofNat f1.val, Int32.ofNat f2.val, Int32.ofNat f3.val] (List.getD (o_bq f0 f1 f2 f3 g0 g1 g2 g3) 3 0).toNatClampNeg 0)))]) (rest := [(.int ((o_le (Int32.ofNat g0.val) (Int32.ofNat f0.val) (((List.getD [Int32.ofNat g0.val, Int32.ofNat g1.val, Int32.ofNat g2.val, Int32.ofNat g3.val] (List.getD (o_bq f0 f1 f2 f3 g0 g1 g2 g3) 3 0).toNatClampNeg 0) * (3 : Int32)) + (List.getD [Int32.ofNat f0.val, Int32.ofNat f1.val, Int32.ofNat f2.val, Int32.ofNat f3.val] (List.getD (o_bq f0 f1 f2 f3 g0 g1 g2 g3) 3 0).toNatClampNeg 0))) + (o_le (Int32.ofNat g1.val) (Int32.ofNat f1.val) (((List.getD [Int32.ofNat g0.val, Int32.ofNat g1.val, Int32.ofNat g2.val, Int32.ofNat g3.val] (List.getD (o_bq f0 f1 f2 f3 g0 g1 g2 g3) 3 0).toNatClampNeg 0) * (3 : Int32)) + (List.getD [Int32.ofNat f0.val, Int32.ofNat f1.val, Int32.ofNat f2.val, Int32.ofNat f3.val] (List.getD (o_bq f0 f1 f2 f3 g0 g1 g2 g3) 3 0).toNatClampNeg 0)))))]) rfl rfl o_pd11 rfl o_d15_176 rfl (by decide) (W := 1) rfl (by decide) (by decide) (by decide) fun T189 h191 v192 ms193 w190 q194 => ?_
  obtain ⟨rfl, rfl, rfl⟩ := q194
  show o_Go Z EL n0 p e below s _ _ _ (T189.setTop (mkF m 179 _ [(.int (o_le (Int32.ofNat g2.val) (Int32.ofNat f2.val) (((List.getD [Int32.ofNat g0.val, Int32.ofNat g1.val, Int32.ofNat g2.val, Int32.ofNat g3.val] (List.getD (o_bq f0 f1 f2 f3 g0 g1 g2 g3) 3 0).toNatClampNeg 0) * (3 : Int32)) + (List.getD [Int32.ofNat f0.val, Int32.ofNat f1.val, Int32.ofNat f2.val, Int32.ofNat f3.val] (List.getD (o_bq f0 f1 f2 f3 g0 g1 g2 g3) 3 0).toNatClampNeg 0)))), (.int ((o_le (Int32.ofNat g0.val) (Int32.ofNat f0.val) (((List.getD [Int32.ofNat g0.val, Int32.ofNat g1.val, Int32.ofNat g2.val, Int32.ofNat g3.val] (List.getD (o_bq f0 f1 f2 f3 g0 g1 g2 g3) 3 0).toNatClampNeg 0) * (3 : Int32)) + (List.getD [Int32.ofNat f0.val, Int32.ofNat f1.val, Int32.ofNat f2.val, Int32.ofNat f3.val] (List.getD (o_bq f0 f1 f2 f3 g0 g1 g2 g3) 3 0).toNatClampNeg 0))) + (o_le (Int32.ofNat g1.val) (Int32.ofNat f1.val) (((List.getD [Int32.ofNat g0.val, Int32.ofNat g1.val, Int32.ofNat g2.val, Int32.ofNat g3.val] (List.getD (o_bq f0 f1 f2 f3 g0 g1 g2 g3) 3 0).toNatClampNeg 0) * (3 : Int32)) + (List.getD [Int32.ofNat f0.val, Int32.ofNat f1.val, Int32.ofNat f2.val, Int32.ofNat f3.val] (List.getD (o_bq f0 f1 f2 f3 g0 g1 g2 g3) 3 0).toNatClampNeg 0)))))]))
  refine o_iadd (pc' := 180) w190 o_d15_179 (z := (((o_le (Int32.ofNat g0.val) (Int32.ofNat f0.val) (((List.getD [Int32.ofNat g0.val, Int32.ofNat g1.val, Int32.ofNat g2.val, Int32.ofNat g3.val] (List.getD (o_bq f0 f1 f2 f3 g0 g1 g2 g3) 3 0).toNatClampNeg 0) * (3 : Int32)) + (List.getD [Int32.ofNat f0.val, Int32.ofNat f1.val, Int32.ofNat f2.val, Int32.ofNat f3.val] (List.getD (o_bq f0 f1 f2 f3 g0 g1 g2 g3) 3 0).toNatClampNeg 0))) + (o_le (Int32.ofNat g1.val) (Int32.ofNat f1.val) (((List.getD [Int32.ofNat g0.val, Int32.ofNat g1.val, Int32.ofNat g2.val, Int32.ofNat g3.val] (List.getD (o_bq f0 f1 f2 f3 g0 g1 g2 g3) 3 0).toNatClampNeg 0) * (3 : Int32)) + (List.getD [Int32.ofNat f0.val, Int32.ofNat f1.val, Int32.ofNat f2.val, Int32.ofNat f3.val] (List.getD (o_bq f0 f1 f2 f3 g0 g1 g2 g3) 3 0).toNatClampNeg 0)))) + (o_le (Int32.ofNat g2.val) (Int32.ofNat f2.val) (((List.getD [Int32.ofNat g0.val, Int32.ofNat g1.val, Int32.ofNat g2.val, Int32.ofNat g3.val] (List.getD (o_bq f0 f1 f2 f3 g0 g1 g2 g3) 3 0).toNatClampNeg 0) * (3 : Int32)) + (List.getD [Int32.ofNat f0.val, Int32.ofNat f1.val, Int32.ofNat f2.val, Int32.ofNat f3.val] (List.getD (o_bq f0 f1 f2 f3 g0 g1 g2 g3) 3 0).toNatClampNeg 0))))) rfl rfl ?_
  refine o_aloadN (pc' := 181) w190 o_d15_180 rfl rfl rfl ?_
  refine o_iconst (pc' := 182) w190 o_d15_181 (x := (3 : Int32)) rfl rfl ?_
  refine o_ldI (pc' := 183) w190 (v := (.int (Int32.ofNat g3.val))) A_a5 (by decide) rfl o_d15_182 rfl ?_
  refine o_aload (pc' := 185) w190 o_d15_183 rfl rfl rfl ?_
  refine o_iconst (pc' := 186) w190 o_d15_185 (x := (3 : Int32)) rfl rfl ?_
  refine o_ldI (pc' := 187) w190 (v := (.int (Int32.ofNat f3.val))) A_a15 (by decide) rfl o_d15_186 rfl ?_
  refine o_iload (pc' := 189) w190 o_d15_187 rfl rfl ?_
  refine o_callS (pc' := 192) w190 (o_w92 hw) (o_w93 hw) (o_w94 hw) (o_w95 hw) (by decide) (o_ct_leq l Z a0 hw EL hE n0 [] h56 (o_old w190) (Int32.ofNat g3.val) (Int32.ofNat f3.val) (((List.getD [Int32.ofNat g0.val, Int32.ofNat g1.val, Int32.ofNat g2.val, Int32.ofNat g3.val] (List.getD (o_bq f0 f1 f2 f3 g0 g1 g2 g3) 3 0).toNatClampNeg 0) * (3 : Int32)) + (List.getD [Int32.ofNat f0.val, Int32.ofNat f1.val, Int32.ofNat f2.val, Int32.ofNat f3.val] (List.getD (o_bq f0 f1 f2 f3 g0 g1 g2 g3) 3 0).toNatClampNeg 0)) ) all0 (argsL := [(.int (Int32.ofNat g3.val)), (.int (Int32.ofNat f3.val)), (.int (((List.getD [Int32.ofNat g0.val, Int32.ofNat g1.val, Int32.ofNat g2.val, Int32.ofNat g3.val] (List.getD (o_bq f0 f1 f2 f3 g0 g1 g2 g3) 3 0).toNatClampNeg 0) * (3 : Int32)) + (List.getD [Int32.ofNat f0.val, Int32.ofNat f1.val, Int32.ofNat f2.val, Int32.ofNat f3.val] (List.getD (o_bq f0 f1 f2 f3 g0 g1 g2 g3) 3 0).toNatClampNeg 0)))]) (rest := [(.int (((o_le (Int32.ofNat g0.val) (Int32.ofNat f0.val) (((List.getD [Int32.ofNat g0.val, Int32.ofNat g1.val, Int32.ofNat g2.val, Int32.ofNat g3.val] (List.getD (o_bq f0 f1 f2 f3 g0 g1 g2 g3) 3 0).toNatClampNeg 0) * (3 : Int32)) + (List.getD [Int32.ofNat f0.val, Int32.ofNat f1.val, Int32.ofNat f2.val, Int32.ofNat f3.val] (List.getD (o_bq f0 f1 f2 f3 g0 g1 g2 g3) 3 0).toNatClampNeg 0))) + (o_le (Int32.ofNat g1.val) (Int32.ofNat f1.val) (((List.getD [Int32.ofNat g0.val, Int32.ofNat g1.val, Int32.ofNat g2.val, Int32.ofNat g3.val] (List.getD (o_bq f0 f1 f2 f3 g0 g1 g2 g3) 3 0).toNatClampNeg 0) * (3 : Int32)) + (List.getD [Int32.ofNat f0.val, Int32.ofNat f1.val, Int32.ofNat f2.val, Int32.ofNat f3.val] (List.getD (o_bq f0 f1 f2 f3 g0 g1 g2 g3) 3 0).toNatClampNeg 0)))) + (o_le (Int32.ofNat g2.val) (Int32.ofNat f2.val) (((List.getD [Int32.ofNat g0.val, Int32.ofNat g1.val, Int32.ofNat g2.val, Int32.ofNat g3.val] (List.getD (o_bq f0 f1 f2 f3 g0 g1 g2 g3) 3 0).toNatClampNeg 0) * (3 : Int32)) + (List.getD [Int32.ofNat f0.val, Int32.ofNat f1.val, Int32.ofNat f2.val, Int32.ofNat f3.val] (List.getD (o_bq f0 f1 f2 f3 g0 g1 g2 g3) 3 0).toNatClampNeg 0)))))]) rfl rfl o_pd11 rfl o_d15_189 rfl (by decide) (W := 1) rfl (by decide) (by decide) (by decide) fun T195 h197 v198 ms199 w196 q200 => ?_
  obtain ⟨rfl, rfl, rfl⟩ := q200
  show o_Go Z EL n0 p e below s _ _ _ (T195.setTop (mkF m 192 _ [(.int (o_le (Int32.ofNat g3.val) (Int32.ofNat f3.val) (((List.getD [Int32.ofNat g0.val, Int32.ofNat g1.val, Int32.ofNat g2.val, Int32.ofNat g3.val] (List.getD (o_bq f0 f1 f2 f3 g0 g1 g2 g3) 3 0).toNatClampNeg 0) * (3 : Int32)) + (List.getD [Int32.ofNat f0.val, Int32.ofNat f1.val, Int32.ofNat f2.val, Int32.ofNat f3.val] (List.getD (o_bq f0 f1 f2 f3 g0 g1 g2 g3) 3 0).toNatClampNeg 0)))), (.int (((o_le (Int32.ofNat g0.val) (Int32.ofNat f0.val) (((List.getD [Int32.ofNat g0.val, Int32.ofNat g1.val, Int32.ofNat g2.val, Int32.ofNat g3.val] (List.getD (o_bq f0 f1 f2 f3 g0 g1 g2 g3) 3 0).toNatClampNeg 0) * (3 : Int32)) + (List.getD [Int32.ofNat f0.val, Int32.ofNat f1.val, Int32.ofNat f2.val, Int32.ofNat f3.val] (List.getD (o_bq f0 f1 f2 f3 g0 g1 g2 g3) 3 0).toNatClampNeg 0))) + (o_le (Int32.ofNat g1.val) (Int32.ofNat f1.val) (((List.getD [Int32.ofNat g0.val, Int32.ofNat g1.val, Int32.ofNat g2.val, Int32.ofNat g3.val] (List.getD (o_bq f0 f1 f2 f3 g0 g1 g2 g3) 3 0).toNatClampNeg 0) * (3 : Int32)) + (List.getD [Int32.ofNat f0.val, Int32.ofNat f1.val, Int32.ofNat f2.val, Int32.ofNat f3.val] (List.getD (o_bq f0 f1 f2 f3 g0 g1 g2 g3) 3 0).toNatClampNeg 0)))) + (o_le (Int32.ofNat g2.val) (Int32.ofNat f2.val) (((List.getD [Int32.ofNat g0.val, Int32.ofNat g1.val, Int32.ofNat g2.val, Int32.ofNat g3.val] (List.getD (o_bq f0 f1 f2 f3 g0 g1 g2 g3) 3 0).toNatClampNeg 0) * (3 : Int32)) + (List.getD [Int32.ofNat f0.val, Int32.ofNat f1.val, Int32.ofNat f2.val, Int32.ofNat f3.val] (List.getD (o_bq f0 f1 f2 f3 g0 g1 g2 g3) 3 0).toNatClampNeg 0)))))]))
  refine o_iadd (pc' := 193) w196 o_d15_192 (z := ((((o_le (Int32.ofNat g0.val) (Int32.ofNat f0.val) (((List.getD [Int32.ofNat g0.val, Int32.ofNat g1.val, Int32.ofNat g2.val, Int32.ofNat g3.val] (List.getD (o_bq f0 f1 f2 f3 g0 g1 g2 g3) 3 0).toNatClampNeg 0) * (3 : Int32)) + (List.getD [Int32.ofNat f0.val, Int32.ofNat f1.val, Int32.ofNat f2.val, Int32.ofNat f3.val] (List.getD (o_bq f0 f1 f2 f3 g0 g1 g2 g3) 3 0).toNatClampNeg 0))) + (o_le (Int32.ofNat g1.val) (Int32.ofNat f1.val) (((List.getD [Int32.ofNat g0.val, Int32.ofNat g1.val, Int32.ofNat g2.val, Int32.ofNat g3.val] (List.getD (o_bq f0 f1 f2 f3 g0 g1 g2 g3) 3 0).toNatClampNeg 0) * (3 : Int32)) + (List.getD [Int32.ofNat f0.val, Int32.ofNat f1.val, Int32.ofNat f2.val, Int32.ofNat f3.val] (List.getD (o_bq f0 f1 f2 f3 g0 g1 g2 g3) 3 0).toNatClampNeg 0)))) + (o_le (Int32.ofNat g2.val) (Int32.ofNat f2.val) (((List.getD [Int32.ofNat g0.val, Int32.ofNat g1.val, Int32.ofNat g2.val, Int32.ofNat g3.val] (List.getD (o_bq f0 f1 f2 f3 g0 g1 g2 g3) 3 0).toNatClampNeg 0) * (3 : Int32)) + (List.getD [Int32.ofNat f0.val, Int32.ofNat f1.val, Int32.ofNat f2.val, Int32.ofNat f3.val] (List.getD (o_bq f0 f1 f2 f3 g0 g1 g2 g3) 3 0).toNatClampNeg 0)))) + (o_le (Int32.ofNat g3.val) (Int32.ofNat f3.val) (((List.getD [Int32.ofNat g0.val, Int32.ofNat g1.val, Int32.ofNat g2.val, Int32.ofNat g3.val] (List.getD (o_bq f0 f1 f2 f3 g0 g1 g2 g3) 3 0).toNatClampNeg 0) * (3 : Int32)) + (List.getD [Int32.ofNat f0.val, Int32.ofNat f1.val, Int32.ofNat f2.val, Int32.ofNat f3.val] (List.getD (o_bq f0 f1 f2 f3 g0 g1 g2 g3) 3 0).toNatClampNeg 0))))) rfl rfl ?_
  refine o_istore (pc' := 195) w196 o_d15_193 (Ls' := #[.val (.int i0), .val (.int i1), .val (.int i2), .val (.ref a5), .val (.ref a10), .val (.ref a15), .val (.ref a52), .val (.int (3 : Int32)), .val (.int (List.getD (o_bq f0 f1 f2 f3 g0 g1 g2 g3) 3 0)), .val (.int (((List.getD [Int32.ofNat g0.val, Int32.ofNat g1.val, Int32.ofNat g2.val, Int32.ofNat g3.val] (List.getD (o_bq f0 f1 f2 f3 g0 g1 g2 g3) 3 0).toNatClampNeg 0) * (3 : Int32)) + (List.getD [Int32.ofNat f0.val, Int32.ofNat f1.val, Int32.ofNat f2.val, Int32.ofNat f3.val] (List.getD (o_bq f0 f1 f2 f3 g0 g1 g2 g3) 3 0).toNatClampNeg 0))), .val (.int ((((o_le (Int32.ofNat g0.val) (Int32.ofNat f0.val) (((List.getD [Int32.ofNat g0.val, Int32.ofNat g1.val, Int32.ofNat g2.val, Int32.ofNat g3.val] (List.getD (o_bq f0 f1 f2 f3 g0 g1 g2 g3) 3 0).toNatClampNeg 0) * (3 : Int32)) + (List.getD [Int32.ofNat f0.val, Int32.ofNat f1.val, Int32.ofNat f2.val, Int32.ofNat f3.val] (List.getD (o_bq f0 f1 f2 f3 g0 g1 g2 g3) 3 0).toNatClampNeg 0))) + (o_le (Int32.ofNat g1.val) (Int32.ofNat f1.val) (((List.getD [Int32.ofNat g0.val, Int32.ofNat g1.val, Int32.ofNat g2.val, Int32.ofNat g3.val] (List.getD (o_bq f0 f1 f2 f3 g0 g1 g2 g3) 3 0).toNatClampNeg 0) * (3 : Int32)) + (List.getD [Int32.ofNat f0.val, Int32.ofNat f1.val, Int32.ofNat f2.val, Int32.ofNat f3.val] (List.getD (o_bq f0 f1 f2 f3 g0 g1 g2 g3) 3 0).toNatClampNeg 0)))) + (o_le (Int32.ofNat g2.val) (Int32.ofNat f2.val) (((List.getD [Int32.ofNat g0.val, Int32.ofNat g1.val, Int32.ofNat g2.val, Int32.ofNat g3.val] (List.getD (o_bq f0 f1 f2 f3 g0 g1 g2 g3) 3 0).toNatClampNeg 0) * (3 : Int32)) + (List.getD [Int32.ofNat f0.val, Int32.ofNat f1.val, Int32.ofNat f2.val, Int32.ofNat f3.val] (List.getD (o_bq f0 f1 f2 f3 g0 g1 g2 g3) 3 0).toNatClampNeg 0)))) + (o_le (Int32.ofNat g3.val) (Int32.ofNat f3.val) (((List.getD [Int32.ofNat g0.val, Int32.ofNat g1.val, Int32.ofNat g2.val, Int32.ofNat g3.val] (List.getD (o_bq f0 f1 f2 f3 g0 g1 g2 g3) 3 0).toNatClampNeg 0) * (3 : Int32)) + (List.getD [Int32.ofNat f0.val, Int32.ofNat f1.val, Int32.ofNat f2.val, Int32.ofNat f3.val] (List.getD (o_bq f0 f1 f2 f3 g0 g1 g2 g3) 3 0).toNatClampNeg 0)))))]) rfl rfl ?_
  refine o_aload (pc' := 197) w196 o_d15_195 rfl rfl rfl ?_
  refine o_iload (pc' := 199) w196 o_d15_197 rfl rfl ?_
  replace A_a5 : Arv Z h56 a5 k_a5 .int (4 : Int32) (o_iv ([Int32.ofNat g0.val, Int32.ofNat g1.val, Int32.ofNat g2.val, Int32.ofNat g3.val])) (.int 0) := A_a5
  replace A_a15 : Arv Z h56 a15 k_a15 .int (4 : Int32) (o_iv ([Int32.ofNat f0.val, Int32.ofNat f1.val, Int32.ofNat f2.val, Int32.ofNat f3.val])) (.int 0) := A_a15
  refine o_callV (pc' := 202) w196 (o_w96 hw) (o_w97 hw) (fun s' hZ' => notFace_of_selects (args := #[]) (mvT hZ' (o_w99 hw))) (o_w99 hw) (o_w98 hw) (o_w3 hw) (o_w100 hw) (by decide) E_a52 (o_ct_re3 l Z a0 hw EL hE n0 [] h56 (o_old w196) a52 bq_60 kb_61 (o_bq f0 f1 f2 f3 g0 g1 g2 g3) a5 k_a5 ([Int32.ofNat g0.val, Int32.ofNat g1.val, Int32.ofNat g2.val, Int32.ofNat g3.val]) a15 k_a15 ([Int32.ofNat f0.val, Int32.ofNat f1.val, Int32.ofNat f2.val, Int32.ofNat f3.val]) F_a52_byQuestion A_bq_60 F_a52_question A_a5 F_a52_label A_a15 (o_bqr f0 f1 f2 f3 g0 g1 g2 g3)) all0 (argsL := [(.int (3 : Int32))]) (rest := []) rfl rfl o_pd0 rfl o_d15_199 rfl (by decide) (W := 0) rfl (by decide) (by decide) (by decide) fun T201 h203 v204 ms205 w202 q206 => ?_
  obtain ⟨rfl, rfl, rfl⟩ := q206
  show o_Go Z EL n0 p e below s _ _ _ (T201.setTop (mkF m 202 _ [(.int (o_re (o_bq f0 f1 f2 f3 g0 g1 g2 g3) ([Int32.ofNat g0.val, Int32.ofNat g1.val, Int32.ofNat g2.val, Int32.ofNat g3.val]) ([Int32.ofNat f0.val, Int32.ofNat f1.val, Int32.ofNat f2.val, Int32.ofNat f3.val]) 3))]))
  refine o_iload (pc' := 204) w202 o_d15_202 rfl rfl ?_
  refine o_icmp (pc' := 207) w202 o_d15_204 rfl (by decide) (pcY := 211) rfl (fun (hb204 : ¬ (o_re (o_bq f0 f1 f2 f3 g0 g1 g2 g3) ([Int32.ofNat g0.val, Int32.ofNat g1.val, Int32.ofNat g2.val, Int32.ofNat g3.val]) ([Int32.ofNat f0.val, Int32.ofNat f1.val, Int32.ofNat f2.val, Int32.ofNat f3.val]) 3) = ((((o_le (Int32.ofNat g0.val) (Int32.ofNat f0.val) (((List.getD [Int32.ofNat g0.val, Int32.ofNat g1.val, Int32.ofNat g2.val, Int32.ofNat g3.val] (List.getD (o_bq f0 f1 f2 f3 g0 g1 g2 g3) 3 0).toNatClampNeg 0) * (3 : Int32)) + (List.getD [Int32.ofNat f0.val, Int32.ofNat f1.val, Int32.ofNat f2.val, Int32.ofNat f3.val] (List.getD (o_bq f0 f1 f2 f3 g0 g1 g2 g3) 3 0).toNatClampNeg 0))) + (o_le (Int32.ofNat g1.val) (Int32.ofNat f1.val) (((List.getD [Int32.ofNat g0.val, Int32.ofNat g1.val, Int32.ofNat g2.val, Int32.ofNat g3.val] (List.getD (o_bq f0 f1 f2 f3 g0 g1 g2 g3) 3 0).toNatClampNeg 0) * (3 : Int32)) + (List.getD [Int32.ofNat f0.val, Int32.ofNat f1.val, Int32.ofNat f2.val, Int32.ofNat f3.val] (List.getD (o_bq f0 f1 f2 f3 g0 g1 g2 g3) 3 0).toNatClampNeg 0)))) + (o_le (Int32.ofNat g2.val) (Int32.ofNat f2.val) (((List.getD [Int32.ofNat g0.val, Int32.ofNat g1.val, Int32.ofNat g2.val, Int32.ofNat g3.val] (List.getD (o_bq f0 f1 f2 f3 g0 g1 g2 g3) 3 0).toNatClampNeg 0) * (3 : Int32)) + (List.getD [Int32.ofNat f0.val, Int32.ofNat f1.val, Int32.ofNat f2.val, Int32.ofNat f3.val] (List.getD (o_bq f0 f1 f2 f3 g0 g1 g2 g3) 3 0).toNatClampNeg 0)))) + (o_le (Int32.ofNat g3.val) (Int32.ofNat f3.val) (((List.getD [Int32.ofNat g0.val, Int32.ofNat g1.val, Int32.ofNat g2.val, Int32.ofNat g3.val] (List.getD (o_bq f0 f1 f2 f3 g0 g1 g2 g3) 3 0).toNatClampNeg 0) * (3 : Int32)) + (List.getD [Int32.ofNat f0.val, Int32.ofNat f1.val, Int32.ofNat f2.val, Int32.ofNat f3.val] (List.getD (o_bq f0 f1 f2 f3 g0 g1 g2 g3) 3 0).toNatClampNeg 0))))) => absurd (o_fin3 f0 f1 f2 f3 g0 g1 g2 g3) hb204) (fun (hb204 : (o_re (o_bq f0 f1 f2 f3 g0 g1 g2 g3) ([Int32.ofNat g0.val, Int32.ofNat g1.val, Int32.ofNat g2.val, Int32.ofNat g3.val]) ([Int32.ofNat f0.val, Int32.ofNat f1.val, Int32.ofNat f2.val, Int32.ofNat f3.val]) 3) = ((((o_le (Int32.ofNat g0.val) (Int32.ofNat f0.val) (((List.getD [Int32.ofNat g0.val, Int32.ofNat g1.val, Int32.ofNat g2.val, Int32.ofNat g3.val] (List.getD (o_bq f0 f1 f2 f3 g0 g1 g2 g3) 3 0).toNatClampNeg 0) * (3 : Int32)) + (List.getD [Int32.ofNat f0.val, Int32.ofNat f1.val, Int32.ofNat f2.val, Int32.ofNat f3.val] (List.getD (o_bq f0 f1 f2 f3 g0 g1 g2 g3) 3 0).toNatClampNeg 0))) + (o_le (Int32.ofNat g1.val) (Int32.ofNat f1.val) (((List.getD [Int32.ofNat g0.val, Int32.ofNat g1.val, Int32.ofNat g2.val, Int32.ofNat g3.val] (List.getD (o_bq f0 f1 f2 f3 g0 g1 g2 g3) 3 0).toNatClampNeg 0) * (3 : Int32)) + (List.getD [Int32.ofNat f0.val, Int32.ofNat f1.val, Int32.ofNat f2.val, Int32.ofNat f3.val] (List.getD (o_bq f0 f1 f2 f3 g0 g1 g2 g3) 3 0).toNatClampNeg 0)))) + (o_le (Int32.ofNat g2.val) (Int32.ofNat f2.val) (((List.getD [Int32.ofNat g0.val, Int32.ofNat g1.val, Int32.ofNat g2.val, Int32.ofNat g3.val] (List.getD (o_bq f0 f1 f2 f3 g0 g1 g2 g3) 3 0).toNatClampNeg 0) * (3 : Int32)) + (List.getD [Int32.ofNat f0.val, Int32.ofNat f1.val, Int32.ofNat f2.val, Int32.ofNat f3.val] (List.getD (o_bq f0 f1 f2 f3 g0 g1 g2 g3) 3 0).toNatClampNeg 0)))) + (o_le (Int32.ofNat g3.val) (Int32.ofNat f3.val) (((List.getD [Int32.ofNat g0.val, Int32.ofNat g1.val, Int32.ofNat g2.val, Int32.ofNat g3.val] (List.getD (o_bq f0 f1 f2 f3 g0 g1 g2 g3) 3 0).toNatClampNeg 0) * (3 : Int32)) + (List.getD [Int32.ofNat f0.val, Int32.ofNat f1.val, Int32.ofNat f2.val, Int32.ofNat f3.val] (List.getD (o_bq f0 f1 f2 f3 g0 g1 g2 g3) 3 0).toNatClampNeg 0))))) => ?_)
  refine o_iconst (pc' := 208) w202 o_d15_207 (x := (1 : Int32)) rfl rfl ?_
  refine o_goto w202 o_d15_208 (by decide) (pc' := 212) rfl ?_
  exact o_retV w202 (t := .boolean) rfl rfl (Or.inl ⟨rfl, by simp, _, rfl⟩) o_d15_212 (by decide) (by decide) (ms' := []) all0 ⟨K, rfl, rfl⟩
theorem comes_1 {Post : Tables → Env → Array Value → State → Outcome → State → Prop} (hpost : ∀ tb e args s v u, (limb_1_1.after args s (.returned v) u = true ∧ limb_1_2.after args s (.returned v) u = true ∧ True) → ReturnedEndW s (.returned v) u (Jvm.fieldLocs frame_1_writes args s ++ Jvm.arrayLocs frame_1_arrays args s ++ Jvm.staticLocs frame_1_statics s) 40 192 → Post tb e args s (.returned v) u) :
    ArmFor flags0 classFile x code maxLocals ret World_1 tables_1 room_1 Calls_1 rest_1 Pre_1 Post := by
  intro l hfl _ _ p e ha hc hk s m args below hf hA hF happ hP
  obtain ⟨hcalls, hrest, hpre⟩ := hP
  obtain ⟨-, -, -, hnamed, -, -, -, hat⟩ := (Spec.applies_iff hf).mp happ
  obtain ⟨hg, hn⟩ := and_e (Cond.before_iff.mp (show (Jvm.Cond.and given_1 narrow_1).before args s = true from hpre))
  obtain ⟨hct, hg⟩ := and_e hg
  obtain ⟨w0, w1, w2, rfl⟩ : ∃ w0 w1 w2 : Value, args = #[w0, w1, w2] := by
    have hs : args.size = 3 := by simpa [Cond.value, given_1] using hct
    obtain ⟨L⟩ := args
    match L, hs with
    | [w0, w1, w2], _ => exact ⟨w0, w1, w2, rfl⟩
  have hw := fun d (hd : d ∈ tables_1) => atoms_spec (ws := Jvm.Cond.code x code maxLocals ret :: tables_1) hat d (List.mem_cons_of_mem _ hd)
  have hfit : Fit s := fun {y c} hc i hi => by
    obtain ⟨ha, rfl⟩ := Array.getElem?_eq_some_iff.mp hc
    have q := List.all_eq_true.mp ((Array.all_eq_true_iff_forall_mem.mp hF) _ (Array.getElem_mem ha)) i (List.mem_range.mpr hi)
    simpa [Array.getElem?_eq_getElem hi] using q
  obtain ⟨hg0, hg⟩ := and_e hg
  obtain ⟨i0, e0⟩ := is_v hg0
  obtain rfl : w0 = (.int i0) := Option.some.inj e0
  obtain ⟨hg1, hg⟩ := and_e hg
  obtain ⟨i1, e1⟩ := is_v hg1
  obtain rfl : w1 = (.int i1) := Option.some.inj e1
  obtain ⟨i2, e2⟩ := is_v hg
  obtain rfl : w2 = (.int i2) := Option.some.inj e2
  obtain ⟨n, o, h1, h2, h3, _, L, ms, rfl, q, N, -, -, -, hq⟩ := o_ct_law l s _ hw [] EW.nil s.heap.size tables_1 s.heap (Old.start s) i0 i1 i2  p e ha hc hk s m _ below hf ((Spec.applies_iff_loose hf).mp happ).1 ⟨rfl, State.WarmedH.refl s, rfl, fun _ q => nomatch q⟩ trivial
  obtain ⟨-, -, rfl⟩ := q
  refine ⟨n, _, h1, h2, h3, hpost _ _ _ _ _ _ ⟨Cond.after_iff.mpr rfl, Cond.after_iff.mpr (eq_i res_at (Term.int_eval (1)) rfl), trivial⟩ ⟨hq.1, hq.2.1.wide, (LamKit.wideOf hq).2.2.1, (hq.2.2.sift fun y hy => Or.inr (N y hy)).mono (by decide) (by decide)⟩⟩
theorem main_1_1 : Claimed_1_1 := comes_1 fun _ _ _ _ _ _ h hF => ⟨h.1, hF⟩
theorem main_1_2 : Claimed_1_2 := comes_1 fun _ _ _ _ _ _ h hF => ⟨h.2.1, hF⟩
end Jvm.Pilot.@@N@@
namespace Jvm.Pilot.@@N@@
open Jvm Jvm.ClassFile Sem Op Lib Jvm.Free Jvm.Stand Jvm.Pilot.@@N@@.Jvm.D
/-! MADE BY PROGRAM (witnessworld.py) out of the Statement's table words and the real class files: 18 classes; the members and pool entries that the words name. The judged class is class 1, her method 2. -/
namespace start1
open Jvm.ClassFile
def u (s : String) : CpInfo := .utf8 (stringToUtf16 s)
/-- a pool by its gaps: so many unusable entries, then the entry; so many at the end -/
def gap : Nat → List CpInfo → List CpInfo
  | 0, r => r
  | n + 1, r => .unusable :: gap n r
def poolList (es : List (Nat × CpInfo)) (last : Nat) : List CpInfo := es.foldr (fun e r => gap e.1 (e.2 :: r)) (gap last [])
def pool (es : List (Nat × CpInfo)) (last : Nat) : Array CpInfo := ⟨poolList es last⟩
def fileOf (pool : Array CpInfo) (this : Nat) (attrs : Array Attribute := #[]) (ms : Array MethodInfo := #[]) (fl : Nat := 33) (sup : Nat := 0) (ifs : Array Nat := #[]) (fds : Array FieldInfo := #[]) : ClassFile where
  minorVersion := 0
  majorVersion := 65
  constantPool := pool
  accessFlags := fl
  thisClass := this
  superClass := sup
  interfaces := ifs
  fields := fds
  methods := ms
  attributes := attrs
def plain (name : String) (sup : Option ClassId) : Class where
  name := name
  kind := .ordinary
  loader := none
  accessFlags := 33
  super := sup
  interfaces := #[]
  cf := none
  fields := #[]
  methods := #[]
  instanceTypes := #[]
  staticTypes := #[]
  resolved := #[]
  callSites := []
  init := .initialized
  statics := none
  mirror := none

def pool0 : Array CpInfo := pool [(5, u "<init>"), (0, u "()V"), (1, .class_ 10), (1, u "java/lang/Object")] 113

def k0c0 : Code := { maxStack := 0, maxLocals := 1, code := object_method_1_code, exceptionTable := #[], attributes := #[] }
def k0m0 : Method := { name := "<init>", desc := "()V", sig := { parameters := [], returnType := none }, accessFlags := 1, code := some k0c0 }
/-- java/lang/Object -/
def k0 : Class := { plain "java/lang/Object" none with
  accessFlags := 33
  interfaces := #[]
  cf := some (fileOf pool0 8 #[] #[{ accessFlags := 1, nameIndex := 5, descriptorIndex := 6, attributes := #[] }] 33 0 #[] #[])
  fields := #[]
  methods := #[k0m0]
  instanceTypes := #[]
  staticTypes := #[]
  resolved := Array.replicate 124 none
  statics := none }

def pool1 : Array CpInfo := pool [(2, .class_ 4), (1, u "java/lang/Object"), (0, u "<init>"), (0, u "()V"), (0, .class_ 8), (0, u "com/example/throng/throng/engine/NumberedAnswers"), (0, .methodref 7 10), (0, .nameAndType 5 11), (0, u "(III[I[I[I)V"), (0, .methodref 7 13), (0, .nameAndType 14 15), (0, u "byQuestion"), (0, u "(I)I"), (0, .methodref 17 18), (0, .class_ 19), (0, .nameAndType 20 21), (0, u "com/example/throng/throng/engine/NumberedAnswersRunEndPinLaw"), (0, u "le"), (0, u "(III)I"), (0, .methodref 7 23), (0, .nameAndType 24 15), (0, u "runEnd"), (3, u "law"), (0, u "(III)Z")] 4

def k1m0 : Method := { name := "<init>", desc := "()V", sig := { parameters := [], returnType := none }, accessFlags := 1, code := none }
def k1c1 : Code := { maxStack := 2, maxLocals := 3, code := method_2_code, exceptionTable := #[], attributes := #[] }
def k1m1 : Method := { name := "le", desc := "(III)I", sig := { parameters := [.int, .int, .int], returnType := some .int }, accessFlags := 10, code := some k1c1 }
def k1c2 : Code := { maxStack := 8, maxLocals := 11, code := code, exceptionTable := #[], attributes := #[] }
def k1m2 : Method := { name := "law", desc := "(III)Z", sig := { parameters := [.int, .int, .int], returnType := some .boolean }, accessFlags := 9, code := some k1c2 }
/-- com/example/throng/throng/engine/NumberedAnswersRunEndPinLaw -/
def k1 : Class := { plain "com/example/throng/throng/engine/NumberedAnswersRunEndPinLaw" (some 0) with
  accessFlags := 49
  interfaces := #[]
  cf := some (fileOf pool1 17 #[] #[{ accessFlags := 1, nameIndex := 5, descriptorIndex := 6, attributes := #[] }, { accessFlags := 10, nameIndex := 20, descriptorIndex := 21, attributes := #[] }, { accessFlags := 9, nameIndex := 28, descriptorIndex := 29, attributes := #[] }] 49 2 #[] #[])
  fields := #[]
  methods := #[k1m0, k1m1, k1m2]
  instanceTypes := #[]
  staticTypes := #[]
  resolved := Array.replicate 34 none
  statics := none }

def pool2 : Array CpInfo := pool [(1, .methodref 2 3), (0, .class_ 4), (0, .nameAndType 5 6), (0, u "java/lang/Object"), (0, u "<init>"), (0, u "()V"), (0, .fieldref 8 9), (0, .class_ 10), (0, .nameAndType 11 12), (0, u "com/example/throng/throng/engine/NumberedAnswers"), (0, u "questions"), (0, u "I"), (0, .fieldref 8 14), (0, .nameAndType 15 12), (0, u "labels"), (0, .fieldref 8 17), (0, .nameAndType 18 12), (0, u "workers"), (0, .fieldref 8 20), (0, .nameAndType 21 22), (0, u "question"), (0, u "[I"), (0, .fieldref 8 24), (0, .nameAndType 25 22), (0, u "worker"), (0, .fieldref 8 27), (0, .nameAndType 28 22), (0, u "label"), (0, .invokeDynamic 0 30), (0, .nameAndType 31 32), (0, u "applyAsInt"), (0, u "([I)Ljava/util/function/IntUnaryOperator;"), (0, .invokeDynamic 1 30), (0, .methodref 35 36), (0, .class_ 37), (0, .nameAndType 38 39), (0, u "com/example/throng/throng/engine/Groups"), (0, u "of"), (0, u "(IILjava/util/function/IntUnaryOperator;ILjava/util/function/IntUnaryOperator;)Lcom/example/throng/throng/engine/Groups;"), (0, .methodref 35 41), (0, .nameAndType 42 43), (0, u "items"), (0, u "()[I"), (0, .fieldref 8 45), (0, .nameAndType 46 22), (0, u "byQuestion"), (0, .methodref 35 48), (0, .nameAndType 49 43), (0, u "start"), (0, .fieldref 8 51), (0, .nameAndType 49 22), (0, u "(III[I[I[I)V"), (4, u "(I)I"), (1, u "runEnd"), (1, u "lambda$new$1"), (0, u "([II)I"), (0, u "lambda$new$0"), (3, .methodType 57), (0, .methodHandle 6 69), (0, .methodref 8 70), (0, .nameAndType 63 62), (0, .methodHandle 6 72), (0, .methodref 8 73), (0, .nameAndType 61 62), (0, .methodHandle 6 75), (0, .methodref 76 77), (0, .class_ 78), (0, .nameAndType 79 80), (0, u "java/lang/invoke/LambdaMetafactory"), (0, u "metafactory"), (0, u "(Ljava/lang/invoke/MethodHandles$Lookup;Ljava/lang/String;Ljava/lang/invoke/MethodType;Ljava/lang/invoke/MethodType;Ljava/lang/invoke/MethodHandle;Ljava/lang/invoke/MethodType;)Ljava/lang/invoke/CallSite;")] 6

def k2c0 : Code := { maxStack := 5, maxLocals := 8, code := prog_86_method_1_code, exceptionTable := #[], attributes := #[] }
def k2m0 : Method := { name := "<init>", desc := "(III[I[I[I)V", sig := { parameters := [.int, .int, .int, (.array .int), (.array .int), (.array .int)], returnType := none }, accessFlags := 0, code := some k2c0 }
def k2c1 : Code := { maxStack := 2, maxLocals := 2, code := prog_86_method_10_code, exceptionTable := #[], attributes := #[] }
def k2m1 : Method := { name := "byQuestion", desc := "(I)I", sig := { parameters := [.int], returnType := some .int }, accessFlags := 0, code := some k2c1 }
def k2c2 : Code := { maxStack := 3, maxLocals := 4, code := prog_86_method_11_code, exceptionTable := #[], attributes := #[] }
def k2m2 : Method := { name := "runEnd", desc := "(I)I", sig := { parameters := [.int], returnType := some .int }, accessFlags := 0, code := some k2c2 }
def k2c3 : Code := { maxStack := 2, maxLocals := 2, code := prog_86_method_12_code, exceptionTable := #[], attributes := #[] }
def k2m3 : Method := { name := "lambda$new$1", desc := "([II)I", sig := { parameters := [(.array .int), .int], returnType := some .int }, accessFlags := 4106, code := some k2c3 }
def k2c4 : Code := { maxStack := 2, maxLocals := 2, code := prog_86_method_13_code, exceptionTable := #[], attributes := #[] }
def k2m4 : Method := { name := "lambda$new$0", desc := "([II)I", sig := { parameters := [(.array .int), .int], returnType := some .int }, accessFlags := 4106, code := some k2c4 }
/-- com/example/throng/throng/engine/NumberedAnswers -/
def k2 : Class := { plain "com/example/throng/throng/engine/NumberedAnswers" (some 0) with
  accessFlags := 48
  interfaces := #[]
  cf := some (fileOf pool2 8 #[.bootstrapMethods #[⟨74, #[67, 68, 67]⟩, ⟨74, #[67, 71, 67]⟩]] #[{ accessFlags := 0, nameIndex := 5, descriptorIndex := 52, attributes := #[] }, { accessFlags := 0, nameIndex := 46, descriptorIndex := 57, attributes := #[] }, { accessFlags := 0, nameIndex := 59, descriptorIndex := 57, attributes := #[] }, { accessFlags := 4106, nameIndex := 61, descriptorIndex := 62, attributes := #[] }, { accessFlags := 4106, nameIndex := 63, descriptorIndex := 62, attributes := #[] }] 48 2 #[] #[{ accessFlags := 18, nameIndex := 11, descriptorIndex := 12, attributes := #[] }, { accessFlags := 18, nameIndex := 15, descriptorIndex := 12, attributes := #[] }, { accessFlags := 18, nameIndex := 18, descriptorIndex := 12, attributes := #[] }, { accessFlags := 18, nameIndex := 21, descriptorIndex := 22, attributes := #[] }, { accessFlags := 18, nameIndex := 25, descriptorIndex := 22, attributes := #[] }, { accessFlags := 18, nameIndex := 28, descriptorIndex := 22, attributes := #[] }, { accessFlags := 18, nameIndex := 46, descriptorIndex := 22, attributes := #[] }, { accessFlags := 18, nameIndex := 49, descriptorIndex := 22, attributes := #[] }])
  fields := #[{ name := "questions", type := .int, accessFlags := 18, slot := 0, constantValue := 0 }, { name := "labels", type := .int, accessFlags := 18, slot := 1, constantValue := 0 }, { name := "workers", type := .int, accessFlags := 18, slot := 2, constantValue := 0 }, { name := "question", type := (.array .int), accessFlags := 18, slot := 3, constantValue := 0 }, { name := "worker", type := (.array .int), accessFlags := 18, slot := 4, constantValue := 0 }, { name := "label", type := (.array .int), accessFlags := 18, slot := 5, constantValue := 0 }, { name := "byQuestion", type := (.array .int), accessFlags := 18, slot := 6, constantValue := 0 }, { name := "start", type := (.array .int), accessFlags := 18, slot := 7, constantValue := 0 }]
  methods := #[k2m0, k2m1, k2m2, k2m3, k2m4]
  instanceTypes := #[.int, .int, .int, (.array .int), (.array .int), (.array .int), (.array .int), (.array .int)]
  staticTypes := #[]
  resolved := Array.replicate 87 none
  callSites := [(0, 43, .makes 15), (0, 51, .makes 16)]
  statics := none }

def pool3 : Array CpInfo := pool [(9, u "applyAsInt"), (6, .class_ 18), (1, u "java/util/function/IntUnaryOperator"), (0, u "(I)I"), (0, .class_ 21), (0, u "java/lang/Object")] 46

def k3m0 : Method := { name := "applyAsInt", desc := "(I)I", sig := { parameters := [.int], returnType := some .int }, accessFlags := 1025, code := none }
/-- java/util/function/IntUnaryOperator -/
def k3 : Class := { plain "java/util/function/IntUnaryOperator" (some 0) with
  accessFlags := 1537
  interfaces := #[]
  cf := some (fileOf pool3 16 #[] #[{ accessFlags := 1025, nameIndex := 9, descriptorIndex := 19, attributes := #[] }] 1537 20 #[] #[])
  fields := #[]
  methods := #[k3m0]
  instanceTypes := #[]
  staticTypes := #[]
  resolved := Array.replicate 68 none
  statics := none }

def pool4 : Array CpInfo := pool [(1, .methodref 2 3), (0, .class_ 4), (0, .nameAndType 5 6), (0, u "java/lang/Object"), (0, u "<init>"), (0, u "()V"), (0, .class_ 8), (0, u "java/lang/Record")] 13

def k4c0 : Code := { maxStack := 1, maxLocals := 1, code := jdk_30_method_1_code, exceptionTable := #[], attributes := #[] }
def k4m0 : Method := { name := "<init>", desc := "()V", sig := { parameters := [], returnType := none }, accessFlags := 4, code := some k4c0 }
/-- java/lang/Record -/
def k4 : Class := { plain "java/lang/Record" (some 0) with
  accessFlags := 1057
  interfaces := #[]
  cf := some (fileOf pool4 7 #[] #[{ accessFlags := 4, nameIndex := 5, descriptorIndex := 6, attributes := #[] }] 1057 2 #[] #[])
  fields := #[]
  methods := #[k4m0]
  instanceTypes := #[]
  staticTypes := #[]
  resolved := Array.replicate 22 none
  statics := none }

def pool5 : Array CpInfo := pool [(1, .methodref 2 3), (0, .class_ 4), (0, .nameAndType 5 6), (0, u "java/lang/Record"), (0, u "<init>"), (0, u "()V"), (0, .fieldref 8 9), (0, .class_ 10), (0, .nameAndType 11 12), (0, u "com/example/throng/throng/engine/Groups"), (0, u "start"), (0, u "[I"), (0, .fieldref 8 14), (0, .nameAndType 15 12), (0, u "items"), (0, .interfaceMethodref 17 18), (0, .class_ 19), (0, .nameAndType 20 21), (0, u "java/util/function/IntUnaryOperator"), (0, u "applyAsInt"), (0, u "(I)I"), (0, .methodref 23 24), (0, .class_ 25), (0, .nameAndType 26 27), (0, u "java/util/Arrays"), (0, u "copyOf"), (0, u "([II)[I"), (0, .methodref 8 29), (0, .nameAndType 5 30), (0, u "([I[I)V"), (0, .methodref 8 32), (0, .nameAndType 33 34), (0, u "of"), (0, u "(IILjava/util/function/IntUnaryOperator;)Lcom/example/throng/throng/engine/Groups;"), (0, .methodref 8 36), (0, .nameAndType 15 37), (0, u "()[I"), (0, .invokeDynamic 0 39), (0, .nameAndType 20 40), (0, u "(Ljava/util/function/IntUnaryOperator;[I)Ljava/util/function/IntUnaryOperator;"), (17, u "(IILjava/util/function/IntUnaryOperator;ILjava/util/function/IntUnaryOperator;)Lcom/example/throng/throng/engine/Groups;"), (3, u "lambda$of$0"), (0, u "(Ljava/util/function/IntUnaryOperator;[II)I"), (4, .methodType 21), (0, .methodHandle 6 70), (0, .methodref 8 71), (0, .nameAndType 62 63), (4, .methodHandle 6 77), (0, .methodref 78 79), (0, .class_ 80), (0, .nameAndType 81 82), (0, u "java/lang/invoke/LambdaMetafactory"), (0, u "metafactory"), (0, u "(Ljava/lang/invoke/MethodHandles$Lookup;Ljava/lang/String;Ljava/lang/invoke/MethodType;Ljava/lang/invoke/MethodType;Ljava/lang/invoke/MethodHandle;Ljava/lang/invoke/MethodType;)Ljava/lang/invoke/CallSite;")] 13

def k5c0 : Code := { maxStack := 2, maxLocals := 3, code := prog_70_method_1_code, exceptionTable := #[], attributes := #[] }
def k5m0 : Method := { name := "<init>", desc := "([I[I)V", sig := { parameters := [(.array .int), (.array .int)], returnType := none }, accessFlags := 0, code := some k5c0 }
def k5c1 : Code := { maxStack := 6, maxLocals := 7, code := prog_70_method_2_code, exceptionTable := #[], attributes := #[] }
def k5m1 : Method := { name := "of", desc := "(IILjava/util/function/IntUnaryOperator;)Lcom/example/throng/throng/engine/Groups;", sig := { parameters := [.int, .int, (.object "java/util/function/IntUnaryOperator")], returnType := some (.object "com/example/throng/throng/engine/Groups") }, accessFlags := 8, code := some k5c1 }
def k5c2 : Code := { maxStack := 5, maxLocals := 9, code := prog_70_method_3_code, exceptionTable := #[], attributes := #[] }
def k5m2 : Method := { name := "of", desc := "(IILjava/util/function/IntUnaryOperator;ILjava/util/function/IntUnaryOperator;)Lcom/example/throng/throng/engine/Groups;", sig := { parameters := [.int, .int, (.object "java/util/function/IntUnaryOperator"), .int, (.object "java/util/function/IntUnaryOperator")], returnType := some (.object "com/example/throng/throng/engine/Groups") }, accessFlags := 8, code := some k5c2 }
def k5c3 : Code := { maxStack := 1, maxLocals := 1, code := prog_70_method_7_code, exceptionTable := #[], attributes := #[] }
def k5m3 : Method := { name := "start", desc := "()[I", sig := { parameters := [], returnType := some (.array .int) }, accessFlags := 1, code := some k5c3 }
def k5c4 : Code := { maxStack := 1, maxLocals := 1, code := prog_70_method_8_code, exceptionTable := #[], attributes := #[] }
def k5m4 : Method := { name := "items", desc := "()[I", sig := { parameters := [], returnType := some (.array .int) }, accessFlags := 1, code := some k5c4 }
def k5c5 : Code := { maxStack := 3, maxLocals := 3, code := prog_70_method_9_code, exceptionTable := #[], attributes := #[] }
def k5m5 : Method := { name := "lambda$of$0", desc := "(Ljava/util/function/IntUnaryOperator;[II)I", sig := { parameters := [(.object "java/util/function/IntUnaryOperator"), (.array .int), .int], returnType := some .int }, accessFlags := 4106, code := some k5c5 }
/-- com/example/throng/throng/engine/Groups -/
def k5 : Class := { plain "com/example/throng/throng/engine/Groups" (some 4) with
  accessFlags := 48
  interfaces := #[]
  cf := some (fileOf pool5 8 #[.bootstrapMethods #[⟨76, #[68, 69, 68]⟩, ⟨0, #[]⟩]] #[{ accessFlags := 0, nameIndex := 5, descriptorIndex := 30, attributes := #[] }, { accessFlags := 8, nameIndex := 33, descriptorIndex := 34, attributes := #[] }, { accessFlags := 8, nameIndex := 33, descriptorIndex := 58, attributes := #[] }, { accessFlags := 1, nameIndex := 11, descriptorIndex := 37, attributes := #[] }, { accessFlags := 1, nameIndex := 15, descriptorIndex := 37, attributes := #[] }, { accessFlags := 4106, nameIndex := 62, descriptorIndex := 63, attributes := #[] }] 48 2 #[] #[{ accessFlags := 18, nameIndex := 11, descriptorIndex := 12, attributes := #[] }, { accessFlags := 18, nameIndex := 15, descriptorIndex := 12, attributes := #[] }])
  fields := #[{ name := "start", type := (.array .int), accessFlags := 18, slot := 0, constantValue := 0 }, { name := "items", type := (.array .int), accessFlags := 18, slot := 1, constantValue := 0 }]
  methods := #[k5m0, k5m1, k5m2, k5m3, k5m4, k5m5]
  instanceTypes := #[(.array .int), (.array .int)]
  staticTypes := #[]
  resolved := Array.replicate 96 none
  callSites := [(2, 17, .makes 17)]
  statics := none }

def pool6 : Array CpInfo := pool [(2, .class_ 4), (1, u "java/lang/Object"), (0, u "<init>"), (0, u "()V"), (7, .class_ 16), (1, u "java/util/Arrays"), (57, .class_ 76), (1, u "java/util/Arrays$NaturalOrder"), (36, .class_ 115), (1, u "java/util/Arrays$LegacyMergeSort"), (1, u "Z"), (32, .methodref 151 152), (0, .class_ 153), (0, .nameAndType 154 155), (0, u "java/lang/System"), (0, u "arraycopy"), (0, u "(Ljava/lang/Object;ILjava/lang/Object;II)V"), (146, u "copyOf"), (1, .methodref 305 306), (0, .class_ 307), (0, .nameAndType 308 309), (0, u "java/lang/Math"), (0, u "min"), (0, u "(II)I"), (65, .class_ 376), (0, u "java/util/Arrays$ArrayList"), (68, u "$assertionsDisabled"), (269, u "MIN_ARRAY_SORT_GRAN"), (0, u "I"), (2, u "INSERTIONSORT_THRESHOLD"), (151, u "([II)[I"), (103, .class_ 976), (0, u "java/util/Arrays$ArrayItr")] 52

def k6m0 : Method := { name := "<init>", desc := "()V", sig := { parameters := [], returnType := none }, accessFlags := 2, code := none }
def k6c1 : Code := { maxStack := 6, maxLocals := 3, code := jdk_65_method_123_code, exceptionTable := #[], attributes := #[] }
def k6m1 : Method := { name := "copyOf", desc := "([II)[I", sig := { parameters := [(.array .int), .int], returnType := some (.array .int) }, accessFlags := 9, code := some k6c1 }
/-- java/util/Arrays -/
def k6 : Class := { plain "java/util/Arrays" (some 0) with
  accessFlags := 49
  interfaces := #[]
  cf := some (fileOf pool6 14 #[.nestMembers #[975, 375, 113, 74]] #[{ accessFlags := 2, nameIndex := 5, descriptorIndex := 6, attributes := #[] }, { accessFlags := 9, nameIndex := 302, descriptorIndex := 871, attributes := #[] }] 49 2 #[] #[{ accessFlags := 26, nameIndex := 715, descriptorIndex := 716, attributes := #[] }, { accessFlags := 26, nameIndex := 719, descriptorIndex := 716, attributes := #[] }, { accessFlags := 4120, nameIndex := 445, descriptorIndex := 117, attributes := #[] }])
  fields := #[{ name := "MIN_ARRAY_SORT_GRAN", type := .int, accessFlags := 26, slot := 0, constantValue := 0 }, { name := "INSERTIONSORT_THRESHOLD", type := .int, accessFlags := 26, slot := 1, constantValue := 0 }, { name := "$assertionsDisabled", type := .boolean, accessFlags := 4120, slot := 2, constantValue := 0 }]
  methods := #[k6m0, k6m1]
  instanceTypes := #[]
  staticTypes := #[.int, .int, .boolean]
  resolved := Array.replicate 1029 none
  statics := none }

def pool7 : Array CpInfo := pool [(1, .class_ 2), (0, u "java/lang/Math"), (1, .class_ 6), (1, u "java/lang/Object"), (0, u "<init>"), (0, u "()V"), (89, .class_ 100), (1, u "java/lang/Math$RandomNumberGeneratorHolder"), (71, u "negativeZeroFloatBits"), (0, u "J"), (2, u "negativeZeroDoubleBits"), (24, u "min"), (43, u "$assertionsDisabled"), (0, u "Z"), (88, u "(II)I"), (2, u "twoToTheDoubleScaleDown"), (0, u "D"), (4, u "twoToTheDoubleScaleUp"), (9, u "E"), (3, u "PI"), (2, u "TAU"), (2, u "DEGREES_TO_RADIANS"), (0, u "RADIANS_TO_DEGREES")] 94

def k7m0 : Method := { name := "<init>", desc := "()V", sig := { parameters := [], returnType := none }, accessFlags := 2, code := none }
def k7c1 : Code := { maxStack := 2, maxLocals := 2, code := jdk_29_method_69_code, exceptionTable := #[], attributes := #[] }
def k7m1 : Method := { name := "min", desc := "(II)I", sig := { parameters := [.int, .int], returnType := some .int }, accessFlags := 9, code := some k7c1 }
/-- java/lang/Math -/
def k7 : Class := { plain "java/lang/Math" (some 0) with
  accessFlags := 49
  interfaces := #[]
  cf := some (fileOf pool7 1 #[.nestMembers #[98]] #[{ accessFlags := 2, nameIndex := 7, descriptorIndex := 8, attributes := #[] }, { accessFlags := 9, nameIndex := 201, descriptorIndex := 335, attributes := #[] }] 49 4 #[] #[{ accessFlags := 25, nameIndex := 354, descriptorIndex := 339, attributes := #[] }, { accessFlags := 25, nameIndex := 358, descriptorIndex := 339, attributes := #[] }, { accessFlags := 25, nameIndex := 361, descriptorIndex := 339, attributes := #[] }, { accessFlags := 26, nameIndex := 364, descriptorIndex := 339, attributes := #[] }, { accessFlags := 26, nameIndex := 365, descriptorIndex := 339, attributes := #[] }, { accessFlags := 26, nameIndex := 172, descriptorIndex := 173, attributes := #[] }, { accessFlags := 26, nameIndex := 176, descriptorIndex := 173, attributes := #[] }, { accessFlags := 8, nameIndex := 344, descriptorIndex := 339, attributes := #[] }, { accessFlags := 8, nameIndex := 338, descriptorIndex := 339, attributes := #[] }, { accessFlags := 4120, nameIndex := 245, descriptorIndex := 246, attributes := #[] }])
  fields := #[{ name := "E", type := .double, accessFlags := 25, slot := 0, constantValue := 0 }, { name := "PI", type := .double, accessFlags := 25, slot := 1, constantValue := 0 }, { name := "TAU", type := .double, accessFlags := 25, slot := 2, constantValue := 0 }, { name := "DEGREES_TO_RADIANS", type := .double, accessFlags := 26, slot := 3, constantValue := 0 }, { name := "RADIANS_TO_DEGREES", type := .double, accessFlags := 26, slot := 4, constantValue := 0 }, { name := "negativeZeroFloatBits", type := .long, accessFlags := 26, slot := 5, constantValue := 0 }, { name := "negativeZeroDoubleBits", type := .long, accessFlags := 26, slot := 6, constantValue := 0 }, { name := "twoToTheDoubleScaleUp", type := .double, accessFlags := 8, slot := 7, constantValue := 0 }, { name := "twoToTheDoubleScaleDown", type := .double, accessFlags := 8, slot := 8, constantValue := 0 }, { name := "$assertionsDisabled", type := .boolean, accessFlags := 4120, slot := 9, constantValue := 0 }]
  methods := #[k7m0, k7m1]
  instanceTypes := #[]
  staticTypes := #[.double, .double, .double, .double, .double, .long, .long, .double, .double, .boolean]
  resolved := Array.replicate 460 none
  statics := none }

def pool8 : Array CpInfo := pool [(2, .class_ 4), (1, u "java/lang/Object"), (0, u "<init>"), (0, u "()V"), (1, .class_ 10), (1, u "java/lang/System"), (0, u "allowSecurityManager"), (0, u "I"), (16, u "cons"), (0, u "Ljava/io/Console;"), (77, .class_ 110), (1, u "java/lang/System$CallersHolder"), (43, u "initialErrStream"), (0, u "Ljava/io/PrintStream;"), (19, u "security"), (0, u "Ljava/lang/SecurityManager;"), (31, .class_ 209), (0, u "java/lang/System$1"), (7, u "props"), (0, u "Ljava/util/Properties;"), (2, u "lineSeparator"), (0, u "Ljava/lang/String;"), (96, .class_ 321), (1, u "java/lang/System$LoggerFinder"), (5, .class_ 328), (0, u "java/lang/System$Logger"), (67, u "err"), (2, u "out"), (91, u "notSupportedJnuEncoding"), (15, u "in"), (17, u "initialIn"), (0, u "Ljava/io/InputStream;"), (35, u "bootLayer"), (0, u "Ljava/lang/ModuleLayer;"), (99, .class_ 664), (0, u "java/lang/System$2"), (9, u "NEVER"), (2, u "MAYBE"), (49, u "arraycopy"), (0, u "(Ljava/lang/Object;ILjava/lang/Object;II)V"), (72, .class_ 802), (0, u "java/lang/System$Logger$Level")] 31

def k8m0 : Method := { name := "<init>", desc := "()V", sig := { parameters := [], returnType := none }, accessFlags := 2, code := none }
def k8m1 : Method := { name := "arraycopy", desc := "(Ljava/lang/Object;ILjava/lang/Object;II)V", sig := { parameters := [(.object "java/lang/Object"), .int, (.object "java/lang/Object"), .int, .int], returnType := none }, accessFlags := 265, code := none }
/-- java/lang/System -/
def k8 : Class := { plain "java/lang/System" (some 0) with
  accessFlags := 49
  interfaces := #[]
  cf := some (fileOf pool8 8 #[.nestMembers #[319, 327, 801, 108, 663, 208]] #[{ accessFlags := 2, nameIndex := 5, descriptorIndex := 6, attributes := #[] }, { accessFlags := 265, nameIndex := 727, descriptorIndex := 728, attributes := #[] }] 49 2 #[] #[{ accessFlags := 25, nameIndex := 507, descriptorIndex := 526, attributes := #[] }, { accessFlags := 25, nameIndex := 399, descriptorIndex := 155, attributes := #[] }, { accessFlags := 25, nameIndex := 396, descriptorIndex := 155, attributes := #[] }, { accessFlags := 10, nameIndex := 525, descriptorIndex := 526, attributes := #[] }, { accessFlags := 26, nameIndex := 674, descriptorIndex := 12, attributes := #[] }, { accessFlags := 26, nameIndex := 677, descriptorIndex := 12, attributes := #[] }, { accessFlags := 10, nameIndex := 11, descriptorIndex := 12, attributes := #[] }, { accessFlags := 74, nameIndex := 175, descriptorIndex := 176, attributes := #[] }, { accessFlags := 10, nameIndex := 491, descriptorIndex := 222, attributes := #[] }, { accessFlags := 74, nameIndex := 29, descriptorIndex := 30, attributes := #[] }, { accessFlags := 74, nameIndex := 154, descriptorIndex := 155, attributes := #[] }, { accessFlags := 10, nameIndex := 217, descriptorIndex := 218, attributes := #[] }, { accessFlags := 10, nameIndex := 221, descriptorIndex := 222, attributes := #[] }, { accessFlags := 8, nameIndex := 562, descriptorIndex := 563, attributes := #[] }])
  fields := #[{ name := "in", type := (.object "java/io/InputStream"), accessFlags := 25, slot := 0, constantValue := 0 }, { name := "out", type := (.object "java/io/PrintStream"), accessFlags := 25, slot := 1, constantValue := 0 }, { name := "err", type := (.object "java/io/PrintStream"), accessFlags := 25, slot := 2, constantValue := 0 }, { name := "initialIn", type := (.object "java/io/InputStream"), accessFlags := 10, slot := 3, constantValue := 0 }, { name := "NEVER", type := .int, accessFlags := 26, slot := 4, constantValue := 0 }, { name := "MAYBE", type := .int, accessFlags := 26, slot := 5, constantValue := 0 }, { name := "allowSecurityManager", type := .int, accessFlags := 10, slot := 6, constantValue := 0 }, { name := "security", type := (.object "java/lang/SecurityManager"), accessFlags := 74, slot := 7, constantValue := 0 }, { name := "notSupportedJnuEncoding", type := (.object "java/lang/String"), accessFlags := 10, slot := 8, constantValue := 0 }, { name := "cons", type := (.object "java/io/Console"), accessFlags := 74, slot := 9, constantValue := 0 }, { name := "initialErrStream", type := (.object "java/io/PrintStream"), accessFlags := 74, slot := 10, constantValue := 0 }, { name := "props", type := (.object "java/util/Properties"), accessFlags := 10, slot := 11, constantValue := 0 }, { name := "lineSeparator", type := (.object "java/lang/String"), accessFlags := 10, slot := 12, constantValue := 0 }, { name := "bootLayer", type := (.object "java/lang/ModuleLayer"), accessFlags := 8, slot := 13, constantValue := 0 }]
  methods := #[k8m0, k8m1]
  instanceTypes := #[]
  staticTypes := #[(.object "java/io/InputStream"), (.object "java/io/PrintStream"), (.object "java/io/PrintStream"), (.object "java/io/InputStream"), .int, .int, .int, (.object "java/lang/SecurityManager"), (.object "java/lang/String"), (.object "java/io/Console"), (.object "java/io/PrintStream"), (.object "java/util/Properties"), (.object "java/lang/String"), (.object "java/lang/ModuleLayer")]
  resolved := Array.replicate 834 none
  statics := none }

def pool9 : Array CpInfo := pool [(1, u "java/lang/Cloneable"), (0, .class_ 1), (0, u "java/lang/Object"), (0, .class_ 3)] 3

/-- java/lang/Cloneable -/
def k9 : Class := { plain "java/lang/Cloneable" (some 0) with
  accessFlags := 1537
  interfaces := #[]
  cf := some (fileOf pool9 2 #[] #[] 1537 4 #[] #[])
  fields := #[]
  methods := #[]
  instanceTypes := #[]
  staticTypes := #[]
  resolved := Array.replicate 8 none
  statics := none }

def pool10 : Array CpInfo := pool [(1, u "java/io/Serializable"), (0, .class_ 1), (0, u "java/lang/Object"), (0, .class_ 3)] 3

/-- java/io/Serializable -/
def k10 : Class := { plain "java/io/Serializable" (some 0) with
  accessFlags := 1537
  interfaces := #[]
  cf := some (fileOf pool10 2 #[] #[] 1537 4 #[] #[])
  fields := #[]
  methods := #[]
  instanceTypes := #[]
  staticTypes := #[]
  resolved := Array.replicate 8 none
  statics := none }

/-- the primitive byte -/
def k11 : Class := { plain "byte" none with kind := .primitive 'B', accessFlags := 0x411 }
/-- [B -/
def k12 : Class := { plain "[B" (some 0) with kind := .array 11 .byte, interfaces := #[9, 10], accessFlags := 1041 }

/-- the primitive int -/
def k13 : Class := { plain "int" none with kind := .primitive 'I', accessFlags := 0x411 }
/-- [I -/
def k14 : Class := { plain "[I" (some 0) with kind := .array 13 .int, interfaces := #[9, 10], accessFlags := 1041 }

def classes0 : Array Class := #[k0, k1, k2, k3, k4, k5, k6, k7, k8, k9, k10, k11, k12, k13, k14]
/-- the class that the rule has made for the site at 43 of com/example/throng/throng/engine/NumberedAnswers.<init> -/
def k15 : Class := Jvm.LamKit.madeRec { classes := classes0 } "com/example/throng/throng/engine/NumberedAnswers" (Jvm.Lambda.Shape.mk "java/util/function/IntUnaryOperator" "applyAsInt" (Jvm.ClassFile.MethodDescriptor.mk ([Jvm.ClassFile.FieldType.int] : List Jvm.ClassFile.FieldType) (Option.some Jvm.ClassFile.FieldType.int)) ([(Jvm.ClassFile.FieldType.array Jvm.ClassFile.FieldType.int)] : List Jvm.ClassFile.FieldType) (6 : Nat) "com/example/throng/throng/engine/NumberedAnswers" "lambda$new$0" (Jvm.ClassFile.MethodDescriptor.mk ([(Jvm.ClassFile.FieldType.array Jvm.ClassFile.FieldType.int), Jvm.ClassFile.FieldType.int] : List Jvm.ClassFile.FieldType) (Option.some Jvm.ClassFile.FieldType.int)) false (Jvm.ClassFile.MethodDescriptor.mk ([Jvm.ClassFile.FieldType.int] : List Jvm.ClassFile.FieldType) (Option.some Jvm.ClassFile.FieldType.int))) 15

/-- the class that the rule has made for the site at 51 of com/example/throng/throng/engine/NumberedAnswers.<init> -/
def k16 : Class := Jvm.LamKit.madeRec { classes := classes0 } "com/example/throng/throng/engine/NumberedAnswers" (Jvm.Lambda.Shape.mk "java/util/function/IntUnaryOperator" "applyAsInt" (Jvm.ClassFile.MethodDescriptor.mk ([Jvm.ClassFile.FieldType.int] : List Jvm.ClassFile.FieldType) (Option.some Jvm.ClassFile.FieldType.int)) ([(Jvm.ClassFile.FieldType.array Jvm.ClassFile.FieldType.int)] : List Jvm.ClassFile.FieldType) (6 : Nat) "com/example/throng/throng/engine/NumberedAnswers" "lambda$new$1" (Jvm.ClassFile.MethodDescriptor.mk ([(Jvm.ClassFile.FieldType.array Jvm.ClassFile.FieldType.int), Jvm.ClassFile.FieldType.int] : List Jvm.ClassFile.FieldType) (Option.some Jvm.ClassFile.FieldType.int)) false (Jvm.ClassFile.MethodDescriptor.mk ([Jvm.ClassFile.FieldType.int] : List Jvm.ClassFile.FieldType) (Option.some Jvm.ClassFile.FieldType.int))) 16

/-- the class that the rule has made for the site at 17 of com/example/throng/throng/engine/Groups.of -/
def k17 : Class := Jvm.LamKit.madeRec { classes := classes0 } "com/example/throng/throng/engine/Groups" (Jvm.Lambda.Shape.mk "java/util/function/IntUnaryOperator" "applyAsInt" (Jvm.ClassFile.MethodDescriptor.mk ([Jvm.ClassFile.FieldType.int] : List Jvm.ClassFile.FieldType) (Option.some Jvm.ClassFile.FieldType.int)) ([(Jvm.ClassFile.FieldType.object "java/util/function/IntUnaryOperator"), (Jvm.ClassFile.FieldType.array Jvm.ClassFile.FieldType.int)] : List Jvm.ClassFile.FieldType) (6 : Nat) "com/example/throng/throng/engine/Groups" "lambda$of$0" (Jvm.ClassFile.MethodDescriptor.mk ([(Jvm.ClassFile.FieldType.object "java/util/function/IntUnaryOperator"), (Jvm.ClassFile.FieldType.array Jvm.ClassFile.FieldType.int), Jvm.ClassFile.FieldType.int] : List Jvm.ClassFile.FieldType) (Option.some Jvm.ClassFile.FieldType.int)) false (Jvm.ClassFile.MethodDescriptor.mk ([Jvm.ClassFile.FieldType.int] : List Jvm.ClassFile.FieldType) (Option.some Jvm.ClassFile.FieldType.int))) 17

def heap : Heap := #[]
def classes : Array Class := #[k0, k1, k2, k3, k4, k5, k6, k7, k8, k9, k10, k11, k12, k13, k14, k15, k16, k17]
def interned : List (Array UInt16 × Addr) := []
def slotsUsed : Nat := 0
def theMethod : MethodId := ⟨1, 2⟩
def args0 : Array Value := #[.int 5, .int 66051, .int 2]
def aboutOver (below : List Frame) : State where
  vm := { classes := classes, interned := interned.toArray }
  heap := heap
  slotsUsed := slotsUsed
  threads := #[{ frames := .invoking theMethod args0 :: below }]
def below0 : List Frame := [.native { method := ⟨0, 0⟩, args := #[] }]
def about1 : State := aboutOver below0
def p0 : Program := .bare "" "" ""
def e0 : Env := launch0.env 0 0 0
theorem w_frames : about1.frames = Frame.invoking theMethod args0 :: below0 := rfl
set_option maxRecDepth 65536 in
theorem w_args : argsFit about1.vm theMethod args0 = true := by decide +kernel
set_option maxRecDepth 65536 in
theorem w_heap : heapFits about1 = true := by decide +kernel
set_option maxRecDepth 65536 in
theorem w_runnable : about1.curStatus? = some .runnable := by decide +kernel
set_option maxRecDepth 65536 in
theorem w_alone : about1.alone = true := by decide +kernel
set_option maxRecDepth 65536 in
theorem w_named : about1.methodNamed? x = some theMethod := by decide +kernel
set_option maxRecDepth 65536 in
theorem w_hears : about1.hears theMethod below0 = true := by decide +kernel
set_option maxRecDepth 65536 in
theorem w_ripe : about1.ripe theMethod args0 below0 = true := by decide +kernel
theorem w_running : about1.status = .running := rfl
set_option maxRecDepth 65536 in
theorem w_room : about1.hasRoom e0.platform room_1 = true :=
  launch0.hasRoom_least _ room_1 (by decide +kernel) (by decide +kernel) (by decide +kernel) (by decide +kernel) (by decide +kernel) (by decide +kernel)
theorem allAtoms_all (ts : List Jvm.Cond) (a : Array Jvm.Value) (st : Jvm.State) : (allAtoms ts).before a st = ts.all (fun c => c.before a st) := by
  induction ts with
  | nil => rfl
  | cons c t ih =>
    show (Jvm.Cond.and c (allAtoms t)).before a st = _
    rw [Jvm.Cond.before_and, ih, List.all_cons]
def words1 : List Jvm.Cond := Jvm.Cond.code x code maxLocals ret :: tables_1
/-- a 'code' word, met by the world's own term for the bytes: nothing is compared byte by byte -/
theorem code_word {y : MethodName} {bytes : ByteArray} {mx : Nat} {rt : Option FieldType} {a : Array Value} {s : State} {m : MethodId} {meth : Method} {c : Code} (h1 : s.methodNamed? y = some m) (h2 : s.vm.method? m = some meth) (h3 : meth.code = some c) (h4 : c.code = bytes)
    (h5 : (c.maxLocals == mx && c.exceptionTable.isEmpty && decide (c.maxStack ≤ mostOperands) && decide (meth.sig.returnType = rt) && !meth.locks && decide (parseMethodDescriptor y.desc = some meth.sig)) = true) : (Jvm.Cond.code y bytes mx rt).before a s = true := by
  simp only [Bool.and_eq_true, beq_iff_eq, Bool.not_eq_true', decide_eq_true_eq] at h5
  obtain ⟨⟨⟨⟨⟨g1, g2⟩, g3⟩, g4⟩, g5⟩, g6⟩ := h5
  simp [Cond.before, Cond.holds, Cond.value, h1, h2, h3, h4, g1, g2, g3, g4, g5, g6]
def isCode : Jvm.Cond → Bool
  | .code _ _ _ _ => true
  | _ => false
theorem all_split {L : List Jvm.Cond} {P : Jvm.Cond → Bool} (h1 : L.all (fun c => isCode c || P c) = true) (h2 : ∀ c ∈ L.filter isCode, P c = true) : L.all P = true := by
  refine List.all_eq_true.mpr fun c hc => ?_
  have h := List.all_eq_true.mp h1 c hc
  rcases Bool.eq_false_or_eq_true (isCode c) with hi | hi
  · exact h2 c (List.mem_filter.mpr ⟨hc, hi⟩)
  · simpa [hi] using h
set_option maxRecDepth 65536 in
theorem w_c0 : (Jvm.Cond.code x code maxLocals ret).before args0 about1 = true := code_word (m := ⟨1, 2⟩) (meth := k1m2) (c := k1c2) (by decide +kernel) rfl rfl rfl (by decide +kernel)
set_option maxRecDepth 65536 in
theorem w_c1 : (Jvm.Cond.code ({ cls := "com/example/throng/throng/engine/NumberedAnswers", name := "<init>", desc := "(III[I[I[I)V" } : Jvm.MethodName) prog_86_method_1_code (8 : Nat) (Option.none : Option Jvm.ClassFile.FieldType)).before args0 about1 = true := code_word (m := ⟨2, 0⟩) (meth := k2m0) (c := k2c0) (by decide +kernel) rfl rfl rfl (by decide +kernel)
set_option maxRecDepth 65536 in
theorem w_c2 : (Jvm.Cond.code ({ cls := "java/lang/Object", name := "<init>", desc := "()V" } : Jvm.MethodName) object_method_1_code (1 : Nat) (Option.none : Option Jvm.ClassFile.FieldType)).before args0 about1 = true := code_word (m := ⟨0, 0⟩) (meth := k0m0) (c := k0c0) (by decide +kernel) rfl rfl rfl (by decide +kernel)
set_option maxRecDepth 65536 in
theorem w_c3 : (Jvm.Cond.code ({ cls := "com/example/throng/throng/engine/Groups", name := "of", desc := "(IILjava/util/function/IntUnaryOperator;ILjava/util/function/IntUnaryOperator;)Lcom/example/throng/throng/engine/Groups;" } : Jvm.MethodName) prog_70_method_3_code (9 : Nat) (Option.some (Jvm.ClassFile.FieldType.object "com/example/throng/throng/engine/Groups"))).before args0 about1 = true := code_word (m := ⟨5, 2⟩) (meth := k5m2) (c := k5c2) (by decide +kernel) rfl rfl rfl (by decide +kernel)
set_option maxRecDepth 65536 in
theorem w_c4 : (Jvm.Cond.code ({ cls := "com/example/throng/throng/engine/Groups", name := "of", desc := "(IILjava/util/function/IntUnaryOperator;)Lcom/example/throng/throng/engine/Groups;" } : Jvm.MethodName) prog_70_method_2_code (7 : Nat) (Option.some (Jvm.ClassFile.FieldType.object "com/example/throng/throng/engine/Groups"))).before args0 about1 = true := code_word (m := ⟨5, 1⟩) (meth := k5m1) (c := k5c1) (by decide +kernel) rfl rfl rfl (by decide +kernel)
set_option maxRecDepth 65536 in
theorem w_c5 : (Jvm.Cond.code ({ cls := "com/example/throng/throng/engine/NumberedAnswers", name := "lambda$new$1", desc := "([II)I" } : Jvm.MethodName) prog_86_method_12_code (2 : Nat) (Option.some Jvm.ClassFile.FieldType.int)).before args0 about1 = true := code_word (m := ⟨2, 3⟩) (meth := k2m3) (c := k2c3) (by decide +kernel) rfl rfl rfl (by decide +kernel)
set_option maxRecDepth 65536 in
theorem w_c6 : (Jvm.Cond.code ({ cls := "java/util/Arrays", name := "copyOf", desc := "([II)[I" } : Jvm.MethodName) jdk_65_method_123_code (3 : Nat) (Option.some (Jvm.ClassFile.FieldType.array Jvm.ClassFile.FieldType.int))).before args0 about1 = true := code_word (m := ⟨6, 1⟩) (meth := k6m1) (c := k6c1) (by decide +kernel) rfl rfl rfl (by decide +kernel)
set_option maxRecDepth 65536 in
theorem w_c7 : (Jvm.Cond.code ({ cls := "java/lang/Math", name := "min", desc := "(II)I" } : Jvm.MethodName) jdk_29_method_69_code (2 : Nat) (Option.some Jvm.ClassFile.FieldType.int)).before args0 about1 = true := code_word (m := ⟨7, 1⟩) (meth := k7m1) (c := k7c1) (by decide +kernel) rfl rfl rfl (by decide +kernel)
set_option maxRecDepth 65536 in
theorem w_c8 : (Jvm.Cond.code ({ cls := "com/example/throng/throng/engine/Groups", name := "<init>", desc := "([I[I)V" } : Jvm.MethodName) prog_70_method_1_code (3 : Nat) (Option.none : Option Jvm.ClassFile.FieldType)).before args0 about1 = true := code_word (m := ⟨5, 0⟩) (meth := k5m0) (c := k5c0) (by decide +kernel) rfl rfl rfl (by decide +kernel)
set_option maxRecDepth 65536 in
theorem w_c9 : (Jvm.Cond.code ({ cls := "java/lang/Record", name := "<init>", desc := "()V" } : Jvm.MethodName) jdk_30_method_1_code (1 : Nat) (Option.none : Option Jvm.ClassFile.FieldType)).before args0 about1 = true := code_word (m := ⟨4, 0⟩) (meth := k4m0) (c := k4c0) (by decide +kernel) rfl rfl rfl (by decide +kernel)
set_option maxRecDepth 65536 in
theorem w_c10 : (Jvm.Cond.code ({ cls := "com/example/throng/throng/engine/Groups", name := "items", desc := "()[I" } : Jvm.MethodName) prog_70_method_8_code (1 : Nat) (Option.some (Jvm.ClassFile.FieldType.array Jvm.ClassFile.FieldType.int))).before args0 about1 = true := code_word (m := ⟨5, 4⟩) (meth := k5m4) (c := k5c4) (by decide +kernel) rfl rfl rfl (by decide +kernel)
set_option maxRecDepth 65536 in
theorem w_c11 : (Jvm.Cond.code ({ cls := "com/example/throng/throng/engine/Groups", name := "lambda$of$0", desc := "(Ljava/util/function/IntUnaryOperator;[II)I" } : Jvm.MethodName) prog_70_method_9_code (3 : Nat) (Option.some Jvm.ClassFile.FieldType.int)).before args0 about1 = true := code_word (m := ⟨5, 5⟩) (meth := k5m5) (c := k5c5) (by decide +kernel) rfl rfl rfl (by decide +kernel)
set_option maxRecDepth 65536 in
theorem w_c12 : (Jvm.Cond.code ({ cls := "com/example/throng/throng/engine/NumberedAnswers", name := "lambda$new$0", desc := "([II)I" } : Jvm.MethodName) prog_86_method_13_code (2 : Nat) (Option.some Jvm.ClassFile.FieldType.int)).before args0 about1 = true := code_word (m := ⟨2, 4⟩) (meth := k2m4) (c := k2c4) (by decide +kernel) rfl rfl rfl (by decide +kernel)
set_option maxRecDepth 65536 in
theorem w_c13 : (Jvm.Cond.code ({ cls := "com/example/throng/throng/engine/Groups", name := "start", desc := "()[I" } : Jvm.MethodName) prog_70_method_7_code (1 : Nat) (Option.some (Jvm.ClassFile.FieldType.array Jvm.ClassFile.FieldType.int))).before args0 about1 = true := code_word (m := ⟨5, 3⟩) (meth := k5m3) (c := k5c3) (by decide +kernel) rfl rfl rfl (by decide +kernel)
set_option maxRecDepth 65536 in
theorem w_c14 : (Jvm.Cond.code ({ cls := "com/example/throng/throng/engine/NumberedAnswers", name := "byQuestion", desc := "(I)I" } : Jvm.MethodName) prog_86_method_10_code (2 : Nat) (Option.some Jvm.ClassFile.FieldType.int)).before args0 about1 = true := code_word (m := ⟨2, 1⟩) (meth := k2m1) (c := k2c1) (by decide +kernel) rfl rfl rfl (by decide +kernel)
set_option maxRecDepth 65536 in
theorem w_c15 : (Jvm.Cond.code ({ cls := "com/example/throng/throng/engine/NumberedAnswersRunEndPinLaw", name := "le", desc := "(III)I" } : Jvm.MethodName) method_2_code (3 : Nat) (Option.some Jvm.ClassFile.FieldType.int)).before args0 about1 = true := code_word (m := ⟨1, 1⟩) (meth := k1m1) (c := k1c1) (by decide +kernel) rfl rfl rfl (by decide +kernel)
set_option maxRecDepth 65536 in
theorem w_c16 : (Jvm.Cond.code ({ cls := "com/example/throng/throng/engine/NumberedAnswers", name := "runEnd", desc := "(I)I" } : Jvm.MethodName) prog_86_method_11_code (4 : Nat) (Option.some Jvm.ClassFile.FieldType.int)).before args0 about1 = true := code_word (m := ⟨2, 2⟩) (meth := k2m2) (c := k2c2) (by decide +kernel) rfl rfl rfl (by decide +kernel)
def codes1 : List Jvm.Cond := [Jvm.Cond.code x code maxLocals ret, Jvm.Cond.code ({ cls := "com/example/throng/throng/engine/NumberedAnswers", name := "<init>", desc := "(III[I[I[I)V" } : Jvm.MethodName) prog_86_method_1_code (8 : Nat) (Option.none : Option Jvm.ClassFile.FieldType), Jvm.Cond.code ({ cls := "java/lang/Object", name := "<init>", desc := "()V" } : Jvm.MethodName) object_method_1_code (1 : Nat) (Option.none : Option Jvm.ClassFile.FieldType), Jvm.Cond.code ({ cls := "com/example/throng/throng/engine/Groups", name := "of", desc := "(IILjava/util/function/IntUnaryOperator;ILjava/util/function/IntUnaryOperator;)Lcom/example/throng/throng/engine/Groups;" } : Jvm.MethodName) prog_70_method_3_code (9 : Nat) (Option.some (Jvm.ClassFile.FieldType.object "com/example/throng/throng/engine/Groups")), Jvm.Cond.code ({ cls := "com/example/throng/throng/engine/Groups", name := "of", desc := "(IILjava/util/function/IntUnaryOperator;)Lcom/example/throng/throng/engine/Groups;" } : Jvm.MethodName) prog_70_method_2_code (7 : Nat) (Option.some (Jvm.ClassFile.FieldType.object "com/example/throng/throng/engine/Groups")), Jvm.Cond.code ({ cls := "com/example/throng/throng/engine/NumberedAnswers", name := "lambda$new$1", desc := "([II)I" } : Jvm.MethodName) prog_86_method_12_code (2 : Nat) (Option.some Jvm.ClassFile.FieldType.int), Jvm.Cond.code ({ cls := "java/util/Arrays", name := "copyOf", desc := "([II)[I" } : Jvm.MethodName) jdk_65_method_123_code (3 : Nat) (Option.some (Jvm.ClassFile.FieldType.array Jvm.ClassFile.FieldType.int)), Jvm.Cond.code ({ cls := "java/lang/Math", name := "min", desc := "(II)I" } : Jvm.MethodName) jdk_29_method_69_code (2 : Nat) (Option.some Jvm.ClassFile.FieldType.int), Jvm.Cond.code ({ cls := "com/example/throng/throng/engine/Groups", name := "<init>", desc := "([I[I)V" } : Jvm.MethodName) prog_70_method_1_code (3 : Nat) (Option.none : Option Jvm.ClassFile.FieldType), Jvm.Cond.code ({ cls := "java/lang/Record", name := "<init>", desc := "()V" } : Jvm.MethodName) jdk_30_method_1_code (1 : Nat) (Option.none : Option Jvm.ClassFile.FieldType), Jvm.Cond.code ({ cls := "com/example/throng/throng/engine/Groups", name := "items", desc := "()[I" } : Jvm.MethodName) prog_70_method_8_code (1 : Nat) (Option.some (Jvm.ClassFile.FieldType.array Jvm.ClassFile.FieldType.int)), Jvm.Cond.code ({ cls := "com/example/throng/throng/engine/Groups", name := "lambda$of$0", desc := "(Ljava/util/function/IntUnaryOperator;[II)I" } : Jvm.MethodName) prog_70_method_9_code (3 : Nat) (Option.some Jvm.ClassFile.FieldType.int), Jvm.Cond.code ({ cls := "com/example/throng/throng/engine/NumberedAnswers", name := "lambda$new$0", desc := "([II)I" } : Jvm.MethodName) prog_86_method_13_code (2 : Nat) (Option.some Jvm.ClassFile.FieldType.int), Jvm.Cond.code ({ cls := "com/example/throng/throng/engine/Groups", name := "start", desc := "()[I" } : Jvm.MethodName) prog_70_method_7_code (1 : Nat) (Option.some (Jvm.ClassFile.FieldType.array Jvm.ClassFile.FieldType.int)), Jvm.Cond.code ({ cls := "com/example/throng/throng/engine/NumberedAnswers", name := "byQuestion", desc := "(I)I" } : Jvm.MethodName) prog_86_method_10_code (2 : Nat) (Option.some Jvm.ClassFile.FieldType.int), Jvm.Cond.code ({ cls := "com/example/throng/throng/engine/NumberedAnswersRunEndPinLaw", name := "le", desc := "(III)I" } : Jvm.MethodName) method_2_code (3 : Nat) (Option.some Jvm.ClassFile.FieldType.int), Jvm.Cond.code ({ cls := "com/example/throng/throng/engine/NumberedAnswers", name := "runEnd", desc := "(I)I" } : Jvm.MethodName) prog_86_method_11_code (4 : Nat) (Option.some Jvm.ClassFile.FieldType.int)]
set_option maxRecDepth 65536 in
theorem codes_eq : words1.filter isCode = codes1 := rfl
theorem w_codes : ∀ c ∈ words1.filter isCode, c.before args0 about1 = true := by
  rw [codes_eq]
  intro c hc
  simp only [codes1, List.mem_cons, List.not_mem_nil, or_false] at hc
  rcases hc with rfl | rfl | rfl | rfl | rfl | rfl | rfl | rfl | rfl | rfl | rfl | rfl | rfl | rfl | rfl | rfl | rfl
  · exact w_c0
  · exact w_c1
  · exact w_c2
  · exact w_c3
  · exact w_c4
  · exact w_c5
  · exact w_c6
  · exact w_c7
  · exact w_c8
  · exact w_c9
  · exact w_c10
  · exact w_c11
  · exact w_c12
  · exact w_c13
  · exact w_c14
  · exact w_c15
  · exact w_c16
set_option maxRecDepth 65536 in
theorem w_t1 : (words1.take 24).all (fun c => isCode c || c.before args0 about1) = true := by decide +kernel
set_option maxRecDepth 65536 in
theorem w_t2 : ((words1.drop 24).take 24).all (fun c => isCode c || c.before args0 about1) = true := by decide +kernel
set_option maxRecDepth 65536 in
theorem w_t3 : (((words1.drop 24).drop 24).take 24).all (fun c => isCode c || c.before args0 about1) = true := by decide +kernel
set_option maxRecDepth 65536 in
theorem w_t4 : ((((words1.drop 24).drop 24).drop 24).take 24).all (fun c => isCode c || c.before args0 about1) = true := by decide +kernel
set_option maxRecDepth 65536 in
theorem w_t5 : ((((words1.drop 24).drop 24).drop 24).drop 24).all (fun c => isCode c || c.before args0 about1) = true := by decide +kernel
theorem w_tables : (allAtoms (Jvm.Cond.code x code maxLocals ret :: tables_1)).before args0 about1 = true := by
  rw [allAtoms_all]
  show words1.all (fun c => c.before args0 about1) = true
  refine all_split ?_ w_codes
  rw [← List.take_append_drop 24 words1, List.all_append, w_t1, ← List.take_append_drop 24 (words1.drop 24), List.all_append, w_t2, ← List.take_append_drop 24 ((words1.drop 24).drop 24), List.all_append, w_t3, ← List.take_append_drop 24 (((words1.drop 24).drop 24).drop 24), List.all_append, w_t4, w_t5]
  rfl
set_option maxRecDepth 65536 in
theorem w_case : (Jvm.Cond.and given_1 narrow_1).before args0 about1 = true := by decide +kernel
theorem w_applies : (headSpec (Jvm.Cond.code x code maxLocals ret :: tables_1) room_1).applies x e0.platform about1 = true :=
  (Spec.applies_iff w_frames).mpr ⟨w_running, w_runnable, w_alone, w_named, w_hears, w_ripe, w_room, w_tables⟩
theorem atStart : AtStart classFile x code maxLocals ret World_1 tables_1 room_1 Calls_1 rest_1 Pre_1 launch0 p0 e0 about1 theMethod args0 below0 :=
  ⟨lists_1, trivial, launch0.admits_env _ _ _, launch0.least_env, fairChoices_fair.cas, fairChoices_fair.clock, w_frames, w_args, w_heap, w_applies, trivial, trivial, w_case⟩
end start1
theorem witness_1 : WitnessClaimed_1 := ⟨start1.p0, start1.e0, start1.about1, start1.theMethod, start1.args0, start1.below0, start1.atStart⟩
end Jvm.Pilot.@@N@@
