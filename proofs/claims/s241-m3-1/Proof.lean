import JvmDerived
import JvmDerived.Pilot.@@N@@Statement
import JvmDerived.Pilot.@@N@@Code
set_option linter.unusedVariables false
set_option linter.unusedSimpArgs false
@@BLOCK:NumsL.lean.txt@@
namespace Jvm.Pilot.@@N@@
open Jvm Jvm.ClassFile Sem Op Lib Jvm.Free Jvm.Stand Jvm.LawKit Jvm.RoadKit Bundle Jvm.Pilot.@@N@@.Jvm.D
theorem own_rep (n : Nat) (dv : Value) : ∀ i, (List.replicate n dv).getD i dv = dv := fun i => by
  rw [List.getD_eq_getElem?_getD, List.getElem?_replicate]; split <;> rfl
theorem own_cat {v : Value} (h : v.isRef = true) : v.category = 1 := by rcases ref_cases h with rfl | ⟨_, rfl⟩ <;> rfl
theorem own_narR {t : FieldType} {v : Value} (ht : t.isReference = true) (h : v.isRef = true) : narrow t v = v := by
  rcases ref_cases h with rfl | ⟨_, rfl⟩ <;> cases t <;> first | rfl | cases ht
theorem own_and255 (x : Int32) : ¬ (x &&& 255) < 0 ∧ ¬ (255 : Int32) < (x &&& 255) := by
  have t : ∀ k : Fin 256, ¬ (Int32.ofNat k.val) < 0 ∧ ¬ (255 : Int32) < (Int32.ofNat k.val) := by decide +kernel
  have h : (x &&& 255).toBitVec.toNat < 256 := by
    simp only [Int32.toBitVec_and, BitVec.toNat_and]
    exact Nat.lt_succ_of_le Nat.and_le_right
  have e : (x &&& 255) = Int32.ofNat (x &&& 255).toBitVec.toNat := by
    apply Int32.toBitVec_inj.mp
    show _ = BitVec.ofNat 32 _
    rw [BitVec.ofNat_toNat]; simp
  rw [e]
  exact t ⟨_, h⟩
theorem own_nc (x : Int32) : (Value.int (nar .char (x &&& 255))) = .int (x &&& 255) := congrArg Value.int (i2c_mask x)
theorem own_fc (x : Int32) : fits .char (.int (x &&& 255)) = true := own_nc x ▸ fits_nar_char (x &&& 255)
theorem own_up (cs : List Int32) (h : ∀ c ∈ cs, ¬ c < 0 ∧ ¬ (255 : Int32) < c) : ∀ c ∈ cs, ¬ c < 0 ∧ ¬ (65535 : Int32) < c := fun c hc => ⟨(h c hc).1, fun q => (h c hc).2 (by rw [Int32.lt_iff_toInt_lt] at q ⊢; have e1 : (65535 : Int32).toInt = 65535 := rfl; have e2 : (255 : Int32).toInt = 255 := rfl; omega)⟩
theorem own_all0 {P : Int32 → Prop} : ∀ c ∈ ([] : List Int32), P c := fun _ q => nomatch q
theorem own_allS {P : Int32 → Prop} {y : Int32} {L : List Int32} (q : P y) (r : ∀ x ∈ L, P x) : ∀ x ∈ y :: L, P x := fun x z => (List.mem_cons.mp z).elim (fun u => u ▸ q) (r x)
theorem own_n0 {Z : State} {n0 : Nat} {h : Heap} (O : Old Z n0 h) : n0 ≤ h.size := Nat.le_trans (Nat.le_of_eq O.1.symm) O.2.1
theorem own_mvMN {Z s : State} {a0 args : Array Value} {own host : String} {idx : Nat} {y : MethodName} (hZ : Z.Warmed39 s.vm) (w : (Jvm.Cond.methodLinkNest own idx y host).before a0 Z = true) : (Jvm.Cond.methodLinkNest own idx y host).before args s = true := (Cond.methodLinkNest_wide hZ w :)
def own_Mine (Z : State) (EL : List (String × Nat)) (n0 : Nat) (vm : Vm) (h : Heap) (ms : List Addr) : Prop := ∀ x ∈ ms, n0 ≤ x ∧ x < h.size
def own_Go (Z : State) (EL : List (String × Nat)) (n0 : Nat) (p : Program) (e : Env) (below : List Frame) (s : State) (k n : Nat) (Q : Option Value → Heap → List Addr → Prop) (cur : State) : Prop :=
  ∃ s₂ o, Steps p.tables e below cur s₂ ∧ s₂.status = .running ∧ Ended s₂ below o ∧ ∃ v L ms, o = .returned v ∧ Q v s₂.heap ms ∧ Fr n0 L ∧ Old Z n0 s₂.heap ∧ own_Mine Z EL n0 s₂.vm s₂.heap ms ∧ s.heap.size ≤ s₂.heap.size ∧ FrameEnd s o s₂ L k n
def own_Ct (l : Launch) (Z : State) (EL : List (String × Nat)) (n0 : Nat) (y : MethodName) (bytes : ByteArray) (maxL : Nat) (ret : Option FieldType) (ws : List Jvm.Cond) (rm : Room) (as' : Array Value) (h0 : Heap) (ms0 : List Addr) (Q : Option Value → Heap → List Addr → Prop) : Prop :=
  MetFree l y (head1 (Jvm.Cond.code y bytes maxL ret :: ws) rm) (fun a U => a = as' ∧ Z.Warmed39 U.vm ∧ U.heap = h0 ∧ own_Mine Z EL n0 U.vm h0 ms0) (fun _ _ _ _ _ => True)
    (fun _ U o U' => ∃ v L ms, o = .returned v ∧ Q v U'.heap ms ∧ Fr n0 L ∧ Old Z n0 U'.heap ∧ own_Mine Z EL n0 U'.vm U'.heap ms ∧ U.heap.size ≤ U'.heap.size ∧ FrameEnd U o U' L rm.cells rm.slots)
def own_Wk (Z : State) (EL : List (String × Nat)) (n0 : Nat) (own : String) (bytes : ByteArray) (maxL : Nat) (ret : Option FieldType) (nm : String) (p : Program) (l : Launch) (e : Env) (R : Room) (s : State) (m : MethodId) (args : Array Value) (below : List Frame) (meth : Method) (c : Code)
    (T : State) (ms : List Addr) (k n : Nat) (h : Heap) : Prop :=
  p.tables.exec = Jvm.exec ∧ c.code = bytes ∧ c.maxLocals = maxL ∧ meth.sig.returnType = ret ∧ meth.locks = false ∧ meth.name = nm ∧
  ∃ locs, Stand p l e R s m args below meth c T locs k n ∧ T.heap = h ∧ Z.Warmed39 s.vm ∧ s.vm.findClass own = some m.cls ∧ Fr n0 locs ∧ Old Z n0 h ∧ s.heap.size ≤ h.size ∧ own_Mine Z EL n0 T.vm h ms
section OwnKit
variable {Z : State} {EL : List (String × Nat)} {n0 : Nat} {own : String} {bytes : ByteArray} {maxL : Nat} {ret : Option FieldType} {nm : String} {p : Program} {l : Launch} {e : Env} {R : Room} {s : State} {m : MethodId} {args : Array Value} {below : List Frame} {meth : Method} {c : Code}
  {T : State} {ms : List Addr} {k n : Nat} {h : Heap} {a0 : Array Value} {K N : Nat} {Q : Option Value → Heap → List Addr → Prop} {pc pc' : Nat} {Ls Ls' : Array Slot} {st : List Value} {a : Addr}
theorem own_go {cur nxt : State} (q : ∀ t, Steps p.tables e below nxt t → Steps p.tables e below cur t) (g : own_Go Z EL n0 p e below s K N Q nxt) : own_Go Z EL n0 p e below s K N Q cur := by
  obtain ⟨s₂, o, h, r⟩ := g; exact ⟨s₂, o, q _ h, r⟩
theorem own_here (w : own_Wk Z EL n0 own bytes maxL ret nm p l e R s m args below meth c T ms k n h) : At T m c below := by
  obtain ⟨-, -, -, -, -, -, locs, X, -⟩ := w; exact X.here
theorem own_dec (w : own_Wk Z EL n0 own bytes maxL ret nm p l e R s m args below meth c T ms k n h) {r : Except DecodeError (Instr × Nat)} (hd : decode bytes pc = r) : decode c.code pc = r := w.2.1 ▸ hd
theorem own_old (w : own_Wk Z EL n0 own bytes maxL ret nm p l e R s m args below meth c T ms k n h) : Old Z n0 h := by
  obtain ⟨-, -, -, -, -, -, locs, -, -, -, -, -, O, -⟩ := w; exact O
theorem own_mine (w : own_Wk Z EL n0 own bytes maxL ret nm p l e R s m args below meth c T ms k n h) : ∀ x ∈ ms, n0 ≤ x ∧ x < h.size := by
  obtain ⟨-, -, -, -, -, -, locs, -, -, -, -, -, -, -, M⟩ := w; exact M
theorem own_more (w : own_Wk Z EL n0 own bytes maxL ret nm p l e R s m args below meth c T ms k n h) {k' n' : Nat} {ms' : List Addr} (hk : k ≤ k') (hn : n ≤ n') (hm : ∀ x ∈ ms', x ∈ ms) : own_Wk Z EL n0 own bytes maxL ret nm p l e R s m args below meth c T ms' k' n' h := by
  obtain ⟨h1, h2, h3, h4, h5, h6, locs, X, h7, h8, h9, h10, h11, h12, M⟩ := w
  exact ⟨h1, h2, h3, h4, h5, h6, locs, X.more hk hn, h7, h8, h9, h10, h11, h12, fun x hx => M x (hm x hx)⟩
theorem own_enter {y : MethodName} {ws : List Jvm.Cond} {rm : Room} {as' : Array Value} {h0 : Heap} {ms0 : List Addr} (hp : plainFor y = true) (hE : EW Z a0 EL) (O : Old Z n0 h0)
    (body : ∀ p e s m below meth c T, own_Wk Z EL n0 y.cls bytes maxL ret y.name p l e rm s m as' below meth c T ms0 0 0 h0 → own_Go Z EL n0 p e below s rm.cells rm.slots Q (T.setTop (entryFrame m as' maxL))) :
    own_Ct l Z EL n0 y bytes maxL ret ws rm as' h0 ms0 Q := by
  refine MetFree.of_bodySF hp hisR ?_
  intro p e s m args below meth c s₁ Bd hml hP _
  obtain ⟨rfl, hZ, hh, hM⟩ := hP
  have e0 : s₁.heap = h0 := by rw [← hh, Bd.state]; rfl
  exact body p e s m below meth c s₁ ⟨Bd.exec, Bd.bytes, hml, Bd.returns, Bd.notSynchronized, (name_of_methodNamed Bd.named Bd.method).1, [], Stand.of_body Bd, e0, hZ, findClass_of_methodNamed Bd.named, Fr.nil n0, O, Nat.le_of_eq (by rw [hh]), hM⟩
theorem own_core (w : own_Wk Z EL n0 own bytes maxL ret nm p l e R s m args below meth c T ms k n h) {k' n' : Nat} {ws : List Addr} {F : JFrame} {P : Heap → List Addr → JFrame → Prop} (hws : ∀ x ∈ ws, x ∈ ms)
    (f : ∀ (s' : State) (locs : List Loc), Stand p l e R s' m args below meth c T locs k n → T.heap = h → Z.Warmed39 s'.vm → s'.vm.findClass own = some m.cls →
      ∃ (T' : State) (h' : Heap) (L : List Loc) (new : List Addr) (F' : JFrame), Stand p l e R s' m args below meth c T' (locs ++ L) k' n' ∧ T'.heap = h' ∧ Keep h h' ws ∧ Fr n0 L ∧ (∀ x ∈ new, h.size ≤ x ∧ x < h'.size) ∧ P h' new F' ∧ ∀ t, Steps p.tables e below (T'.setTop F') t → Steps p.tables e below (T.setTop F) t)
    (g : ∀ (T' : State) (h' : Heap) (new : List Addr) (F' : JFrame), own_Wk Z EL n0 own bytes maxL ret nm p l e R s m args below meth c T' (new ++ ms) k' n' h' → Keep h h' ws → P h' new F' → own_Go Z EL n0 p e below s K N Q (T'.setTop F')) : own_Go Z EL n0 p e below s K N Q (T.setTop F) := by
  obtain ⟨h1, h2, h3, h4, h5, h6, locs, X, eT, hZ, hown, Nf, O, hsz, M⟩ := w
  obtain ⟨T', h', L, new, F', X', e', Kp, NL, hnew, hP, st'⟩ := f s locs X eT hZ hown
  refine own_go st' (g T' h' new F' ⟨h1, h2, h3, h4, h5, h6, locs ++ L, X', e', hZ, hown, Nf.app NL, O.keep Kp (fun x hx => (M x (hws x hx)).1), Nat.le_trans hsz Kp.1, fun x hx => ?_⟩ Kp hP)
  rcases List.mem_append.mp hx with q | q
  · exact ⟨Nat.le_trans (Nat.le_trans (Nat.le_of_eq O.1.symm) O.2.1) (hnew x q).1, (hnew x q).2⟩
  · exact ⟨(M x q).1, Nat.lt_of_lt_of_le (M x q).2 Kp.1⟩
theorem own_pure (w : own_Wk Z EL n0 own bytes maxL ret nm p l e R s m args below meth c T ms k n h) {F F' : JFrame} (f : ∀ (s' : State) (locs : List Loc), Stand p l e R s' m args below meth c T locs k n → T.heap = h → Z.Warmed39 s'.vm → s'.vm.findClass own = some m.cls → ∀ t, Steps p.tables e below (T.setTop F') t → Steps p.tables e below (T.setTop F) t) (g : own_Go Z EL n0 p e below s K N Q (T.setTop F')) : own_Go Z EL n0 p e below s K N Q (T.setTop F) := by
  obtain ⟨h1, h2, h3, h4, h5, h6, locs, X, eT, hZ, hown, Nf, O, hsz, M⟩ := w
  exact own_go (f s locs X eT hZ hown) g
theorem own_retV (w : own_Wk Z EL n0 own bytes maxL ret nm p l e R s m args below meth c T ms k n h) {t : FieldType} {i : Instr} {v : Value} (hret : ret = some t) (hv : narrow t v = v)
    (hi : (i = .ireturn ∧ (t = .int ∨ t = .boolean ∨ t = .byte ∨ t = .char ∨ t = .short) ∧ ∃ z, v = .int z) ∨ (i = .lreturn ∧ t = .long ∧ ∃ z, v = .long z) ∨ (i = .dreturn ∧ t = .double ∧ ∃ z, v = .double z) ∨ (i = .freturn ∧ t = .float ∧ ∃ z, v = .float z) ∨ (i = .areturn ∧ t.isReference = true ∧ v.isRef = true))
    (hd : decode bytes pc = .ok (i, 1)) (hk : k ≤ K) (hn : n ≤ N) {ms' : List Addr} (hm : ∀ x ∈ ms', x ∈ ms) (hQ : Q (some v) h ms') : own_Go Z EL n0 p e below s K N Q (T.setTop (mkF m pc Ls (v :: st))) := by
  obtain ⟨h1, h2, h3, h4, h5, h6, locs, X, eT, hZ, hown, Nf, O, hsz, M⟩ := w
  obtain ⟨fs, hr, hrun, hended, hW, hsame⟩ := X.leave (v := some v) (fun q => by rw [h4, hret] at q; cases q) h5
  subst eT
  exact ⟨_, _, retOut X h1 (h4.trans hret) hv hi (h2 ▸ hd) hr, hrun, hended, _, locs, ms', rfl, hQ, Nf, O, fun x hx => M x (hm x hx), hsz, ⟨_, rfl⟩, hW, hsame.mono hk hn⟩
theorem own_ret0 (w : own_Wk Z EL n0 own bytes maxL ret nm p l e R s m args below meth c T ms k n h) (hret : ret = none) (hd : decode bytes pc = .ok (.return_, 1)) (hk : k ≤ K) (hn : n ≤ N) {ms' : List Addr} (hm : ∀ x ∈ ms', x ∈ ms) (hQ : Q none h ms') : own_Go Z EL n0 p e below s K N Q (T.setTop (mkF m pc Ls [])) := by
  obtain ⟨h1, h2, h3, h4, h5, h6, locs, X, eT, hZ, hown, Nf, O, hsz, M⟩ := w
  obtain ⟨fs, hr, hrun, hended, hW, hsame⟩ := X.leave (v := none) (fun _ => rfl) h5
  subst eT
  exact ⟨_, _, X.returnOut h1 (h4.trans hret) (h2 ▸ hd) hr, hrun, hended, _, locs, ms', rfl, hQ, Nf, O, fun x hx => M x (hm x hx), hsz, ⟨_, rfl⟩, hW, hsame.mono hk hn⟩
theorem own_back {y : MethodName} {bytes' : ByteArray} {maxL' : Nat} {ret' : Option FieldType} {rm' : Room} {as' : Array Value} {ms0 : List Addr} {Q' : Option Value → Heap → List Addr → Prop} {len W : Nat} {vmx : Vm}
    (ct : own_Ct l Z EL n0 y bytes' maxL' ret' [] rm' as' h ms0 Q') (hZ : Z.Warmed39 s.vm) (wc : (Jvm.Cond.code y bytes' maxL' ret').before a0 Z = true) (wz : (Jvm.Cond.initialized y.cls).before a0 Z = true) (hM : own_Mine Z EL n0 vmx h ms0) (hf : rm'.frames + 1 ≤ R.frames) (hl : W + (maxL' + 11) + rm'.locals ≤ R.locals) :
    Back l R p e below s args y len W (fun A a => a = as' ∧ A.U.heap = h ∧ A.cells + rm'.cells ≤ R.cells ∧ A.slots + rm'.slots ≤ R.slots)
      (fun A _ v B => ∃ L ms', Q' v B.U.heap ms' ∧ Fr n0 L ∧ Old Z n0 B.U.heap ∧ own_Mine Z EL n0 B.U.vm B.U.heap ms' ∧ h.size ≤ B.U.heap.size ∧ B.locs = A.locs ++ L ∧ B.cells = A.cells + rm'.cells ∧ B.slots = A.slots + rm'.slots) :=
  Back.of_free (bytes := bytes') (maxL := maxL') (ret := ret') (E := fun _ first o t L k n => k = rm'.cells ∧ n = rm'.slots ∧ ∃ v ms', o = .returned v ∧ Q' v t.heap ms' ∧ Fr n0 L ∧ Old Z n0 t.heap ∧ own_Mine Z EL n0 t.vm t.heap ms' ∧ first.heap.size ≤ t.heap.size) ct hf hl
    (fun m meth c A a Y hp => have hU : Z.Warmed39 A.U.vm := wtrans hZ Y.warmed
      ⟨by show (Jvm.Cond.and _ .tt).before a A.U = true; rw [Cond.before_and, mv hU wc]; rfl, mv hU wc, mv hU wz, hp.2.2.1, hp.2.2.2⟩)
    (fun m meth c A a g mk Y hp => ⟨hp.1, wtrans hZ Y.warmed, hp.2.1, hM⟩) (fun _ _ _ _ _ _ _ _ _ => trivial)
    (fun _ _ _ _ ⟨v, L, ms', h1, h2, h3, h4, h5, h6, h7⟩ => ⟨L, _, _, h7, rfl, rfl, v, ms', h1, h2, h3, h4, h5, h6⟩)
    (fun m meth c A a g mk v t L k n Y hp _ _ ⟨e1, e2, v', ms', e3, e4, e5, e6, e7, e8⟩ => by cases e3; subst e1 e2; exact ⟨L, ms', e4, e5, e6, e7, by rw [← hp.2.1]; exact e8, rfl, rfl, rfl⟩)
theorem own_callS (w : own_Wk Z EL n0 own bytes maxL ret nm p l e R s m args below meth c T ms k n h) {idx : Nat} {y : MethodName} {bytes' : ByteArray} {maxL' : Nat} {ret' : Option FieldType} {rm' : Room} {argsL rest : List Value} {ms0 : List Addr} {Q' : Option Value → Heap → List Addr → Prop} {ps : List FieldType} {rt : Option FieldType}
    (wl : (Jvm.Cond.methodLink own idx y).before a0 Z = true) (wt : (Jvm.Cond.static y).before a0 Z = true) (wz : (Jvm.Cond.initialized y.cls).before a0 Z = true) (wc : (Jvm.Cond.code y bytes' maxL' ret').before a0 Z = true) (hy : y.cls ≠ "java/lang/invoke/MethodHandle" ∧ y.cls ≠ "java/lang/invoke/VarHandle")
    (ct : own_Ct l Z EL n0 y bytes' maxL' ret' [] rm' argsL.toArray h ms0 Q') (hms : ∀ x ∈ ms0, x ∈ ms) (hst : st = argsL.reverse ++ rest) (hsz : Ls.size = maxL) (hpd : parseMethodDescriptor y.desc = some ⟨ps, rt⟩) (hln : argsL.length = ps.length) (hd : decode bytes pc = .ok (.invokestatic idx, 3)) (hp : pc + 3 = pc')
    (hf : rm'.frames + 1 ≤ R.frames) {W : Nat} (hW : (rest.map fun v => v.category).sum = W) (hl : W + (maxL' + 11) + rm'.locals ≤ R.locals) (hc : k + rm'.cells ≤ R.cells) (hn : n + rm'.slots ≤ R.slots)
    (g : ∀ (T' : State) (h' : Heap) (v : Option Value) (ms' : List Addr), own_Wk Z EL n0 own bytes maxL ret nm p l e R s m args below meth c T' (ms' ++ ms) (k + rm'.cells) (n + rm'.slots) h' → Q' v h' ms' → own_Go Z EL n0 p e below s K N Q (T'.setTop (mkF m pc' Ls (v.toList ++ rest)))) :
    own_Go Z EL n0 p e below s K N Q (T.setTop (mkF m pc Ls st)) := by
  subst hp hst
  obtain ⟨h1, h2, h3, h4, h5, h6, locs, X, eT, hZ, hown, Nf, O, hs0, M⟩ := w
  obtain ⟨v, _, ⟨T', L', k', n'⟩, -, X', ⟨L, ms', hQ, NL, O', M', hgr, l1, l2, l3⟩, st'⟩ := Jvm.LawKit.callS X h1 (y := y) hown (mvT hZ wl) (mvT hZ wt) (mvT hZ wz) (mvT hZ wc) hy (own_back (vmx := T.vm) (W := W) ct hZ wc wz (fun x hx => M x (hms x hx)) hf hl)
    (g := mkF m pc Ls (argsL.reverse ++ rest)) rfl (by rw [h3]; exact hsz) (argsL := argsL) (rest := rest) (lenOf hpd hln) rfl (by show 2 * 0 + _ ≤ _; rw [hW]; omega) (h2 ▸ hd) (fun _ _ => ⟨rfl, eT, hc, hn⟩)
  dsimp only [Pt.U, Pt.locs, Pt.cells, Pt.slots] at X' hQ O' M' hgr l1 l2 l3 st'
  subst l1 l2 l3
  refine own_go st' (g T' _ v ms' ⟨h1, h2, h3, h4, h5, h6, locs ++ L, X', rfl, hZ, hown, Nf.app NL, O', Nat.le_trans hs0 hgr, fun x hx => ?_⟩ hQ)
  rcases List.mem_append.mp hx with q | q
  · exact M' x q
  · exact ⟨(M x q).1, Nat.lt_of_lt_of_le (M x q).2 hgr⟩
theorem own_callI (w : own_Wk Z EL n0 own bytes maxL ret nm p l e R s m args below meth c T ms k n h) {idx : Nat} {y : MethodName} {bytes' : ByteArray} {maxL' : Nat} {rm' : Room} {argsL rest : List Value} {ms0 : List Addr} {Q' : Option Value → Heap → List Addr → Prop} {ps : List FieldType} {rt : Option FieldType}
    (hy1 : y.name = "<init>") (wl : (Jvm.Cond.methodLink own idx y).before a0 Z = true) (wt : (Jvm.Cond.instanceMethod y).before a0 Z = true) (wz : (Jvm.Cond.initialized y.cls).before a0 Z = true) (wc : (Jvm.Cond.code y bytes' maxL' none).before a0 Z = true) (hy : y.cls ≠ "java/lang/invoke/MethodHandle" ∧ y.cls ≠ "java/lang/invoke/VarHandle")
    (ct : own_Ct l Z EL n0 y bytes' maxL' none [] rm' (.ref a :: argsL).toArray h ms0 Q') (hms : ∀ x ∈ ms0, x ∈ ms) (hst : st = argsL.reverse ++ .ref a :: rest) (hsz : Ls.size = maxL) (hpd : parseMethodDescriptor y.desc = some ⟨ps, rt⟩) (hln : argsL.length = ps.length) (hd : decode bytes pc = .ok (.invokespecial idx, 3)) (hp : pc + 3 = pc')
    (hf : rm'.frames + 1 ≤ R.frames) {W : Nat} (hW : (rest.map fun v => v.category).sum = W) (hl : W + (maxL' + 11) + rm'.locals ≤ R.locals) (hc : k + rm'.cells ≤ R.cells) (hn : n + rm'.slots ≤ R.slots)
    (g : ∀ (T' : State) (h' : Heap) (v : Option Value) (ms' : List Addr), own_Wk Z EL n0 own bytes maxL ret nm p l e R s m args below meth c T' (ms' ++ ms) (k + rm'.cells) (n + rm'.slots) h' → Q' v h' ms' → own_Go Z EL n0 p e below s K N Q (T'.setTop (mkF m pc' Ls (v.toList ++ rest)))) :
    own_Go Z EL n0 p e below s K N Q (T.setTop (mkF m pc Ls st)) := by
  subst hp hst
  obtain ⟨h1, h2, h3, h4, h5, h6, locs, X, eT, hZ, hown, Nf, O, hs0, M⟩ := w
  obtain ⟨v, _, ⟨T', L', k', n'⟩, -, X', ⟨L, ms', hQ, NL, O', M', hgr, l1, l2, l3⟩, st'⟩ := X.specialBack h1 (y := y) hy1 hown (mvT hZ wl) (mvT hZ wt) (mvT hZ wc) hy (own_back (vmx := T.vm) (W := W) ct hZ wc wz (fun x hx => M x (hms x hx)) hf hl)
    (g := mkF m pc Ls (argsL.reverse ++ .ref a :: rest)) rfl (by rw [h3]; exact hsz) (Steps.refl _) (a := a) (argsL := argsL) (rest := rest) (lenOf hpd hln) rfl (by show 2 * 0 + _ ≤ _; rw [hW]; omega) (h2 ▸ hd) (fun _ _ => ⟨rfl, eT, hc, hn⟩)
  dsimp only [Pt.U, Pt.locs, Pt.cells, Pt.slots] at X' hQ O' M' hgr l1 l2 l3 st'
  subst l1 l2 l3
  refine own_go (fun _ q => st'.trans q) (g T' _ v ms' ⟨h1, h2, h3, h4, h5, h6, locs ++ L, X', rfl, hZ, hown, Nf.app NL, O', Nat.le_trans hs0 hgr, fun x hx => ?_⟩ hQ)
  rcases List.mem_append.mp hx with q | q
  · exact M' x q
  · exact ⟨(M x q).1, Nat.lt_of_lt_of_le (M x q).2 hgr⟩
theorem own_callIN (w : own_Wk Z EL n0 own bytes maxL ret nm p l e R s m args below meth c T ms k n h) {idx : Nat} {y : MethodName} {host : String} {bytes' : ByteArray} {maxL' : Nat} {rm' : Room} {argsL rest : List Value} {ms0 : List Addr} {Q' : Option Value → Heap → List Addr → Prop} {ps : List FieldType} {rt : Option FieldType}
    (hy1 : y.name = "<init>") (wl : (Jvm.Cond.methodLinkNest own idx y host).before a0 Z = true) (wt : (Jvm.Cond.instanceMethod y).before a0 Z = true) (wz : (Jvm.Cond.initialized y.cls).before a0 Z = true) (wc : (Jvm.Cond.code y bytes' maxL' none).before a0 Z = true) (hy : y.cls ≠ "java/lang/invoke/MethodHandle" ∧ y.cls ≠ "java/lang/invoke/VarHandle")
    (ct : own_Ct l Z EL n0 y bytes' maxL' none [] rm' (.ref a :: argsL).toArray h ms0 Q') (hms : ∀ x ∈ ms0, x ∈ ms) (hst : st = argsL.reverse ++ .ref a :: rest) (hsz : Ls.size = maxL) (hpd : parseMethodDescriptor y.desc = some ⟨ps, rt⟩) (hln : argsL.length = ps.length) (hd : decode bytes pc = .ok (.invokespecial idx, 3)) (hp : pc + 3 = pc')
    (hf : rm'.frames + 1 ≤ R.frames) {W : Nat} (hW : (rest.map fun v => v.category).sum = W) (hl : W + (maxL' + 11) + rm'.locals ≤ R.locals) (hc : k + rm'.cells ≤ R.cells) (hn : n + rm'.slots ≤ R.slots)
    (g : ∀ (T' : State) (h' : Heap) (v : Option Value) (ms' : List Addr), own_Wk Z EL n0 own bytes maxL ret nm p l e R s m args below meth c T' (ms' ++ ms) (k + rm'.cells) (n + rm'.slots) h' → Q' v h' ms' → own_Go Z EL n0 p e below s K N Q (T'.setTop (mkF m pc' Ls (v.toList ++ rest)))) :
    own_Go Z EL n0 p e below s K N Q (T.setTop (mkF m pc Ls st)) := by
  subst hp hst
  obtain ⟨h1, h2, h3, h4, h5, h6, locs, X, eT, hZ, hown, Nf, O, hs0, M⟩ := w
  obtain ⟨v, _, ⟨T', L', k', n'⟩, -, X', ⟨L, ms', hQ, NL, O', M', hgr, l1, l2, l3⟩, st'⟩ := X.specialBackNest h1 (y := y) hy1 hown (own_mvMN hZ wl) (mvT hZ wt) (mvT hZ wc) hy (own_back (vmx := T.vm) (W := W) ct hZ wc wz (fun x hx => M x (hms x hx)) hf hl)
    (g := mkF m pc Ls (argsL.reverse ++ .ref a :: rest)) rfl (by rw [h3]; exact hsz) (Steps.refl _) (a := a) (argsL := argsL) (rest := rest) (lenOf hpd hln) rfl (by show 2 * 0 + _ ≤ _; rw [hW]; omega) (h2 ▸ hd) (fun _ _ => ⟨rfl, eT, hc, hn⟩)
  dsimp only [Pt.U, Pt.locs, Pt.cells, Pt.slots] at X' hQ O' M' hgr l1 l2 l3 st'
  subst l1 l2 l3
  refine own_go (fun _ q => st'.trans q) (g T' _ v ms' ⟨h1, h2, h3, h4, h5, h6, locs ++ L, X', rfl, hZ, hown, Nf.app NL, O', Nat.le_trans hs0 hgr, fun x hx => ?_⟩ hQ)
  rcases List.mem_append.mp hx with q | q
  · exact M' x q
  · exact ⟨(M x q).1, Nat.lt_of_lt_of_le (M x q).2 hgr⟩
theorem own_callV (w : own_Wk Z EL n0 own bytes maxL ret nm p l e R s m args below meth c T ms k n h) {idx : Nat} {C : String} {y z : MethodName} {bytes' : ByteArray} {maxL' : Nat} {ret' : Option FieldType} {rm' : Room} {argsL rest : List Value} {ms0 : List Addr} {Q' : Option Value → Heap → List Addr → Prop} {ps : List FieldType} {rt : Option FieldType}
    (wl : (Jvm.Cond.methodLink own idx y).before a0 Z = true) (wd : (Jvm.Cond.declares y).before a0 Z = true) (hnf : ∀ s' : State, Z.Warmed39 s'.vm → NotFace s' y) (ws : (Jvm.Cond.selects C y z).before a0 Z = true) (wt : (Jvm.Cond.instanceMethod z).before a0 Z = true) (wz : (Jvm.Cond.initialized z.cls).before a0 Z = true) (wc : (Jvm.Cond.code z bytes' maxL' ret').before a0 Z = true) (hy : y.cls ≠ "java/lang/invoke/MethodHandle" ∧ y.cls ≠ "java/lang/invoke/VarHandle")
    (E : Exa Z h a C) (ct : own_Ct l Z EL n0 z bytes' maxL' ret' [] rm' (.ref a :: argsL).toArray h ms0 Q') (hms : ∀ x ∈ ms0, x ∈ ms) (hst : st = argsL.reverse ++ .ref a :: rest) (hsz : Ls.size = maxL) (hpd : parseMethodDescriptor y.desc = some ⟨ps, rt⟩) (hln : argsL.length = ps.length) (hd : decode bytes pc = .ok (.invokevirtual idx, 3)) (hp : pc + 3 = pc')
    (hf : rm'.frames + 1 ≤ R.frames) {W : Nat} (hW : (rest.map fun v => v.category).sum = W) (hl : W + (maxL' + 11) + rm'.locals ≤ R.locals) (hc : k + rm'.cells ≤ R.cells) (hn : n + rm'.slots ≤ R.slots)
    (g : ∀ (T' : State) (h' : Heap) (v : Option Value) (ms' : List Addr), own_Wk Z EL n0 own bytes maxL ret nm p l e R s m args below meth c T' (ms' ++ ms) (k + rm'.cells) (n + rm'.slots) h' → Q' v h' ms' → own_Go Z EL n0 p e below s K N Q (T'.setTop (mkF m pc' Ls (v.toList ++ rest)))) :
    own_Go Z EL n0 p e below s K N Q (T.setTop (mkF m pc Ls st)) := by
  subst hp hst
  obtain ⟨h1, h2, h3, h4, h5, h6, locs, X, eT, hZ, hown, Nf, O, hs0, M⟩ := w
  obtain ⟨cq, kq, qa, qb, qc⟩ := isOf hZ eT E
  obtain ⟨v, _, ⟨T', L', k', n'⟩, -, X', ⟨L, ms', hQ, NL, O', M', hgr, l1, l2, l3⟩, st'⟩ := X.virtualBack h1 (y := y) (z := z) hown (mvT hZ wl) (mvT hZ wd) (hnf _ hZ) (mvT hZ ws) (mvT hZ wt) hy (own_back (vmx := T.vm) (W := W) ct hZ wc wz (fun x hx => M x (hms x hx)) hf hl) qa qc
    (g := mkF m pc Ls (argsL.reverse ++ .ref a :: rest)) rfl (by rw [h3]; exact hsz) (Steps.refl _) (argsL := argsL) (rest := rest) (lenOf hpd hln) rfl (by show 2 * 0 + _ ≤ _; rw [hW]; omega) (h2 ▸ hd) (fun _ _ => ⟨rfl, eT, hc, hn⟩)
  dsimp only [Pt.U, Pt.locs, Pt.cells, Pt.slots] at X' hQ O' M' hgr l1 l2 l3 st'
  subst l1 l2 l3
  refine own_go (fun _ q => st'.trans q) (g T' _ v ms' ⟨h1, h2, h3, h4, h5, h6, locs ++ L, X', rfl, hZ, hown, Nf.app NL, O', Nat.le_trans hs0 hgr, fun x hx => ?_⟩ hQ)
  rcases List.mem_append.mp hx with q | q
  · exact M' x q
  · exact ⟨(M x q).1, Nat.lt_of_lt_of_le (M x q).2 hgr⟩
theorem own_aloadN (w : own_Wk Z EL n0 own bytes maxL ret nm p l e R s m args below meth c T ms k n h) {kk : Fin 4} {v : Value} (hd : decode bytes pc = .ok (.aload_n kk, 1)) (hl : Ls[kk.val]? = some (.val v)) (hv : v.isRef = true) (hp : pc + 1 = pc') (g : own_Go Z EL n0 p e below s K N Q (T.setTop (mkF m pc' Ls (v :: st)))) : own_Go Z EL n0 p e below s K N Q (T.setTop (mkF m pc Ls st)) := by
  subst hp; exact own_go (fun _ q => XS.aloadN (own_here w) w.1 rfl (own_dec w hd) hl hv q) g
theorem own_aload (w : own_Wk Z EL n0 own bytes maxL ret nm p l e R s m args below meth c T ms k n h) {kk : Nat} {v : Value} (hd : decode bytes pc = .ok (.aload kk, 2)) (hl : Ls[kk]? = some (.val v)) (hv : v.isRef = true) (hp : pc + 2 = pc') (g : own_Go Z EL n0 p e below s K N Q (T.setTop (mkF m pc' Ls (v :: st)))) : own_Go Z EL n0 p e below s K N Q (T.setTop (mkF m pc Ls st)) := by
  subst hp; exact own_go (fun _ q => XS.aload (own_here w) w.1 rfl (own_dec w hd) hl hv q) g
theorem own_iloadN (w : own_Wk Z EL n0 own bytes maxL ret nm p l e R s m args below meth c T ms k n h) {kk : Fin 4} {v : Int32} (hd : decode bytes pc = .ok (.iload_n kk, 1)) (hl : Ls[kk.val]? = some (.val (.int v))) (hp : pc + 1 = pc') (g : own_Go Z EL n0 p e below s K N Q (T.setTop (mkF m pc' Ls (.int v :: st)))) : own_Go Z EL n0 p e below s K N Q (T.setTop (mkF m pc Ls st)) := by
  subst hp; exact own_go (fun _ q => XS.iloadN (own_here w) w.1 rfl (own_dec w hd) hl q) g
theorem own_iload (w : own_Wk Z EL n0 own bytes maxL ret nm p l e R s m args below meth c T ms k n h) {kk : Nat} {v : Int32} (hd : decode bytes pc = .ok (.iload kk, 2)) (hl : Ls[kk]? = some (.val (.int v))) (hp : pc + 2 = pc') (g : own_Go Z EL n0 p e below s K N Q (T.setTop (mkF m pc' Ls (.int v :: st)))) : own_Go Z EL n0 p e below s K N Q (T.setTop (mkF m pc Ls st)) := by
  subst hp; exact own_go (fun _ q => XS.iload (own_here w) w.1 rfl (own_dec w hd) hl q) g
theorem own_istoreN (w : own_Wk Z EL n0 own bytes maxL ret nm p l e R s m args below meth c T ms k n h) {kk : Fin 4} {x : Int32} (hd : decode bytes pc = .ok (.istore_n kk, 1)) (hl : storeLocals Ls kk.val (.int x) = some Ls') (hp : pc + 1 = pc') (g : own_Go Z EL n0 p e below s K N Q (T.setTop (mkF m pc' Ls' st))) : own_Go Z EL n0 p e below s K N Q (T.setTop (mkF m pc Ls (.int x :: st))) := by
  subst hp; exact own_go (fun _ q => XS.istoreN (own_here w) w.1 rfl (own_dec w hd) rfl hl q) g
theorem own_istore (w : own_Wk Z EL n0 own bytes maxL ret nm p l e R s m args below meth c T ms k n h) {kk : Nat} {x : Int32} (hd : decode bytes pc = .ok (.istore kk, 2)) (hl : storeLocals Ls kk (.int x) = some Ls') (hp : pc + 2 = pc') (g : own_Go Z EL n0 p e below s K N Q (T.setTop (mkF m pc' Ls' st))) : own_Go Z EL n0 p e below s K N Q (T.setTop (mkF m pc Ls (.int x :: st))) := by
  subst hp; exact own_go (fun _ q => XS.istore (own_here w) w.1 rfl (own_dec w hd) rfl hl q) g
theorem own_lloadN (w : own_Wk Z EL n0 own bytes maxL ret nm p l e R s m args below meth c T ms k n h) {kk : Fin 4} {v : Int64} (hd : decode bytes pc = .ok (.lload_n kk, 1)) (hl : Ls[kk.val]? = some (.val (.long v))) (hp : pc + 1 = pc') (g : own_Go Z EL n0 p e below s K N Q (T.setTop (mkF m pc' Ls (.long v :: st)))) : own_Go Z EL n0 p e below s K N Q (T.setTop (mkF m pc Ls st)) := by
  subst hp; exact own_go (fun _ q => XT.lloadN (own_here w) w.1 rfl (own_dec w hd) hl q) g
theorem own_lload (w : own_Wk Z EL n0 own bytes maxL ret nm p l e R s m args below meth c T ms k n h) {kk : Nat} {v : Int64} (hd : decode bytes pc = .ok (.lload kk, 2)) (hl : Ls[kk]? = some (.val (.long v))) (hp : pc + 2 = pc') (g : own_Go Z EL n0 p e below s K N Q (T.setTop (mkF m pc' Ls (.long v :: st)))) : own_Go Z EL n0 p e below s K N Q (T.setTop (mkF m pc Ls st)) := by
  subst hp; exact own_go (fun _ q => XT.lload (own_here w) w.1 rfl (own_dec w hd) hl q) g
theorem own_lstoreN (w : own_Wk Z EL n0 own bytes maxL ret nm p l e R s m args below meth c T ms k n h) {kk : Fin 4} {x : Int64} (hd : decode bytes pc = .ok (.lstore_n kk, 1)) (hl : storeLocals Ls kk.val (.long x) = some Ls') (hp : pc + 1 = pc') (g : own_Go Z EL n0 p e below s K N Q (T.setTop (mkF m pc' Ls' st))) : own_Go Z EL n0 p e below s K N Q (T.setTop (mkF m pc Ls (.long x :: st))) := by
  subst hp; exact own_go (fun _ q => XT.lstoreN (own_here w) w.1 rfl (own_dec w hd) rfl hl q) g
theorem own_lstore (w : own_Wk Z EL n0 own bytes maxL ret nm p l e R s m args below meth c T ms k n h) {kk : Nat} {x : Int64} (hd : decode bytes pc = .ok (.lstore kk, 2)) (hl : storeLocals Ls kk (.long x) = some Ls') (hp : pc + 2 = pc') (g : own_Go Z EL n0 p e below s K N Q (T.setTop (mkF m pc' Ls' st))) : own_Go Z EL n0 p e below s K N Q (T.setTop (mkF m pc Ls (.long x :: st))) := by
  subst hp; exact own_go (fun _ q => XT.lstore (own_here w) w.1 rfl (own_dec w hd) rfl hl q) g
theorem own_astoreN (w : own_Wk Z EL n0 own bytes maxL ret nm p l e R s m args below meth c T ms k n h) {kk : Fin 4} {x : Value} (hd : decode bytes pc = .ok (.astore_n kk, 1)) (hv : x.isRef = true) (hl : storeLocals Ls kk.val x = some Ls') (hp : pc + 1 = pc') (g : own_Go Z EL n0 p e below s K N Q (T.setTop (mkF m pc' Ls' st))) : own_Go Z EL n0 p e below s K N Q (T.setTop (mkF m pc Ls (x :: st))) := by
  subst hp; exact own_go (fun _ q => XS.astoreN (own_here w) w.1 rfl (own_dec w hd) rfl hv hl q) g
theorem own_astore (w : own_Wk Z EL n0 own bytes maxL ret nm p l e R s m args below meth c T ms k n h) {kk : Nat} {x : Value} (hd : decode bytes pc = .ok (.astore kk, 2)) (hv : x.isRef = true) (hl : storeLocals Ls kk x = some Ls') (hp : pc + 2 = pc') (g : own_Go Z EL n0 p e below s K N Q (T.setTop (mkF m pc' Ls' st))) : own_Go Z EL n0 p e below s K N Q (T.setTop (mkF m pc Ls (x :: st))) := by
  subst hp; exact own_go (fun _ q => XS.astore (own_here w) w.1 rfl (own_dec w hd) rfl hv hl q) g
theorem own_iconst (w : own_Wk Z EL n0 own bytes maxL ret nm p l e R s m args below meth c T ms k n h) {i : Int} {x : Int32} (hd : decode bytes pc = .ok (.iconst i, 1)) (hi : Int32.ofInt i = x) (hp : pc + 1 = pc') (g : own_Go Z EL n0 p e below s K N Q (T.setTop (mkF m pc' Ls (.int x :: st)))) : own_Go Z EL n0 p e below s K N Q (T.setTop (mkF m pc Ls st)) := by
  subst hp hi; exact own_go (fun _ q => XS.iconst (own_here w) w.1 rfl (own_dec w hd)  q) g
theorem own_bipush (w : own_Wk Z EL n0 own bytes maxL ret nm p l e R s m args below meth c T ms k n h) {i : Int} {x : Int32} (hd : decode bytes pc = .ok (.bipush i, 2)) (hi : (Int8.ofInt i).toInt32 = x) (hp : pc + 2 = pc') (g : own_Go Z EL n0 p e below s K N Q (T.setTop (mkF m pc' Ls (.int x :: st)))) : own_Go Z EL n0 p e below s K N Q (T.setTop (mkF m pc Ls st)) := by
  subst hp hi; exact own_go (fun _ q => XS.bipush (own_here w) w.1 rfl (own_dec w hd)  q) g
theorem own_sipush (w : own_Wk Z EL n0 own bytes maxL ret nm p l e R s m args below meth c T ms k n h) {i : Int} {x : Int32} (hd : decode bytes pc = .ok (.sipush i, 3)) (hi : (Int16.ofInt i).toInt32 = x) (hp : pc + 3 = pc') (g : own_Go Z EL n0 p e below s K N Q (T.setTop (mkF m pc' Ls (.int x :: st)))) : own_Go Z EL n0 p e below s K N Q (T.setTop (mkF m pc Ls st)) := by
  subst hp hi; exact own_go (fun _ q => XS.sipush (own_here w) w.1 rfl (own_dec w hd)  q) g
theorem own_lconst (w : own_Wk Z EL n0 own bytes maxL ret nm p l e R s m args below meth c T ms k n h) {i : Fin 2} {x : Int64} (hd : decode bytes pc = .ok (.lconst i, 1)) (hi : Int64.ofNat i = x) (hp : pc + 1 = pc') (g : own_Go Z EL n0 p e below s K N Q (T.setTop (mkF m pc' Ls (.long x :: st)))) : own_Go Z EL n0 p e below s K N Q (T.setTop (mkF m pc Ls st)) := by
  subst hp hi; exact own_go (fun _ q => XT.lconst (own_here w) w.1 rfl (own_dec w hd)  q) g
theorem own_aconstNull (w : own_Wk Z EL n0 own bytes maxL ret nm p l e R s m args below meth c T ms k n h)  (hd : decode bytes pc = .ok (.aconst_null, 1))  (hp : pc + 1 = pc') (g : own_Go Z EL n0 p e below s K N Q (T.setTop (mkF m pc' Ls (.null :: st)))) : own_Go Z EL n0 p e below s K N Q (T.setTop (mkF m pc Ls st)) := by
  subst hp; exact own_go (fun _ q => XS.aconstNull (own_here w) w.1 rfl (own_dec w hd)  q) g
theorem own_iadd (w : own_Wk Z EL n0 own bytes maxL ret nm p l e R s m args below meth c T ms k n h) {x y z : Int32} (hd : decode bytes pc = .ok (.iadd, 1)) (hz : x + y = z) (hp : pc + 1 = pc') (g : own_Go Z EL n0 p e below s K N Q (T.setTop (mkF m pc' Ls (.int z :: st)))) : own_Go Z EL n0 p e below s K N Q (T.setTop (mkF m pc Ls (.int y :: .int x :: st))) := by
  subst hp hz; exact own_go (fun _ q => XS.iadd (own_here w) w.1 rfl (own_dec w hd) rfl q) g
theorem own_isub (w : own_Wk Z EL n0 own bytes maxL ret nm p l e R s m args below meth c T ms k n h) {x y z : Int32} (hd : decode bytes pc = .ok (.isub, 1)) (hz : x - y = z) (hp : pc + 1 = pc') (g : own_Go Z EL n0 p e below s K N Q (T.setTop (mkF m pc' Ls (.int z :: st)))) : own_Go Z EL n0 p e below s K N Q (T.setTop (mkF m pc Ls (.int y :: .int x :: st))) := by
  subst hp hz; exact own_go (fun _ q => XS.isub (own_here w) w.1 rfl (own_dec w hd) rfl q) g
theorem own_imul (w : own_Wk Z EL n0 own bytes maxL ret nm p l e R s m args below meth c T ms k n h) {x y z : Int32} (hd : decode bytes pc = .ok (.imul, 1)) (hz : x * y = z) (hp : pc + 1 = pc') (g : own_Go Z EL n0 p e below s K N Q (T.setTop (mkF m pc' Ls (.int z :: st)))) : own_Go Z EL n0 p e below s K N Q (T.setTop (mkF m pc Ls (.int y :: .int x :: st))) := by
  subst hp hz; exact own_go (fun _ q => XS.imul (own_here w) w.1 rfl (own_dec w hd) rfl q) g
theorem own_iand (w : own_Wk Z EL n0 own bytes maxL ret nm p l e R s m args below meth c T ms k n h) {x y z : Int32} (hd : decode bytes pc = .ok (.iand, 1)) (hz : x &&& y = z) (hp : pc + 1 = pc') (g : own_Go Z EL n0 p e below s K N Q (T.setTop (mkF m pc' Ls (.int z :: st)))) : own_Go Z EL n0 p e below s K N Q (T.setTop (mkF m pc Ls (.int y :: .int x :: st))) := by
  subst hp hz; exact own_go (fun _ q => XS.iand (own_here w) w.1 rfl (own_dec w hd) rfl q) g
theorem own_ior (w : own_Wk Z EL n0 own bytes maxL ret nm p l e R s m args below meth c T ms k n h) {x y z : Int32} (hd : decode bytes pc = .ok (.ior, 1)) (hz : x ||| y = z) (hp : pc + 1 = pc') (g : own_Go Z EL n0 p e below s K N Q (T.setTop (mkF m pc' Ls (.int z :: st)))) : own_Go Z EL n0 p e below s K N Q (T.setTop (mkF m pc Ls (.int y :: .int x :: st))) := by
  subst hp hz; exact own_go (fun _ q => XT.ior (own_here w) w.1 rfl (own_dec w hd) rfl q) g
theorem own_ixor (w : own_Wk Z EL n0 own bytes maxL ret nm p l e R s m args below meth c T ms k n h) {x y z : Int32} (hd : decode bytes pc = .ok (.ixor, 1)) (hz : x ^^^ y = z) (hp : pc + 1 = pc') (g : own_Go Z EL n0 p e below s K N Q (T.setTop (mkF m pc' Ls (.int z :: st)))) : own_Go Z EL n0 p e below s K N Q (T.setTop (mkF m pc Ls (.int y :: .int x :: st))) := by
  subst hp hz; exact own_go (fun _ q => XT.ixor (own_here w) w.1 rfl (own_dec w hd) rfl q) g
theorem own_ishl (w : own_Wk Z EL n0 own bytes maxL ret nm p l e R s m args below meth c T ms k n h) {x y z : Int32} (hd : decode bytes pc = .ok (.ishl, 1)) (hz : x <<< (y &&& 31) = z) (hp : pc + 1 = pc') (g : own_Go Z EL n0 p e below s K N Q (T.setTop (mkF m pc' Ls (.int z :: st)))) : own_Go Z EL n0 p e below s K N Q (T.setTop (mkF m pc Ls (.int y :: .int x :: st))) := by
  subst hp hz; exact own_go (fun _ q => XT.ishl (own_here w) w.1 rfl (own_dec w hd) rfl q) g
theorem own_ishr (w : own_Wk Z EL n0 own bytes maxL ret nm p l e R s m args below meth c T ms k n h) {x y z : Int32} (hd : decode bytes pc = .ok (.ishr, 1)) (hz : x >>> (y &&& 31) = z) (hp : pc + 1 = pc') (g : own_Go Z EL n0 p e below s K N Q (T.setTop (mkF m pc' Ls (.int z :: st)))) : own_Go Z EL n0 p e below s K N Q (T.setTop (mkF m pc Ls (.int y :: .int x :: st))) := by
  subst hp hz; exact own_go (fun _ q => XT.ishr (own_here w) w.1 rfl (own_dec w hd) rfl q) g
theorem own_iushr (w : own_Wk Z EL n0 own bytes maxL ret nm p l e R s m args below meth c T ms k n h) {x y z : Int32} (hd : decode bytes pc = .ok (.iushr, 1)) (hz : XT.ushr x y = z) (hp : pc + 1 = pc') (g : own_Go Z EL n0 p e below s K N Q (T.setTop (mkF m pc' Ls (.int z :: st)))) : own_Go Z EL n0 p e below s K N Q (T.setTop (mkF m pc Ls (.int y :: .int x :: st))) := by
  subst hp hz; exact own_go (fun _ q => XT.iushr (own_here w) w.1 rfl (own_dec w hd) rfl q) g
theorem own_idiv (w : own_Wk Z EL n0 own bytes maxL ret nm p l e R s m args below meth c T ms k n h) {x y z : Int32} (hd : decode bytes pc = .ok (.idiv, 1)) (hy : y ≠ 0) (hz : x / y = z) (hp : pc + 1 = pc') (g : own_Go Z EL n0 p e below s K N Q (T.setTop (mkF m pc' Ls (.int z :: st)))) : own_Go Z EL n0 p e below s K N Q (T.setTop (mkF m pc Ls (.int y :: .int x :: st))) := by
  subst hp hz; exact own_go (fun _ q => XS.idiv (own_here w) w.1 rfl (own_dec w hd) rfl hy q) g
theorem own_irem (w : own_Wk Z EL n0 own bytes maxL ret nm p l e R s m args below meth c T ms k n h) {x y z : Int32} (hd : decode bytes pc = .ok (.irem, 1)) (hy : y ≠ 0) (hz : x - (x / y) * y = z) (hp : pc + 1 = pc') (g : own_Go Z EL n0 p e below s K N Q (T.setTop (mkF m pc' Ls (.int z :: st)))) : own_Go Z EL n0 p e below s K N Q (T.setTop (mkF m pc Ls (.int y :: .int x :: st))) := by
  subst hp hz; exact own_go (fun _ q => XS.irem (own_here w) w.1 rfl (own_dec w hd) rfl hy q) g
theorem own_ineg (w : own_Wk Z EL n0 own bytes maxL ret nm p l e R s m args below meth c T ms k n h) {x z : Int32} (hd : decode bytes pc = .ok (.ineg, 1)) (hz : -x = z) (hp : pc + 1 = pc') (g : own_Go Z EL n0 p e below s K N Q (T.setTop (mkF m pc' Ls (.int z :: st)))) : own_Go Z EL n0 p e below s K N Q (T.setTop (mkF m pc Ls (.int x :: st))) := by
  subst hp hz; exact own_go (fun _ q => XS.ineg (own_here w) w.1 rfl (own_dec w hd) rfl q) g
theorem own_ladd (w : own_Wk Z EL n0 own bytes maxL ret nm p l e R s m args below meth c T ms k n h) {x y z : Int64} (hd : decode bytes pc = .ok (.ladd, 1)) (hz : x + y = z) (hp : pc + 1 = pc') (g : own_Go Z EL n0 p e below s K N Q (T.setTop (mkF m pc' Ls (.long z :: st)))) : own_Go Z EL n0 p e below s K N Q (T.setTop (mkF m pc Ls (.long y :: .long x :: st))) := by
  subst hp hz; exact own_go (fun _ q => XT.ladd (own_here w) w.1 rfl (own_dec w hd) rfl q) g
theorem own_lsub (w : own_Wk Z EL n0 own bytes maxL ret nm p l e R s m args below meth c T ms k n h) {x y z : Int64} (hd : decode bytes pc = .ok (.lsub, 1)) (hz : x - y = z) (hp : pc + 1 = pc') (g : own_Go Z EL n0 p e below s K N Q (T.setTop (mkF m pc' Ls (.long z :: st)))) : own_Go Z EL n0 p e below s K N Q (T.setTop (mkF m pc Ls (.long y :: .long x :: st))) := by
  subst hp hz; exact own_go (fun _ q => XT.lsub (own_here w) w.1 rfl (own_dec w hd) rfl q) g
theorem own_lmul (w : own_Wk Z EL n0 own bytes maxL ret nm p l e R s m args below meth c T ms k n h) {x y z : Int64} (hd : decode bytes pc = .ok (.lmul, 1)) (hz : x * y = z) (hp : pc + 1 = pc') (g : own_Go Z EL n0 p e below s K N Q (T.setTop (mkF m pc' Ls (.long z :: st)))) : own_Go Z EL n0 p e below s K N Q (T.setTop (mkF m pc Ls (.long y :: .long x :: st))) := by
  subst hp hz; exact own_go (fun _ q => XT.lmul (own_here w) w.1 rfl (own_dec w hd) rfl q) g
theorem own_land (w : own_Wk Z EL n0 own bytes maxL ret nm p l e R s m args below meth c T ms k n h) {x y z : Int64} (hd : decode bytes pc = .ok (.land, 1)) (hz : x &&& y = z) (hp : pc + 1 = pc') (g : own_Go Z EL n0 p e below s K N Q (T.setTop (mkF m pc' Ls (.long z :: st)))) : own_Go Z EL n0 p e below s K N Q (T.setTop (mkF m pc Ls (.long y :: .long x :: st))) := by
  subst hp hz; exact own_go (fun _ q => XT.land (own_here w) w.1 rfl (own_dec w hd) rfl q) g
theorem own_lor (w : own_Wk Z EL n0 own bytes maxL ret nm p l e R s m args below meth c T ms k n h) {x y z : Int64} (hd : decode bytes pc = .ok (.lor, 1)) (hz : x ||| y = z) (hp : pc + 1 = pc') (g : own_Go Z EL n0 p e below s K N Q (T.setTop (mkF m pc' Ls (.long z :: st)))) : own_Go Z EL n0 p e below s K N Q (T.setTop (mkF m pc Ls (.long y :: .long x :: st))) := by
  subst hp hz; exact own_go (fun _ q => XT.lor (own_here w) w.1 rfl (own_dec w hd) rfl q) g
theorem own_lxor (w : own_Wk Z EL n0 own bytes maxL ret nm p l e R s m args below meth c T ms k n h) {x y z : Int64} (hd : decode bytes pc = .ok (.lxor, 1)) (hz : x ^^^ y = z) (hp : pc + 1 = pc') (g : own_Go Z EL n0 p e below s K N Q (T.setTop (mkF m pc' Ls (.long z :: st)))) : own_Go Z EL n0 p e below s K N Q (T.setTop (mkF m pc Ls (.long y :: .long x :: st))) := by
  subst hp hz; exact own_go (fun _ q => XT.lxor (own_here w) w.1 rfl (own_dec w hd) rfl q) g
theorem own_lshl (w : own_Wk Z EL n0 own bytes maxL ret nm p l e R s m args below meth c T ms k n h) {x z : Int64} {y : Int32} (hd : decode bytes pc = .ok (.lshl, 1)) (hz : x <<< (y.toInt64 &&& 63) = z) (hp : pc + 1 = pc') (g : own_Go Z EL n0 p e below s K N Q (T.setTop (mkF m pc' Ls (.long z :: st)))) : own_Go Z EL n0 p e below s K N Q (T.setTop (mkF m pc Ls (.int y :: .long x :: st))) := by
  subst hp hz; exact own_go (fun _ q => XT.lshl (own_here w) w.1 rfl (own_dec w hd) rfl q) g
theorem own_lshr (w : own_Wk Z EL n0 own bytes maxL ret nm p l e R s m args below meth c T ms k n h) {x z : Int64} {y : Int32} (hd : decode bytes pc = .ok (.lshr, 1)) (hz : x >>> (y.toInt64 &&& 63) = z) (hp : pc + 1 = pc') (g : own_Go Z EL n0 p e below s K N Q (T.setTop (mkF m pc' Ls (.long z :: st)))) : own_Go Z EL n0 p e below s K N Q (T.setTop (mkF m pc Ls (.int y :: .long x :: st))) := by
  subst hp hz; exact own_go (fun _ q => XT.lshr (own_here w) w.1 rfl (own_dec w hd) rfl q) g
theorem own_lushr (w : own_Wk Z EL n0 own bytes maxL ret nm p l e R s m args below meth c T ms k n h) {x z : Int64} {y : Int32} (hd : decode bytes pc = .ok (.lushr, 1)) (hz : XT.ushrL x y = z) (hp : pc + 1 = pc') (g : own_Go Z EL n0 p e below s K N Q (T.setTop (mkF m pc' Ls (.long z :: st)))) : own_Go Z EL n0 p e below s K N Q (T.setTop (mkF m pc Ls (.int y :: .long x :: st))) := by
  subst hp hz; exact own_go (fun _ q => XT.lushr (own_here w) w.1 rfl (own_dec w hd) rfl q) g
theorem own_lneg (w : own_Wk Z EL n0 own bytes maxL ret nm p l e R s m args below meth c T ms k n h) {x z : Int64} (hd : decode bytes pc = .ok (.lneg, 1)) (hz : -x = z) (hp : pc + 1 = pc') (g : own_Go Z EL n0 p e below s K N Q (T.setTop (mkF m pc' Ls (.long z :: st)))) : own_Go Z EL n0 p e below s K N Q (T.setTop (mkF m pc Ls (.long x :: st))) := by
  subst hp hz; exact own_go (fun _ q => XT.lneg (own_here w) w.1 rfl (own_dec w hd) rfl q) g
theorem own_lcmp (w : own_Wk Z EL n0 own bytes maxL ret nm p l e R s m args below meth c T ms k n h) {x y : Int64} {z : Int32} (hd : decode bytes pc = .ok (.lcmp, 1)) (hz : XT.cmpL x y = z) (hp : pc + 1 = pc') (g : own_Go Z EL n0 p e below s K N Q (T.setTop (mkF m pc' Ls (.int z :: st)))) : own_Go Z EL n0 p e below s K N Q (T.setTop (mkF m pc Ls (.long y :: .long x :: st))) := by
  subst hp hz; exact own_go (fun _ q => XT.lcmp (own_here w) w.1 rfl (own_dec w hd) rfl q) g
theorem own_i2l (w : own_Wk Z EL n0 own bytes maxL ret nm p l e R s m args below meth c T ms k n h) {x : Int32} {z : Int64} (hd : decode bytes pc = .ok (.i2l, 1)) (hz : x.toInt64 = z) (hp : pc + 1 = pc') (g : own_Go Z EL n0 p e below s K N Q (T.setTop (mkF m pc' Ls (.long z :: st)))) : own_Go Z EL n0 p e below s K N Q (T.setTop (mkF m pc Ls (.int x :: st))) := by
  subst hp hz; exact own_go (fun _ q => XT.i2l (own_here w) w.1 rfl (own_dec w hd) rfl q) g
theorem own_l2i (w : own_Wk Z EL n0 own bytes maxL ret nm p l e R s m args below meth c T ms k n h) {x : Int64} {z : Int32} (hd : decode bytes pc = .ok (.l2i, 1)) (hz : x.toInt32 = z) (hp : pc + 1 = pc') (g : own_Go Z EL n0 p e below s K N Q (T.setTop (mkF m pc' Ls (.int z :: st)))) : own_Go Z EL n0 p e below s K N Q (T.setTop (mkF m pc Ls (.long x :: st))) := by
  subst hp hz; exact own_go (fun _ q => XT.l2i (own_here w) w.1 rfl (own_dec w hd) rfl q) g
theorem own_i2b (w : own_Wk Z EL n0 own bytes maxL ret nm p l e R s m args below meth c T ms k n h) {x z : Int32} (hd : decode bytes pc = .ok (.i2b, 1)) (hz : x.toInt8.toInt32 = z) (hp : pc + 1 = pc') (g : own_Go Z EL n0 p e below s K N Q (T.setTop (mkF m pc' Ls (.int z :: st)))) : own_Go Z EL n0 p e below s K N Q (T.setTop (mkF m pc Ls (.int x :: st))) := by
  subst hp hz; exact own_go (fun _ q => XT.i2b (own_here w) w.1 rfl (own_dec w hd) rfl q) g
theorem own_i2c (w : own_Wk Z EL n0 own bytes maxL ret nm p l e R s m args below meth c T ms k n h) {x z : Int32} (hd : decode bytes pc = .ok (.i2c, 1)) (hz : x.toUInt32.toUInt16.toUInt32.toInt32 = z) (hp : pc + 1 = pc') (g : own_Go Z EL n0 p e below s K N Q (T.setTop (mkF m pc' Ls (.int z :: st)))) : own_Go Z EL n0 p e below s K N Q (T.setTop (mkF m pc Ls (.int x :: st))) := by
  subst hp hz; exact own_go (fun _ q => XT.i2c (own_here w) w.1 rfl (own_dec w hd) rfl q) g
theorem own_i2s (w : own_Wk Z EL n0 own bytes maxL ret nm p l e R s m args below meth c T ms k n h) {x z : Int32} (hd : decode bytes pc = .ok (.i2s, 1)) (hz : x.toInt16.toInt32 = z) (hp : pc + 1 = pc') (g : own_Go Z EL n0 p e below s K N Q (T.setTop (mkF m pc' Ls (.int z :: st)))) : own_Go Z EL n0 p e below s K N Q (T.setTop (mkF m pc Ls (.int x :: st))) := by
  subst hp hz; exact own_go (fun _ q => XT.i2s (own_here w) w.1 rfl (own_dec w hd) rfl q) g
theorem own_dup (w : own_Wk Z EL n0 own bytes maxL ret nm p l e R s m args below meth c T ms k n h) {x : Value} (hd : decode bytes pc = .ok (.dup, 1)) (hc : x.category = 1) (hp : pc + 1 = pc') (g : own_Go Z EL n0 p e below s K N Q (T.setTop (mkF m pc' Ls (x :: x :: st)))) : own_Go Z EL n0 p e below s K N Q (T.setTop (mkF m pc Ls (x :: st))) := by
  subst hp; exact own_go (fun _ q => XS.dup (own_here w) w.1 rfl (own_dec w hd) rfl hc q) g
theorem own_dupX1 (w : own_Wk Z EL n0 own bytes maxL ret nm p l e R s m args below meth c T ms k n h) {x y : Value} (hd : decode bytes pc = .ok (.dup_x1, 1)) (hc : x.category = 1) (hc' : y.category = 1) (hp : pc + 1 = pc') (g : own_Go Z EL n0 p e below s K N Q (T.setTop (mkF m pc' Ls (x :: y :: x :: st)))) : own_Go Z EL n0 p e below s K N Q (T.setTop (mkF m pc Ls (x :: y :: st))) := by
  subst hp; exact own_go (fun _ q => XT.dupX1 (own_here w) w.1 rfl (own_dec w hd) rfl hc hc' q) g
theorem own_dup2 (w : own_Wk Z EL n0 own bytes maxL ret nm p l e R s m args below meth c T ms k n h) {x y : Value} (hd : decode bytes pc = .ok (.dup2, 1)) (hc : x.category = 1) (hc' : y.category = 1) (hp : pc + 1 = pc') (g : own_Go Z EL n0 p e below s K N Q (T.setTop (mkF m pc' Ls (x :: y :: x :: y :: st)))) : own_Go Z EL n0 p e below s K N Q (T.setTop (mkF m pc Ls (x :: y :: st))) := by
  subst hp; exact own_go (fun _ q => XT.dup2 (own_here w) w.1 rfl (own_dec w hd) rfl hc hc' q) g
theorem own_dup2L (w : own_Wk Z EL n0 own bytes maxL ret nm p l e R s m args below meth c T ms k n h) {x : Int64} (hd : decode bytes pc = .ok (.dup2, 1))  (hp : pc + 1 = pc') (g : own_Go Z EL n0 p e below s K N Q (T.setTop (mkF m pc' Ls (.long x :: .long x :: st)))) : own_Go Z EL n0 p e below s K N Q (T.setTop (mkF m pc Ls (.long x :: st))) := by
  subst hp; exact own_go (fun _ q => XT.dup2L (own_here w) w.1 rfl (own_dec w hd) rfl q) g
theorem own_pop (w : own_Wk Z EL n0 own bytes maxL ret nm p l e R s m args below meth c T ms k n h) {x : Value} (hd : decode bytes pc = .ok (.pop, 1)) (hc : x.category = 1) (hp : pc + 1 = pc') (g : own_Go Z EL n0 p e below s K N Q (T.setTop (mkF m pc' Ls st))) : own_Go Z EL n0 p e below s K N Q (T.setTop (mkF m pc Ls (x :: st))) := by
  subst hp; exact own_go (fun _ q => XT.pop (own_here w) w.1 rfl (own_dec w hd) rfl hc q) g
theorem own_iinc (w : own_Wk Z EL n0 own bytes maxL ret nm p l e R s m args below meth c T ms k n h) {kk : Nat} {cst : Int} {x y : Int32} (hd : decode bytes pc = .ok (.iinc kk cst, 3)) (hl : Ls[kk]? = some (.val (.int x))) (hy : x + Int32.ofInt cst = y) (hl' : storeLocals Ls kk (.int y) = some Ls') (hp : pc + 3 = pc') (g : own_Go Z EL n0 p e below s K N Q (T.setTop (mkF m pc' Ls' st))) : own_Go Z EL n0 p e below s K N Q (T.setTop (mkF m pc Ls st)) := by
  subst hp hy; exact own_go (fun _ q => XS.iinc (own_here w) w.1 rfl (own_dec w hd) hl hl' q) g
theorem own_goto (w : own_Wk Z EL n0 own bytes maxL ret nm p l e R s m args below meth c T ms k n h) {o : Int} (hd : decode bytes pc = .ok (.goto o, 3)) (ho : 0 ≤ (pc : Int) + o) (hp : ((pc : Int) + o).toNat = pc') (g : own_Go Z EL n0 p e below s K N Q (T.setTop (mkF m pc' Ls st))) : own_Go Z EL n0 p e below s K N Q (T.setTop (mkF m pc Ls st)) := own_go (fun _ q => XS.goto (own_here w) w.1 rfl (pc0 := pc) rfl (own_dec w hd) ho hp q) g
def own_cT (cd : ClassFile.Cond) (x y : Int32) : Prop := match cd with | .eq => x = y | .ne => ¬ x = y | .lt => x < y | .ge => ¬ x < y | .gt => y < x | .le => ¬ y < x
def own_cF (cd : ClassFile.Cond) (x y : Int32) : Prop := match cd with | .eq => ¬ x = y | .ne => x = y | .lt => ¬ x < y | .ge => x < y | .gt => ¬ y < x | .le => y < x
theorem own_cond (cd : ClassFile.Cond) (x y : Int32) : (own_cT cd x y ∧ if_icmp.holds cd x y = true) ∨ (own_cF cd x y ∧ if_icmp.holds cd x y = false) := by
  cases cd
  · by_cases q : x = y
    · exact Or.inl ⟨q, (teq q).1⟩
    · exact Or.inr ⟨q, (feq q).1⟩
  · by_cases q : x = y
    · exact Or.inr ⟨q, (teq q).2⟩
    · exact Or.inl ⟨q, (feq q).2⟩
  · by_cases q : x < y
    · exact Or.inl ⟨q, (tlt q).1⟩
    · exact Or.inr ⟨q, (flt q).1⟩
  · by_cases q : x < y
    · exact Or.inr ⟨q, (tlt q).2.1⟩
    · exact Or.inl ⟨q, (flt q).2.1⟩
  · by_cases q : y < x
    · exact Or.inl ⟨q, (tlt q).2.2.1⟩
    · exact Or.inr ⟨q, (flt q).2.2.1⟩
  · by_cases q : y < x
    · exact Or.inr ⟨q, (tlt q).2.2.2⟩
    · exact Or.inl ⟨q, (flt q).2.2.2⟩
theorem own_icmp (w : own_Wk Z EL n0 own bytes maxL ret nm p l e R s m args below meth c T ms k n h) {cd : ClassFile.Cond} {x y : Int32} {o : Int} {pcY : Nat} (hd : decode bytes pc = .ok (.if_icmp cd o, 3)) (hp : pc + 3 = pc') (ho : 0 ≤ (pc : Int) + o) (hq : ((pc : Int) + o).toNat = pcY) (gT : own_cT cd x y → own_Go Z EL n0 p e below s K N Q (T.setTop (mkF m pcY Ls st))) (gF : own_cF cd x y → own_Go Z EL n0 p e below s K N Q (T.setTop (mkF m pc' Ls st))) : own_Go Z EL n0 p e below s K N Q (T.setTop (mkF m pc Ls (.int y :: .int x :: st))) := by
  subst hp
  rcases own_cond cd x y with ⟨q, r⟩ | ⟨q, r⟩
  · exact own_go (fun _ z => XS.icmpYes (own_here w) w.1 rfl (pc0 := pc) rfl (own_dec w hd) rfl r ho hq z) (gT q)
  · exact own_go (fun _ z => XS.icmpNo (own_here w) w.1 rfl (own_dec w hd) rfl r z) (gF q)
theorem own_if (w : own_Wk Z EL n0 own bytes maxL ret nm p l e R s m args below meth c T ms k n h) {cd : ClassFile.Cond} {x : Int32} {o : Int} {pcY : Nat} (hd : decode bytes pc = .ok (.ifCond cd o, 3)) (hp : pc + 3 = pc') (ho : 0 ≤ (pc : Int) + o) (hq : ((pc : Int) + o).toNat = pcY) (gT : own_cT cd x 0 → own_Go Z EL n0 p e below s K N Q (T.setTop (mkF m pcY Ls st))) (gF : own_cF cd x 0 → own_Go Z EL n0 p e below s K N Q (T.setTop (mkF m pc' Ls st))) : own_Go Z EL n0 p e below s K N Q (T.setTop (mkF m pc Ls (.int x :: st))) := by
  subst hp
  rcases own_cond cd x 0 with ⟨q, r⟩ | ⟨q, r⟩
  · exact own_go (fun _ z => XS.ifYes (own_here w) w.1 rfl (pc0 := pc) rfl (own_dec w hd) rfl ((if0 cd x).trans r) ho hq z) (gT q)
  · exact own_go (fun _ z => XS.ifNo (own_here w) w.1 rfl (own_dec w hd) rfl ((if0 cd x).trans r) z) (gF q)
theorem own_ifnullY (w : own_Wk Z EL n0 own bytes maxL ret nm p l e R s m args below meth c T ms k n h) {o : Int} (hd : decode bytes pc = .ok (.ifnull o, 3)) (ho : 0 ≤ (pc : Int) + o) (hp : ((pc : Int) + o).toNat = pc') (g : own_Go Z EL n0 p e below s K N Q (T.setTop (mkF m pc' Ls st))) : own_Go Z EL n0 p e below s K N Q (T.setTop (mkF m pc Ls (.null :: st))) := own_go (fun _ q => XS.ifnullYes (own_here w) w.1 rfl (pc0 := pc) rfl (own_dec w hd) rfl ho hp q) g
theorem own_ifnullN (w : own_Wk Z EL n0 own bytes maxL ret nm p l e R s m args below meth c T ms k n h) {o : Int} (hd : decode bytes pc = .ok (.ifnull o, 3)) (hp : pc + 3 = pc') (g : own_Go Z EL n0 p e below s K N Q (T.setTop (mkF m pc' Ls st))) : own_Go Z EL n0 p e below s K N Q (T.setTop (mkF m pc Ls (.ref a :: st))) := by
  subst hp; exact own_go (fun _ q => XS.ifnullNo (own_here w) w.1 rfl (own_dec w hd) rfl q) g
theorem own_ifnonnullY (w : own_Wk Z EL n0 own bytes maxL ret nm p l e R s m args below meth c T ms k n h) {o : Int} (hd : decode bytes pc = .ok (.ifnonnull o, 3)) (ho : 0 ≤ (pc : Int) + o) (hp : ((pc : Int) + o).toNat = pc') (g : own_Go Z EL n0 p e below s K N Q (T.setTop (mkF m pc' Ls st))) : own_Go Z EL n0 p e below s K N Q (T.setTop (mkF m pc Ls (.ref a :: st))) := own_go (fun _ q => XT.ifnonnullYes (own_here w) w.1 rfl (pc0 := pc) rfl (own_dec w hd) rfl ho hp q) g
theorem own_ifnonnullN (w : own_Wk Z EL n0 own bytes maxL ret nm p l e R s m args below meth c T ms k n h) {o : Int} (hd : decode bytes pc = .ok (.ifnonnull o, 3)) (hp : pc + 3 = pc') (g : own_Go Z EL n0 p e below s K N Q (T.setTop (mkF m pc' Ls st))) : own_Go Z EL n0 p e below s K N Q (T.setTop (mkF m pc Ls (.null :: st))) := by
  subst hp; exact own_go (fun _ q => XT.ifnonnullNo (own_here w) w.1 rfl (own_dec w hd) rfl q) g
theorem own_same (w : own_Wk Z EL n0 own bytes maxL ret nm p l e R s m args below meth c T ms k n h) {F F' : JFrame} (f : ∀ (s' : State) (locs : List Loc), Stand p l e R s' m args below meth c T locs k n → T.heap = h → Z.Warmed39 s'.vm → s'.vm.findClass own = some m.cls → ∃ T' : State, Stand p l e R s' m args below meth c T' locs k n ∧ T'.heap = h ∧ ∀ t, Steps p.tables e below (T'.setTop F') t → Steps p.tables e below (T.setTop F) t)
    (g : ∀ T' : State, own_Wk Z EL n0 own bytes maxL ret nm p l e R s m args below meth c T' ms k n h → own_Go Z EL n0 p e below s K N Q (T'.setTop F')) : own_Go Z EL n0 p e below s K N Q (T.setTop F) := by
  refine own_core w (k' := k) (n' := n) (ws := []) (P := fun h' new F'' => h' = h ∧ new = [] ∧ F'' = F') all0 (fun s' locs X eT hZ hown => ?_) (fun T' h' new F'' w' _ q => ?_)
  · obtain ⟨T', X', e', st'⟩ := f s' locs X eT hZ hown
    exact ⟨T', h, [], [], _, by rw [List.append_nil]; exact X', e', Keep.refl _ _, Fr.nil _, all0, ⟨rfl, rfl, rfl⟩, st'⟩
  · obtain ⟨rfl, rfl, rfl⟩ := q; exact g T' w'
theorem own_write (w : own_Wk Z EL n0 own bytes maxL ret nm p l e R s m args below meth c T ms k n h) {F F' : JFrame} {sl : Nat} {v : Value} (hm : a ∈ ms) (f : ∀ (s' : State) (locs : List Loc), Stand p l e R s' m args below meth c T locs k n → T.heap = h → Z.Warmed39 s'.vm → s'.vm.findClass own = some m.cls → ∃ (T' : State) (h' : Heap), Stand p l e R s' m args below meth c T' (locs ++ [⟨a, sl⟩]) k n ∧ T'.heap = h' ∧ Wr h h' a sl v ∧ ∀ t, Steps p.tables e below (T'.setTop F') t → Steps p.tables e below (T.setTop F) t)
    (g : ∀ (T' : State) (h' : Heap), own_Wk Z EL n0 own bytes maxL ret nm p l e R s m args below meth c T' ms k n h' → Wr h h' a sl v → own_Go Z EL n0 p e below s K N Q (T'.setTop F')) : own_Go Z EL n0 p e below s K N Q (T.setTop F) := by
  refine own_core w (k' := k) (n' := n) (ws := [a]) (P := fun h' new F'' => Wr h h' a sl v ∧ new = [] ∧ F'' = F') (allS hm all0) (fun s' locs X eT hZ hown => ?_) (fun T' h' new F'' w' _ q => ?_)
  · obtain ⟨T', h', X', e', W', st'⟩ := f s' locs X eT hZ hown
    exact ⟨T', h', [⟨a, sl⟩], [], _, X', e', Keep.of_wr W', (fun y hy => by cases List.mem_singleton.mp hy; exact (own_mine w a hm).1), all0, ⟨W', rfl, rfl⟩, st'⟩
  · obtain ⟨q, rfl, rfl⟩ := q; exact g T' h' w' q
theorem own_made (w : own_Wk Z EL n0 own bytes maxL ret nm p l e R s m args below meth c T ms k n h) {F : JFrame} {F' : Addr → JFrame} {k' n' : Nat} {P : Addr → Heap → Prop} (f : ∀ (s' : State) (locs : List Loc), Stand p l e R s' m args below meth c T locs k n → T.heap = h → Z.Warmed39 s'.vm → s'.vm.findClass own = some m.cls → ∃ (T' : State) (h' : Heap), Stand p l e R s' m args below meth c T' locs k' n' ∧ T'.heap = h' ∧ Ext h h' ∧ h.size < h'.size ∧ P h.size h' ∧ ∀ t, Steps p.tables e below (T'.setTop (F' h.size)) t → Steps p.tables e below (T.setTop F) t)
    (g : ∀ (T' : State) (h' : Heap) (a : Addr), h.size = a → own_Wk Z EL n0 own bytes maxL ret nm p l e R s m args below meth c T' (a :: ms) k' n' h' → Ext h h' → P a h' → own_Go Z EL n0 p e below s K N Q (T'.setTop (F' a))) : own_Go Z EL n0 p e below s K N Q (T.setTop F) := by
  refine own_core w (k' := k') (n' := n') (ws := []) (P := fun h' new F'' => Ext h h' ∧ P h.size h' ∧ new = [h.size] ∧ F'' = F' h.size) all0 (fun s' locs X eT hZ hown => ?_) (fun T' h' new F'' w' _ q => ?_)
  · obtain ⟨T', h', X', e', E', hlt, hP, st'⟩ := f s' locs X eT hZ hown
    exact ⟨T', h', [], [h.size], _, by rw [List.append_nil]; exact X', e', (Keep.refl _ _).ext E', Fr.nil _, allS ⟨Nat.le_refl _, hlt⟩ all0, ⟨E', hP, rfl, rfl⟩, st'⟩
  · obtain ⟨q1, q2, rfl, rfl⟩ := q; exact g T' h' _ rfl w' q1 q2
theorem own_getF (w : own_Wk Z EL n0 own bytes maxL ret nm p l e R s m args below meth c T ms k n h) {idx : Nat} {R0 O fn fd host : String} {v : Value} (wl : (Jvm.Cond.fieldLink own idx R0 fn fd).before a0 Z = true ∨ (Jvm.Cond.fieldLinkNest own idx R0 fn fd host).before a0 Z = true) (via : Via Z R0 O fn fd) (F : Fld Z h a O fn fd v) (hd : decode bytes pc = .ok (.getfield idx, 3)) (hp : pc + 3 = pc')
    (g : ∀ T' : State, own_Wk Z EL n0 own bytes maxL ret nm p l e R s m args below meth c T' ms k n h → own_Go Z EL n0 p e below s K N Q (T'.setTop (mkF m pc' Ls (v :: st)))) : own_Go Z EL n0 p e below s K N Q (T.setTop (mkF m pc Ls (.ref a :: st))) := by
  subst hp; exact own_same w (fun s' locs X eT hZ hown => getF X w.1 hZ hown wl via eT F (g := mkF m pc Ls (.ref a :: st)) rfl rfl (own_dec w hd)) g
theorem own_getS (w : own_Wk Z EL n0 own bytes maxL ret nm p l e R s m args below meth c T ms k n h) {idx : Nat} {R0 O fn fd host : String} {v : Value} (wl : (Jvm.Cond.fieldLink own idx R0 fn fd).before a0 Z = true ∨ (Jvm.Cond.fieldLinkNest own idx R0 fn fd host).before a0 Z = true) (via : Via Z R0 O fn fd) (F : Sta Z h O fn fd v) (hd : decode bytes pc = .ok (.getstatic idx, 3)) (hp : pc + 3 = pc')
    (g : ∀ T' : State, own_Wk Z EL n0 own bytes maxL ret nm p l e R s m args below meth c T' ms k n h → own_Go Z EL n0 p e below s K N Q (T'.setTop (mkF m pc' Ls (v :: st)))) : own_Go Z EL n0 p e below s K N Q (T.setTop (mkF m pc Ls st)) := by
  subst hp; exact own_same w (fun s' locs X eT hZ hown => getS2 X w.1 hZ hown wl via eT F (g := mkF m pc Ls st) rfl (own_dec w hd)) g
theorem own_putF (w : own_Wk Z EL n0 own bytes maxL ret nm p l e R s m args below meth c T ms k n h) {idx kk : Nat} {R0 O fn fd host C : String} {v ov : Value} {ty : FieldType} (wl : (Jvm.Cond.fieldLink own idx R0 fn fd).before a0 Z = true ∨ (Jvm.Cond.fieldLinkNest own idx R0 fn fd host).before a0 Z = true) (via : Via Z R0 O fn fd) (hm : a ∈ ms) (F : Fld Z h a O fn fd ov) (E : Exa Z h a C) (L : (Jvm.Cond.lays C O fn fd).before a0 Z = true ∨ ((Jvm.Cond.laysFinal C O fn fd).before a0 Z = true ∧ own = O ∧ nm = "<init>")) (wi : (Jvm.Cond.instantiable C kk).before a0 Z = true)
    (hty : parseFieldDescriptor fd = some ty) (hn : narrow ty v = v) (hf : fits ty v = true) (hd : decode bytes pc = .ok (.putfield idx, 3)) (hp : pc + 3 = pc')
    (g : ∀ (T' : State) (h' : Heap), own_Wk Z EL n0 own bytes maxL ret nm p l e R s m args below meth c T' ms k n h' → Wr h h' a (RoadKit.slotOf Z O fn fd) v → own_Go Z EL n0 p e below s K N Q (T'.setTop (mkF m pc' Ls st))) : own_Go Z EL n0 p e below s K N Q (T.setTop (mkF m pc Ls (v :: .ref a :: st))) := by
  subst hp; exact own_write w hm (fun s' locs X eT hZ hown => putF X w.1 hZ hown wl via eT F E (L.imp id fun q => ⟨q.1, q.2.1, w.2.2.2.2.2.1.trans q.2.2⟩) wi hty hn hf (g := mkF m pc Ls (v :: .ref a :: st)) rfl rfl (own_dec w hd)) g
theorem own_newO (w : own_Wk Z EL n0 own bytes maxL ret nm p l e R s m args below meth c T ms k n h) {idx nn : Nat} {C : String} (wl : (Jvm.Cond.classLink own idx C).before a0 Z = true) (wi : (Jvm.Cond.instantiable C nn).before a0 Z = true) (wz : (Jvm.Cond.initialized C).before a0 Z = true) (hd : decode bytes pc = .ok (.new idx, 3)) (hp : pc + 3 = pc') (hc : k + 1 ≤ R.cells) (hl : n + nn ≤ R.slots)
    (g : ∀ (T' : State) (h' : Heap) (a : Addr), h.size = a → own_Wk Z EL n0 own bytes maxL ret nm p l e R s m args below meth c T' (a :: ms) (k + 1) (n + nn) h' → Ext h h' → (Exa Z h' a C ∧ (∀ {O fn fd : String} {ty : FieldType}, Laid Z a0 C O fn fd → parseFieldDescriptor fd = some ty → Fld Z h' a O fn fd (defaultValue ty))) → own_Go Z EL n0 p e below s K N Q (T'.setTop (mkF m pc' Ls (.ref a :: st)))) : own_Go Z EL n0 p e below s K N Q (T.setTop (mkF m pc Ls st)) := by
  subst hp; exact own_made w (F' := fun a => mkF m (pc + 3) Ls (.ref a :: st)) (fun s' locs X eT hZ hown => by
    obtain ⟨T', h', X', e', E', A', D', -, st'⟩ := newO X w.1 hZ hown wl wi wz eT (g := mkF m pc Ls st) rfl (own_dec w hd) hc hl
    exact ⟨T', h', X', e', E', A'.lt, ⟨A', D'⟩, st'⟩) g
theorem own_newP (w : own_Wk Z EL n0 own bytes maxL ret nm p l e R s m args below meth c T ms k n h) {aty : ArrayType} {z : Int32} {cap : Nat} {vs : List Value} {dv : Value} (wl : (Jvm.Cond.arrayClass (newarray.typeOf aty)).before a0 Z = true) (hd : decode bytes pc = .ok (.newarray aty, 2)) (hp : pc + 2 = pc') (hz : ¬ z < 0) (hcap : z.toNatClampNeg ≤ cap) (hb : cap * 8 ≤ 536870912) (hdv : defaultValue (newarray.typeOf aty) = dv) (hvs : ∀ i, vs.getD i dv = dv) (hc : k + 1 ≤ R.cells) (hl : n + cap ≤ R.slots)
    (g : ∀ (T' : State) (h' : Heap) (a : Addr), h.size = a → own_Wk Z EL n0 own bytes maxL ret nm p l e R s m args below meth c T' (a :: ms) (k + 1) (n + cap) h' → Ext h h' → (∃ kA, Arv Z h' a kA (newarray.typeOf aty) z vs dv) → own_Go Z EL n0 p e below s K N Q (T'.setTop (mkF m pc' Ls (.ref a :: st)))) : own_Go Z EL n0 p e below s K N Q (T.setTop (mkF m pc Ls (.int z :: st))) := by
  subst hp hdv; exact own_made w (F' := fun a => mkF m (pc + 2) Ls (.ref a :: st)) (fun s' locs X eT hZ hown => by
    obtain ⟨T', h', cA, X', e', E', A', st'⟩ := newP X w.1 hZ wl eT (g := mkF m pc Ls (.int z :: st)) rfl (own_dec w hd) rfl hz hcap hb hc hl
    exact ⟨T', h', X', e', E', A'.lt, ⟨cA, (Arv.new A' hz).pad fun i => by rw [hvs]; rfl⟩, st'⟩) g
theorem own_stC (w : own_Wk Z EL n0 own bytes maxL ret nm p l e R s m args below meth c T ms k n h) {j : Int32} {x : Int32} {z : Int32} {kA : ClassId} {vs vs' : List Value} {dv xv : Value} {i : Nat} (hm : a ∈ ms) (A : Arv Z h a kA .char z vs dv) (hj : ¬ j < 0 ∧ j < z) (hi : j.toNatClampNeg = i) (hil : i < vs.length) (hxv : (.int (nar .char x)) = xv) (hfv : fits .char xv = true) (hvs : vs.set i xv = vs') (hd : decode bytes pc = .ok (.castore, 1)) (hp : pc + 1 = pc')
    (g : ∀ (T' : State) (h' : Heap), own_Wk Z EL n0 own bytes maxL ret nm p l e R s m args below meth c T' ms k n h' → Wr h h' a j.toNatClampNeg xv → Arv Z h' a kA .char z vs' dv → own_Go Z EL n0 p e below s K N Q (T'.setTop (mkF m pc' Ls st))) : own_Go Z EL n0 p e below s K N Q (T.setTop (mkF m pc Ls (.int x :: .int j :: .ref a :: st))) := by
  subst hp hvs hxv
  obtain ⟨cl, Ar, c1, S, M, H, G⟩ := A
  exact own_write w hm (fun s' locs X eT hZ hown => stC X w.1 hZ eT Ar (inb_of S hj) (g := mkF m pc Ls (.int x :: .int j :: .ref a :: st)) rfl rfl (own_dec w hd)) (fun T' h' w' W => g T' h' w' W (Arv.set Ar c1 S M H G hfv W i hi hil))
theorem own_stB (w : own_Wk Z EL n0 own bytes maxL ret nm p l e R s m args below meth c T ms k n h) {j : Int32} {x : Int32} {z : Int32} {kA : ClassId} {vs vs' : List Value} {dv xv : Value} {i : Nat} (hm : a ∈ ms) (A : Arv Z h a kA .byte z vs dv) (hj : ¬ j < 0 ∧ j < z) (hi : j.toNatClampNeg = i) (hil : i < vs.length) (hxv : (.int x.toInt8.toInt32) = xv) (hfv : fits .byte xv = true) (hvs : vs.set i xv = vs') (hd : decode bytes pc = .ok (.bastore, 1)) (hp : pc + 1 = pc')
    (g : ∀ (T' : State) (h' : Heap), own_Wk Z EL n0 own bytes maxL ret nm p l e R s m args below meth c T' ms k n h' → Wr h h' a j.toNatClampNeg xv → Arv Z h' a kA .byte z vs' dv → own_Go Z EL n0 p e below s K N Q (T'.setTop (mkF m pc' Ls st))) : own_Go Z EL n0 p e below s K N Q (T.setTop (mkF m pc Ls (.int x :: .int j :: .ref a :: st))) := by
  subst hp hvs hxv
  obtain ⟨cl, Ar, c1, S, M, H, G⟩ := A
  exact own_write w hm (fun s' locs X eT hZ hown => stB X w.1 hZ eT Ar (inb_of S hj) (g := mkF m pc Ls (.int x :: .int j :: .ref a :: st)) rfl rfl (own_dec w hd)) (fun T' h' w' W => g T' h' w' W (Arv.set Ar c1 S M H G hfv W i hi hil))
theorem own_stI (w : own_Wk Z EL n0 own bytes maxL ret nm p l e R s m args below meth c T ms k n h) {j : Int32} {x : Int32} {z : Int32} {kA : ClassId} {vs vs' : List Value} {dv xv : Value} {i : Nat} (hm : a ∈ ms) (A : Arv Z h a kA .int z vs dv) (hj : ¬ j < 0 ∧ j < z) (hi : j.toNatClampNeg = i) (hil : i < vs.length) (hxv : (.int x) = xv) (hfv : fits .int xv = true) (hvs : vs.set i xv = vs') (hd : decode bytes pc = .ok (.iastore, 1)) (hp : pc + 1 = pc')
    (g : ∀ (T' : State) (h' : Heap), own_Wk Z EL n0 own bytes maxL ret nm p l e R s m args below meth c T' ms k n h' → Wr h h' a j.toNatClampNeg xv → Arv Z h' a kA .int z vs' dv → own_Go Z EL n0 p e below s K N Q (T'.setTop (mkF m pc' Ls st))) : own_Go Z EL n0 p e below s K N Q (T.setTop (mkF m pc Ls (.int x :: .int j :: .ref a :: st))) := by
  subst hp hvs hxv
  obtain ⟨cl, Ar, c1, S, M, H, G⟩ := A
  exact own_write w hm (fun s' locs X eT hZ hown => stI X w.1 hZ eT Ar (inb_of S hj) (g := mkF m pc Ls (.int x :: .int j :: .ref a :: st)) rfl rfl (own_dec w hd)) (fun T' h' w' W => g T' h' w' W (Arv.set Ar c1 S M H G hfv W i hi hil))
theorem own_stJ (w : own_Wk Z EL n0 own bytes maxL ret nm p l e R s m args below meth c T ms k n h) {j : Int32} {x : Int64} {z : Int32} {kA : ClassId} {vs vs' : List Value} {dv xv : Value} {i : Nat} (hm : a ∈ ms) (A : Arv Z h a kA .long z vs dv) (hj : ¬ j < 0 ∧ j < z) (hi : j.toNatClampNeg = i) (hil : i < vs.length) (hxv : (.long x) = xv) (hfv : fits .long xv = true) (hvs : vs.set i xv = vs') (hd : decode bytes pc = .ok (.lastore, 1)) (hp : pc + 1 = pc')
    (g : ∀ (T' : State) (h' : Heap), own_Wk Z EL n0 own bytes maxL ret nm p l e R s m args below meth c T' ms k n h' → Wr h h' a j.toNatClampNeg xv → Arv Z h' a kA .long z vs' dv → own_Go Z EL n0 p e below s K N Q (T'.setTop (mkF m pc' Ls st))) : own_Go Z EL n0 p e below s K N Q (T.setTop (mkF m pc Ls (.long x :: .int j :: .ref a :: st))) := by
  subst hp hvs hxv
  obtain ⟨cl, Ar, c1, S, M, H, G⟩ := A
  exact own_write w hm (fun s' locs X eT hZ hown => stJ X w.1 hZ eT Ar (inb_of S hj) (g := mkF m pc Ls (.long x :: .int j :: .ref a :: st)) rfl rfl (own_dec w hd)) (fun T' h' w' W => g T' h' w' W (Arv.set Ar c1 S M H G hfv W i hi hil))
theorem own_ldC (w : own_Wk Z EL n0 own bytes maxL ret nm p l e R s m args below meth c T ms k n h) {j : Int32} {v : Value} {z : Int32} {kA : ClassId} {vs : List Value} {dv : Value} (A : Arv Z h a kA .char z vs dv) (hj : ¬ j < 0 ∧ j < z) (hv : vs.getD j.toNatClampNeg dv = v) (hd : decode bytes pc = .ok (.caload, 1)) (hp : pc + 1 = pc') (g : own_Go Z EL n0 p e below s K N Q (T.setTop (mkF m pc' Ls (v :: st)))) : own_Go Z EL n0 p e below s K N Q (T.setTop (mkF m pc Ls (.int j :: .ref a :: st))) := by
  subst hp
  obtain ⟨cl, Ar, c1, S, M, H, G⟩ := A
  exact own_pure w (fun s' locs X eT hZ hown t q => X.caload w.1 (by rw [eT]; exact Ar.1) (State.isArrayOf_alike hZ.alike Ar.2.1) Ar.2.2 (inb_of S hj) (H.at (inb_of S hj) hv) (g := mkF m pc Ls (.int j :: .ref a :: st)) rfl rfl (own_dec w hd) t q) g
theorem own_ldB (w : own_Wk Z EL n0 own bytes maxL ret nm p l e R s m args below meth c T ms k n h) {j : Int32} {v : Value} {z : Int32} {kA : ClassId} {vs : List Value} {dv : Value} (A : Arv Z h a kA .byte z vs dv) (hj : ¬ j < 0 ∧ j < z) (hv : vs.getD j.toNatClampNeg dv = v) (hd : decode bytes pc = .ok (.baload, 1)) (hp : pc + 1 = pc') (g : own_Go Z EL n0 p e below s K N Q (T.setTop (mkF m pc' Ls (v :: st)))) : own_Go Z EL n0 p e below s K N Q (T.setTop (mkF m pc Ls (.int j :: .ref a :: st))) := by
  subst hp
  obtain ⟨cl, Ar, c1, S, M, H, G⟩ := A
  exact own_pure w (fun s' locs X eT hZ hown t q => X.baloadBytes w.1 (by rw [eT]; exact Ar.1) (State.isArrayOf_alike hZ.alike Ar.2.1) Ar.2.2 (inb_of S hj) (H.at (inb_of S hj) hv) (g := mkF m pc Ls (.int j :: .ref a :: st)) rfl rfl (own_dec w hd) t q) g
theorem own_ldI (w : own_Wk Z EL n0 own bytes maxL ret nm p l e R s m args below meth c T ms k n h) {j : Int32} {v : Value} {z : Int32} {kA : ClassId} {vs : List Value} {dv : Value} (A : Arv Z h a kA .int z vs dv) (hj : ¬ j < 0 ∧ j < z) (hv : vs.getD j.toNatClampNeg dv = v) (hd : decode bytes pc = .ok (.iaload, 1)) (hp : pc + 1 = pc') (g : own_Go Z EL n0 p e below s K N Q (T.setTop (mkF m pc' Ls (v :: st)))) : own_Go Z EL n0 p e below s K N Q (T.setTop (mkF m pc Ls (.int j :: .ref a :: st))) := by
  subst hp
  obtain ⟨cl, Ar, c1, S, M, H, G⟩ := A
  exact own_pure w (fun s' locs X eT hZ hown t q => X.iaload w.1 (by rw [eT]; exact Ar.1) (State.isArrayOf_alike hZ.alike Ar.2.1) Ar.2.2 (inb_of S hj) (H.at (inb_of S hj) hv) (g := mkF m pc Ls (.int j :: .ref a :: st)) rfl rfl (own_dec w hd) t q) g
theorem own_ldJ (w : own_Wk Z EL n0 own bytes maxL ret nm p l e R s m args below meth c T ms k n h) {j : Int32} {v : Value} {z : Int32} {kA : ClassId} {vs : List Value} {dv : Value} (A : Arv Z h a kA .long z vs dv) (hj : ¬ j < 0 ∧ j < z) (hv : vs.getD j.toNatClampNeg dv = v) (hd : decode bytes pc = .ok (.laload, 1)) (hp : pc + 1 = pc') (g : own_Go Z EL n0 p e below s K N Q (T.setTop (mkF m pc' Ls (v :: st)))) : own_Go Z EL n0 p e below s K N Q (T.setTop (mkF m pc Ls (.int j :: .ref a :: st))) := by
  subst hp
  obtain ⟨cl, Ar, c1, S, M, H, G⟩ := A
  exact own_pure w (fun s' locs X eT hZ hown t q => X.laload w.1 (by rw [eT]; exact Ar.1) (State.isArrayOf_alike hZ.alike Ar.2.1) Ar.2.2 (inb_of S hj) (H.at (inb_of S hj) hv) (g := mkF m pc Ls (.int j :: .ref a :: st)) rfl rfl (own_dec w hd) t q) g
theorem own_len (w : own_Wk Z EL n0 own bytes maxL ret nm p l e R s m args below meth c T ms k n h) {z : Int32} {kA : ClassId} {ty : FieldType} {vs : List Value} {dv : Value} (A : Arv Z h a kA ty z vs dv) (hd : decode bytes pc = .ok (.arraylength, 1)) (hp : pc + 1 = pc') (g : own_Go Z EL n0 p e below s K N Q (T.setTop (mkF m pc' Ls (.int z :: st)))) : own_Go Z EL n0 p e below s K N Q (T.setTop (mkF m pc Ls (.ref a :: st))) := by
  subst hp
  obtain ⟨cl, Ar, c1, S, M, H, G⟩ := A
  exact own_pure w (fun s' locs X eT hZ hown t q => X.arraylength w.1 (by rw [eT]; exact Ar.1) (State.isArrayOf_alike hZ.alike Ar.2.1) (g := mkF m pc Ls (.ref a :: st)) rfl rfl (own_dec w hd) t (by rw [len_of S M]; exact q)) g
theorem own_ldcI (w : own_Wk Z EL n0 own bytes maxL ret nm p l e R s m args below meth c T ms k n h) {idx : Nat} {x : Int32} (wl : (Jvm.Cond.constant own idx x).before a0 Z = true) (hd : decode bytes pc = .ok (.ldc idx, 2)) (hp : pc + 2 = pc') (g : own_Go Z EL n0 p e below s K N Q (T.setTop (mkF m pc' Ls (.int x :: st)))) : own_Go Z EL n0 p e below s K N Q (T.setTop (mkF m pc Ls st)) := by
  subst hp
  exact own_pure w (fun s' locs X eT hZ hown t q => X.ldcInt w.1 hown (mv hZ wl) (g := mkF m pc Ls st) rfl (own_dec w hd) t q) g
theorem own_ldc2J (w : own_Wk Z EL n0 own bytes maxL ret nm p l e R s m args below meth c T ms k n h) {idx : Nat} {x : Int64} (wl : (Jvm.Cond.constantLong own idx x).before a0 Z = true) (hd : decode bytes pc = .ok (.ldc2_w idx, 3)) (hp : pc + 3 = pc') (g : own_Go Z EL n0 p e below s K N Q (T.setTop (mkF m pc' Ls (.long x :: st)))) : own_Go Z EL n0 p e below s K N Q (T.setTop (mkF m pc Ls st)) := by
  subst hp
  exact own_pure w (fun s' locs X eT hZ hown t q => X.ldc2Long w.1 hown (mv hZ wl) (g := mkF m pc Ls st) rfl (own_dec w hd) t q) g
theorem own_castY (w : own_Wk Z EL n0 own bytes maxL ret nm p l e R s m args below meth c T ms k n h) {idx : Nat} {C : String} (wl : (Jvm.Cond.classLink own idx C).before a0 Z = true) (I : Ins Z h a C true) (hd : decode bytes pc = .ok (.checkcast idx, 3)) (hp : pc + 3 = pc') (g : ∀ T' : State, own_Wk Z EL n0 own bytes maxL ret nm p l e R s m args below meth c T' ms k n h → own_Go Z EL n0 p e below s K N Q (T'.setTop (mkF m pc' Ls (.ref a :: st)))) : own_Go Z EL n0 p e below s K N Q (T.setTop (mkF m pc Ls (.ref a :: st))) := by
  subst hp; exact own_same w (fun s' locs X eT hZ hown => castY X w.1 hZ hown wl eT I (g := mkF m pc Ls (.ref a :: st)) rfl rfl (own_dec w hd)) g
theorem own_instY (w : own_Wk Z EL n0 own bytes maxL ret nm p l e R s m args below meth c T ms k n h) {idx : Nat} {C : String} (wl : (Jvm.Cond.classLink own idx C).before a0 Z = true) (I : Ins Z h a C true) (hd : decode bytes pc = .ok (.instanceof idx, 3)) (hp : pc + 3 = pc') (g : ∀ T' : State, own_Wk Z EL n0 own bytes maxL ret nm p l e R s m args below meth c T' ms k n h → own_Go Z EL n0 p e below s K N Q (T'.setTop (mkF m pc' Ls (.int 1 :: st)))) : own_Go Z EL n0 p e below s K N Q (T.setTop (mkF m pc Ls (.ref a :: st))) := by
  subst hp; exact own_same w (fun s' locs X eT hZ hown => instY X w.1 hZ hown wl eT I (g := mkF m pc Ls (.ref a :: st)) rfl rfl (own_dec w hd)) g
theorem own_initO (w : own_Wk Z EL n0 own bytes maxL ret nm p l e R s m args below meth c T ms k n h) {idx W : Nat} (w1 : (Jvm.Cond.methodLink own idx Lib.objectInit).before a0 Z = true) (w2 : (Jvm.Cond.instanceMethod Lib.objectInit).before a0 Z = true) (w3 : (Jvm.Cond.code Lib.objectInit ⟨#[0xb1]⟩ 1 none).before a0 Z = true) (hsz : Ls.size = maxL) (hd : decode bytes pc = .ok (.invokespecial idx, 3)) (hp : pc + 3 = pc') (hf : 1 ≤ R.frames) (hW : (st.map fun v => v.category).sum ≤ W) (hl : W + 12 ≤ R.locals)
    (g : ∀ T' : State, own_Wk Z EL n0 own bytes maxL ret nm p l e R s m args below meth c T' ms k n h → own_Go Z EL n0 p e below s K N Q (T'.setTop (mkF m pc' Ls st))) : own_Go Z EL n0 p e below s K N Q (T.setTop (mkF m pc Ls (.ref a :: st))) := by
  subst hp; exact own_same w (fun s' locs X eT hZ hown => initO X w.1 hZ hown w1 w2 w3 eT (g := mkF m pc Ls (.ref a :: st)) rfl (by rw [w.2.2.1]; exact hsz) rfl (own_dec w hd) hf (W := W) (by show 2 * 0 + _ ≤ _; omega) hl) g
theorem own_acmp (w : own_Wk Z EL n0 own bytes maxL ret nm p l e R s m args below meth c T ms k n h) {cd : ClassFile.ACond} {x y : Value} {o : Int} {pcY : Nat} (hx' : x.isRef = true) (hy' : y.isRef = true) (hd : decode bytes pc = .ok (.if_acmp cd o, 3)) (hp : pc + 3 = pc') (ho : 0 ≤ (pc : Int) + o) (hq : ((pc : Int) + o).toNat = pcY) (gT : (match cd with | .eq => x = y | .ne => ¬ x = y) → own_Go Z EL n0 p e below s K N Q (T.setTop (mkF m pcY Ls st))) (gF : (match cd with | .eq => ¬ x = y | .ne => x = y) → own_Go Z EL n0 p e below s K N Q (T.setTop (mkF m pc' Ls st))) : own_Go Z EL n0 p e below s K N Q (T.setTop (mkF m pc Ls (y :: x :: st))) := by
  subst hp
  cases cd <;> by_cases q : x = y
  · exact own_go (fun _ z => XT.acmpYes (own_here w) w.1 rfl (pc0 := pc) rfl (own_dec w hd) rfl hx' hy' (by simp [XT.acmp, q]) ho hq z) (gT q)
  · exact own_go (fun _ z => XT.acmpNo (own_here w) w.1 rfl (own_dec w hd) rfl hx' hy' (by simp [XT.acmp, q]) z) (gF q)
  · exact own_go (fun _ z => XT.acmpNo (own_here w) w.1 rfl (own_dec w hd) rfl hx' hy' (by simp [XT.acmp, q]) z) (gF q)
  · exact own_go (fun _ z => XT.acmpYes (own_here w) w.1 rfl (pc0 := pc) rfl (own_dec w hd) rfl hx' hy' (by simp [XT.acmp, q]) ho hq z) (gT q)
theorem own_callIB (w : own_Wk Z EL n0 own bytes maxL ret nm p l e R s m args below meth c T ms k n h) {idx : Nat} {y : MethodName} {bytes' : ByteArray} {maxL' : Nat} {argsL rest : List Value} {ws : List Addr} {QQ : Option Value → Heap → List Loc → Prop} {ps : List FieldType} {rt : Option FieldType} {W kc nc : Nat} (hy1 : y.name = "<init>") (wl : (Jvm.Cond.methodLink own idx y).before a0 Z = true) (wt : (Jvm.Cond.instanceMethod y).before a0 Z = true) (wc : (Jvm.Cond.code y bytes' maxL' none).before a0 Z = true) (hy : y.cls ≠ "java/lang/invoke/MethodHandle" ∧ y.cls ≠ "java/lang/invoke/VarHandle")
    (bk : ∀ s' : State, Z.Warmed39 s'.vm → Back l R p e below s' args y 3 W (fun P aa => aa = (.ref a :: argsL).toArray ∧ P.U.heap = h ∧ P.cells + kc ≤ R.cells ∧ P.slots + nc ≤ R.slots) (fun P _ v B => ∃ L, QQ v B.U.heap L ∧ B.locs = P.locs ++ L ∧ B.cells = P.cells + kc ∧ B.slots = P.slots + nc)) (hws : ∀ x ∈ ws, x ∈ ms) (hpost : ∀ v h' L, QQ v h' L → Keep h h' ws ∧ Fr n0 L) (hst : st = argsL.reverse ++ .ref a :: rest) (hsz : Ls.size = maxL) (hpd : parseMethodDescriptor y.desc = some ⟨ps, rt⟩) (hln : argsL.length = ps.length) (hd : decode bytes pc = .ok (.invokespecial idx, 3)) (hp : pc + 3 = pc') (hW : (rest.map fun v => v.category).sum ≤ W) (hc : k + kc ≤ R.cells) (hn : n + nc ≤ R.slots)
    (g : ∀ (T' : State) (h' : Heap) (v : Option Value), own_Wk Z EL n0 own bytes maxL ret nm p l e R s m args below meth c T' ms (k + kc) (n + nc) h' → Keep h h' ws → (∃ L, QQ v h' L) → own_Go Z EL n0 p e below s K N Q (T'.setTop (mkF m pc' Ls (v.toList ++ rest)))) : own_Go Z EL n0 p e below s K N Q (T.setTop (mkF m pc Ls st)) := by
  subst hp hst
  refine own_core w (k' := k + kc) (n' := n + nc) (ws := ws) (P := fun h' new F'' => ∃ v L, QQ v h' L ∧ new = [] ∧ F'' = mkF m (pc + 3) Ls (v.toList ++ rest)) hws (fun s' locs X eT hZ hown => by
    obtain ⟨v, _, ⟨T', L', k', n'⟩, -, X', ⟨L, hQ, l1, l2, l3⟩, st'⟩ := X.specialBack w.1 (y := y) hy1 hown (mvT hZ wl) (mvT hZ wt) (mvT hZ wc) hy (bk s' hZ) (g := mkF m pc Ls (argsL.reverse ++ .ref a :: rest)) rfl (by rw [w.2.2.1]; exact hsz) (Steps.refl _) (a := a) (argsL := argsL) (rest := rest) (lenOf hpd hln) rfl (by show 2 * 0 + _ ≤ _; omega) (own_dec w hd) (fun _ _ => ⟨rfl, eT, hc, hn⟩)
    dsimp only [Pt.U, Pt.locs, Pt.cells, Pt.slots] at X' hQ l1 l2 l3 st'
    subst l1 l2 l3
    exact ⟨T', _, L, [], _, X', rfl, (hpost _ _ _ hQ).1, (hpost _ _ _ hQ).2, all0, ⟨v, L, hQ, rfl, rfl⟩, fun _ q => st'.trans q⟩) (fun T' h' new F'' w' Kp q => by
    obtain ⟨v, L, q1, rfl, rfl⟩ := q
    exact g T' h' v w' Kp ⟨L, q1⟩)
theorem own_callVB (w : own_Wk Z EL n0 own bytes maxL ret nm p l e R s m args below meth c T ms k n h) {idx : Nat} {y z : MethodName} {C : String} {argsL rest : List Value} {ws : List Addr} {QQ : Option Value → Heap → List Loc → Prop} {ps : List FieldType} {rt : Option FieldType} {W kc nc : Nat} (wl : (Jvm.Cond.methodLink own idx y).before a0 Z = true) (wd : (Jvm.Cond.declares y).before a0 Z = true) (hnf : ∀ s' : State, Z.Warmed39 s'.vm → NotFace s' y) (wsel : (Jvm.Cond.selects C y z).before a0 Z = true) (wt : (Jvm.Cond.instanceMethod z).before a0 Z = true) (hy : y.cls ≠ "java/lang/invoke/MethodHandle" ∧ y.cls ≠ "java/lang/invoke/VarHandle") (E : Exa Z h a C)
    (bk : ∀ s' : State, Z.Warmed39 s'.vm → Back l R p e below s' args z 3 W (fun P aa => aa = (.ref a :: argsL).toArray ∧ P.U.heap = h ∧ P.cells + kc ≤ R.cells ∧ P.slots + nc ≤ R.slots) (fun P _ v B => ∃ L, QQ v B.U.heap L ∧ B.locs = P.locs ++ L ∧ B.cells = P.cells + kc ∧ B.slots = P.slots + nc)) (hws : ∀ x ∈ ws, x ∈ ms) (hpost : ∀ v h' L, QQ v h' L → Keep h h' ws ∧ Fr n0 L) (hst : st = argsL.reverse ++ .ref a :: rest) (hsz : Ls.size = maxL) (hpd : parseMethodDescriptor y.desc = some ⟨ps, rt⟩) (hln : argsL.length = ps.length) (hd : decode bytes pc = .ok (.invokevirtual idx, 3)) (hp : pc + 3 = pc') (hW : (rest.map fun v => v.category).sum ≤ W) (hc : k + kc ≤ R.cells) (hn : n + nc ≤ R.slots)
    (g : ∀ (T' : State) (h' : Heap) (v : Option Value), own_Wk Z EL n0 own bytes maxL ret nm p l e R s m args below meth c T' ms (k + kc) (n + nc) h' → Keep h h' ws → (∃ L, QQ v h' L) → own_Go Z EL n0 p e below s K N Q (T'.setTop (mkF m pc' Ls (v.toList ++ rest)))) : own_Go Z EL n0 p e below s K N Q (T.setTop (mkF m pc Ls st)) := by
  subst hp hst
  refine own_core w (k' := k + kc) (n' := n + nc) (ws := ws) (P := fun h' new F'' => ∃ v L, QQ v h' L ∧ new = [] ∧ F'' = mkF m (pc + 3) Ls (v.toList ++ rest)) hws (fun s' locs X eT hZ hown => by
    obtain ⟨cq, kq, qa, qb, qc⟩ := isOf hZ eT E
    obtain ⟨v, _, ⟨T', L', k', n'⟩, -, X', ⟨L, hQ, l1, l2, l3⟩, st'⟩ := X.virtualBack w.1 (y := y) (z := z) hown (mvT hZ wl) (mvT hZ wd) (hnf _ hZ) (mvT hZ wsel) (mvT hZ wt) hy (bk s' hZ) qa qc (g := mkF m pc Ls (argsL.reverse ++ .ref a :: rest)) rfl (by rw [w.2.2.1]; exact hsz) (Steps.refl _) (argsL := argsL) (rest := rest) (lenOf hpd hln) rfl (by show 2 * 0 + _ ≤ _; omega) (own_dec w hd) (fun _ _ => ⟨rfl, eT, hc, hn⟩)
    dsimp only [Pt.U, Pt.locs, Pt.cells, Pt.slots] at X' hQ l1 l2 l3 st'
    subst l1 l2 l3
    exact ⟨T', _, L, [], _, X', rfl, (hpost _ _ _ hQ).1, (hpost _ _ _ hQ).2, all0, ⟨v, L, hQ, rfl, rfl⟩, fun _ q => st'.trans q⟩) (fun T' h' new F'' w' Kp q => by
    obtain ⟨v, L, q1, rfl, rfl⟩ := q
    exact g T' h' v w' Kp ⟨L, q1⟩)
end OwnKit
def own_sgn (v : Int64) : Int64 := v >>> ((63 : Int32).toInt64 &&& 63)
def own_mh (x y : Int64) : Int64 :=
  let m : Int64 := 4294967295
  let x1 := x >>> ((32 : Int32).toInt64 &&& 63); let x2 := x &&& m; let y1 := y >>> ((32 : Int32).toInt64 &&& 63); let y2 := y &&& m
  let z2 := x2 * y2
  let t := x1 * y2 + XT.ushrL z2 (32 : Int32)
  let z1 := t &&& m; let z0 := t >>> ((32 : Int32).toInt64 &&& 63)
  let z1' := z1 + x2 * y1
  x1 * y1 + z0 + z1' >>> ((32 : Int32).toInt64 &&& 63)
theorem own_cmp0 {x y : Int64} (h : x = y) : XT.cmpL x y = 0 := by subst h; simp [XT.cmpL, Int64.lt_irrefl]
theorem own_ix {ix : Int32} {i : Nat} (h : ix = Int32.ofNat i) (hi : i < 4) : (¬ ix < 0 ∧ ix < 4) ∧ ix.toNatClampNeg = i ∧ (¬ (2 : Int32) * ix < 0 ∧ (2 : Int32) * ix < 8) ∧ ((2 : Int32) * ix).toNatClampNeg = 2 * i ∧ (¬ (2 : Int32) * ix + 1 < 0 ∧ (2 : Int32) * ix + 1 < 8) ∧ ((2 : Int32) * ix + 1).toNatClampNeg = 2 * i + 1 := by
  subst h
  match i, hi with
  | 0, _ => decide +kernel
  | 1, _ => decide +kernel
  | 2, _ => decide +kernel
  | 3, _ => decide +kernel
theorem own_and3 (x : Int32) : ∃ i : Nat, (x &&& 3) = Int32.ofNat i ∧ i < 4 := by
  have h : (x &&& 3).toBitVec.toNat < 4 := by
    simp only [Int32.toBitVec_and, BitVec.toNat_and]
    exact Nat.lt_succ_of_le Nat.and_le_right
  refine ⟨(x &&& 3).toBitVec.toNat, ?_, h⟩
  apply Int32.toBitVec_inj.mp
  show _ = BitVec.ofNat 32 _
  rw [BitVec.ofNat_toNat]; simp
theorem own_ofn {i j : Nat} (hi : i < 4) (hj : j < 4) (h : ¬ Int32.ofNat i = Int32.ofNat j) : i ≠ j := fun e => h (by rw [e])
def own_pN (vs : List Value) (i : Nat) (lo : Int64) : List Value := vs.set i (.long lo)
def own_pW (vs : List Value) (i : Nat) (hi lo : Int64) : List Value := (vs.set (2 * i) (.long hi)).set (2 * i + 1) (.long lo)
theorem own_lN (vs : List Value) (i : Nat) (lo : Int64) : (own_pN vs i lo).length = vs.length := by simp [own_pN]
theorem own_lW (vs : List Value) (i : Nat) (hi lo : Int64) : (own_pW vs i hi lo).length = vs.length := by simp [own_pW]
theorem own_gN (vs : List Value) (i : Nat) (lo : Int64) (d : Value) (h : i < vs.length) : (own_pN vs i lo).getD i d = .long lo := by simp [own_pN, List.getD_eq_getElem?_getD, h]
theorem own_oN (vs : List Value) {i j : Nat} (lo : Int64) (d : Value) (h : i ≠ j) : (own_pN vs i lo).getD j d = vs.getD j d := by simp [own_pN, List.getD_eq_getElem?_getD, List.getElem?_set_ne h]
theorem own_gW0 (vs : List Value) (i : Nat) (hi lo : Int64) (d : Value) (h : 2 * i + 1 < vs.length) : (own_pW vs i hi lo).getD (2 * i) d = .long hi := by
  have h2 : 2 * i < vs.length := by omega
  rw [own_pW, List.getD_eq_getElem?_getD, List.getElem?_set_ne (by omega)]; simp [h2]
theorem own_gW1 (vs : List Value) (i : Nat) (hi lo : Int64) (d : Value) (h : 2 * i + 1 < vs.length) : (own_pW vs i hi lo).getD (2 * i + 1) d = .long lo := by
  rw [own_pW, List.getD_eq_getElem?_getD]; simp [h]
theorem own_oW (vs : List Value) {i j : Nat} (hi lo : Int64) (d : Value) {q : Nat} (h : i ≠ j) (hq : q = 2 * j ∨ q = 2 * j + 1) : (own_pW vs i hi lo).getD q d = vs.getD q d := by
  rw [own_pW, List.getD_eq_getElem?_getD, List.getElem?_set_ne (by omega), List.getElem?_set_ne (by omega), List.getD_eq_getElem?_getD]
theorem own_shr32 (x : Int64) : -2147483648 ≤ (x >>> ((32 : Int32).toInt64 &&& 63)).toInt ∧ (x >>> ((32 : Int32).toInt64 &&& 63)).toInt ≤ 2147483647 := by
  have e := Jvm.Kit.i64_shr x ((32 : Int32).toInt64 &&& 63) (k := 32) (by decide +kernel)
  rw [e]
  have h1 := x.le_toInt; have h2 := x.toInt_lt
  omega
theorem own_mulb {a b A : Int} (hA : 0 ≤ A) (h1 : -A ≤ a) (h2 : a ≤ A) (h3 : -A ≤ b) (h4 : b ≤ A) : -(A * A) ≤ a * b ∧ a * b ≤ A * A := by
  have ha : a.natAbs ≤ A.natAbs := by omega
  have hb : b.natAbs ≤ A.natAbs := by omega
  have hm := Nat.mul_le_mul ha hb
  rw [← Int.natAbs_mul, ← Int.natAbs_mul] at hm
  have : (A * A).natAbs = A * A := Int.natAbs_of_nonneg (Int.mul_nonneg hA hA)
  omega
theorem own_mhb (x y : Int64) : -4611686022722355200 ≤ (own_mh x y).toInt ∧ (own_mh x y).toInt ≤ 4611686022722355200 := by
  unfold own_mh
  generalize hx : x >>> ((32 : Int32).toInt64 &&& 63) = x1
  generalize hy : y >>> ((32 : Int32).toInt64 &&& 63) = y1
  have bx := own_shr32 x; have by' := own_shr32 y
  rw [hx] at bx; rw [hy] at by'
  dsimp only
  generalize x1 * (y &&& 4294967295) + XT.ushrL ((x &&& 4294967295) * (y &&& 4294967295)) 32 = tt
  have b0 := own_shr32 tt
  generalize tt >>> ((32 : Int32).toInt64 &&& 63) = z0 at b0 ⊢
  generalize (tt &&& 4294967295) + (x &&& 4294967295) * y1 = u
  have b1 := own_shr32 u
  generalize u >>> ((32 : Int32).toInt64 &&& 63) = z1 at b1 ⊢
  have hm := own_mulb (a := x1.toInt) (b := y1.toInt) (A := 2147483648) (by decide) (by omega) (by omega) (by omega) (by omega)
  have e1 : (x1 * y1).toInt = x1.toInt * y1.toInt := Jvm.Kit.i64_mul (by omega) (by omega)
  have e2 : (x1 * y1 + z0).toInt = (x1 * y1).toInt + z0.toInt := Jvm.Kit.i64_add (by omega) (by omega)
  have e3 : (x1 * y1 + z0 + z1).toInt = (x1 * y1 + z0).toInt + z1.toInt := Jvm.Kit.i64_add (by omega) (by omega)
  omega
theorem own_d0_0 : decode prog_41_method_1_code 0 = .ok (.aload_n 0, 1) := by decide +kernel
theorem own_d0_1 : decode prog_41_method_1_code 1 = .ok (.invokespecial 1, 3) := by decide +kernel
theorem own_d0_4 : decode prog_41_method_1_code 4 = .ok (.aload_n 0, 1) := by decide +kernel
theorem own_d0_5 : decode prog_41_method_1_code 5 = .ok (.lload_n 1, 1) := by decide +kernel
theorem own_d0_6 : decode prog_41_method_1_code 6 = .ok (.putfield 7, 3) := by decide +kernel
theorem own_d0_9 : decode prog_41_method_1_code 9 = .ok (.aload_n 0, 1) := by decide +kernel
theorem own_d0_10 : decode prog_41_method_1_code 10 = .ok (.lload_n 3, 1) := by decide +kernel
theorem own_d0_11 : decode prog_41_method_1_code 11 = .ok (.putfield 13, 3) := by decide +kernel
theorem own_d0_14 : decode prog_41_method_1_code 14 = .ok (.return_, 1) := by decide +kernel
theorem own_ef_cInit (m : MethodId) (a1 : Addr) (hi : Int64) (lo : Int64) : entryFrame m #[(.ref a1), (.long hi), (.long lo)] 5 = mkF m 0 #[.val (.ref a1), .val (.long hi), .second, .val (.long lo), .second] [] := by first | (simp [entryFrame, mkF, argsToLocals, Value.category]; done) | rfl
theorem own_pf0 : plainFor (⟨"com/example/throng/throng/engine/Count", "<init>", "(JJ)V"⟩ : MethodName) = true := by first | exact plainFor_of_name (by first | (simp [plainName, overriddenIn]; done) | decide +kernel) | decide +kernel
def own_Q_cInit (Z : State) (h0 : Heap) (a1 : Addr) (hi : Int64) (lo : Int64) (u1 : Value) (u2 : Value) (v : Option Value) (h : Heap) (ms : List Addr) : Prop := (Keep h0 h [a1]) ∧ (ms = []) ∧ (v = none) ∧ (Exa Z h a1 "com/example/throng/throng/engine/Count") ∧ (Fld Z h a1 "com/example/throng/throng/engine/Count" "low" "J" (.long lo)) ∧ (Fld Z h a1 "com/example/throng/throng/engine/Count" "high" "J" (.long hi))
set_option maxRecDepth 65536 in
set_option maxHeartbeats 40000000 in
theorem own_ct_cInit (l : Launch) (Z : State) (a0 : Array Value) (hw : ∀ d ∈ tables_1, d.before a0 Z = true) (EL : List (String × Nat)) (hE : EW Z a0 EL) (n0 : Nat) (ws : List Jvm.Cond) (h0 : Heap) (O : Old Z n0 h0) (a1 : Addr) (hi : Int64) (lo : Int64) (u1 : Value) (u2 : Value) (E_a1 : Exa Z h0 a1 "com/example/throng/throng/engine/Count") (F_a1_high : Fld Z h0 a1 "com/example/throng/throng/engine/Count" "high" "J" u1) (F_a1_low : Fld Z h0 a1 "com/example/throng/throng/engine/Count" "low" "J" u2) :
    own_Ct l Z EL n0 (⟨"com/example/throng/throng/engine/Count", "<init>", "(JJ)V"⟩ : MethodName) prog_41_method_1_code 5 none ws ({ frames := 1, cells := 0, slots := 0, locals := 12 } : Room) #[(.ref a1), (.long hi), (.long lo)] h0 [a1] (own_Q_cInit Z h0 a1 hi lo u1 u2) := by
  refine own_enter (a0 := a0) own_pf0 hE O fun p e s m below meth c T0 w0 => ?_
  rw [own_ef_cInit m a1 hi lo]
  have K : Keep h0 h0 [a1] := Keep.refl _ _
  refine own_aloadN (pc' := 1) w0 own_d0_0 rfl rfl rfl ?_
  refine own_initO (pc' := 4) w0 (hw _ (List.mem_of_getElem? (i := 9) rfl)) (hw _ (List.mem_of_getElem? (i := 10) rfl)) (hw _ (List.mem_of_getElem? (i := 11) rfl)) rfl own_d0_1 rfl (by decide) (W := 0) (Nat.le_of_eq rfl) (by decide) fun T1 w2 => ?_
  refine own_aloadN (pc' := 5) w2 own_d0_4 rfl rfl rfl ?_
  refine own_lloadN (pc' := 6) w2 own_d0_5 rfl rfl ?_
  refine own_putF (pc' := 9) w2 (host := "") (Or.inl (hw _ (List.mem_of_getElem? (i := 12) rfl))) Via.refl (by simp) F_a1_high E_a1 (Or.inr ⟨(hw _ (List.mem_of_getElem? (i := 13) rfl)), rfl, rfl⟩) (hw _ (List.mem_of_getElem? (i := 5) rfl)) (ty := .long) (by decide) rfl rfl own_d0_6 rfl fun T3 h5 w4 W6 => ?_
  replace F_a1_high := F_a1_high.same W6
  replace E_a1 := E_a1.wr W6
  replace F_a1_low := F_a1_low.other W6 (Or.inr (slot_ne (Or.inr (hw _ (List.mem_of_getElem? (i := 15) rfl))) (Or.inr (hw _ (List.mem_of_getElem? (i := 13) rfl))) (by decide) (t := .long) (t' := .long) (by decide) (by decide)))
  replace K := K.wr W6 (Or.inl (by simp))
  refine own_aloadN (pc' := 10) w4 own_d0_9 rfl rfl rfl ?_
  refine own_lloadN (pc' := 11) w4 own_d0_10 rfl rfl ?_
  refine own_putF (pc' := 14) w4 (host := "") (Or.inl (hw _ (List.mem_of_getElem? (i := 14) rfl))) Via.refl (by simp) F_a1_low E_a1 (Or.inr ⟨(hw _ (List.mem_of_getElem? (i := 15) rfl)), rfl, rfl⟩) (hw _ (List.mem_of_getElem? (i := 5) rfl)) (ty := .long) (by decide) rfl rfl own_d0_11 rfl fun T7 h9 w8 W10 => ?_
  replace F_a1_low := F_a1_low.same W10
  replace E_a1 := E_a1.wr W10
  replace F_a1_high := F_a1_high.other W10 (Or.inr (slot_ne (Or.inr (hw _ (List.mem_of_getElem? (i := 13) rfl))) (Or.inr (hw _ (List.mem_of_getElem? (i := 15) rfl))) (by decide) (t := .long) (t' := .long) (by decide) (by decide)))
  replace K := K.wr W10 (Or.inl (by simp))
  exact own_ret0 w8 rfl own_d0_14 (by decide) (by decide) (ms' := []) all0 ⟨K, rfl, rfl, E_a1, F_a1_low, F_a1_high⟩
theorem own_d1_0 : decode prog_41_method_2_code 0 = .ok (.new 8, 3) := by decide +kernel
theorem own_d1_3 : decode prog_41_method_2_code 3 = .ok (.dup, 1) := by decide +kernel
theorem own_d1_4 : decode prog_41_method_2_code 4 = .ok (.lload_n 0, 1) := by decide +kernel
theorem own_d1_5 : decode prog_41_method_2_code 5 = .ok (.bipush 63, 2) := by decide +kernel
theorem own_d1_7 : decode prog_41_method_2_code 7 = .ok (.lshr, 1) := by decide +kernel
theorem own_d1_8 : decode prog_41_method_2_code 8 = .ok (.lload_n 0, 1) := by decide +kernel
theorem own_d1_9 : decode prog_41_method_2_code 9 = .ok (.invokespecial 18, 3) := by decide +kernel
theorem own_pd0 : parseMethodDescriptor "(JJ)V" = some ⟨[.long, .long], none⟩ := by decide +kernel
theorem own_d1_12 : decode prog_41_method_2_code 12 = .ok (.areturn, 1) := by decide +kernel
theorem own_ef_cOf (m : MethodId) (vv : Int64) : entryFrame m #[(.long vv)] 2 = mkF m 0 #[.val (.long vv), .second] [] := by first | (simp [entryFrame, mkF, argsToLocals, Value.category]; done) | rfl
theorem own_pf1 : plainFor (⟨"com/example/throng/throng/engine/Count", "of", "(J)Lcom/example/throng/throng/engine/Count;"⟩ : MethodName) = true := by first | exact plainFor_of_name (by first | (simp [plainName, overriddenIn]; done) | decide +kernel) | decide +kernel
def own_Q_cOf (Z : State) (h0 : Heap) (vv : Int64) (v : Option Value) (h : Heap) (ms : List Addr) : Prop := (Keep h0 h []) ∧ (∃ (r : Addr), (ms = []) ∧ (v = some (.ref r)) ∧ (Exa Z h r "com/example/throng/throng/engine/Count") ∧ (Fld Z h r "com/example/throng/throng/engine/Count" "low" "J" (.long vv)) ∧ (Fld Z h r "com/example/throng/throng/engine/Count" "high" "J" (.long (own_sgn vv))) ∧ (h0.size ≤ r))
set_option maxRecDepth 65536 in
set_option maxHeartbeats 40000000 in
theorem own_ct_cOf (l : Launch) (Z : State) (a0 : Array Value) (hw : ∀ d ∈ tables_1, d.before a0 Z = true) (EL : List (String × Nat)) (hE : EW Z a0 EL) (n0 : Nat) (ws : List Jvm.Cond) (h0 : Heap) (O : Old Z n0 h0) (vv : Int64)  :
    own_Ct l Z EL n0 (⟨"com/example/throng/throng/engine/Count", "of", "(J)Lcom/example/throng/throng/engine/Count;"⟩ : MethodName) prog_41_method_2_code 2 (some (.object "com/example/throng/throng/engine/Count")) ws ({ frames := 2, cells := 1, slots := 2, locals := 29 } : Room) #[(.long vv)] h0 [] (own_Q_cOf Z h0 vv) := by
  refine own_enter (a0 := a0) own_pf1 hE O fun p e s m below meth c T0 w0 => ?_
  rw [own_ef_cOf m vv]
  have K : Keep h0 h0 [] := Keep.refl _ _
  refine own_newO (pc' := 3) w0 (hw _ (List.mem_of_getElem? (i := 4) rfl)) (hw _ (List.mem_of_getElem? (i := 5) rfl)) (hw _ (List.mem_of_getElem? (i := 2) rfl)) own_d1_0 rfl (by decide) (by decide) fun T1 h3 a5 g_a5 w2 E4 ⟨E_a5, D6⟩ => ?_
  have nw_a5 : h0.size ≤ a5 := Nat.le_trans K.1 (Nat.le_of_eq g_a5)
  replace K := K.ext E4
  have F_a5_high : Fld Z h3 a5 "com/example/throng/throng/engine/Count" "high" "J" (.long 0) := D6 (Or.inr (hw _ (List.mem_of_getElem? (i := 13) rfl))) (ty := .long) (by decide)
  have F_a5_low : Fld Z h3 a5 "com/example/throng/throng/engine/Count" "low" "J" (.long 0) := D6 (Or.inr (hw _ (List.mem_of_getElem? (i := 15) rfl))) (ty := .long) (by decide)
  refine own_dup (pc' := 4) w2 own_d1_3 rfl rfl ?_
  refine own_lloadN (pc' := 5) w2 own_d1_4 rfl rfl ?_
  refine own_bipush (pc' := 7) w2 own_d1_5 (x := (63 : Int32)) rfl rfl ?_
  refine own_lshr (pc' := 8) w2 own_d1_7 (z := (own_sgn vv)) rfl rfl ?_
  refine own_lloadN (pc' := 9) w2 own_d1_8 rfl rfl ?_
  refine own_callI (pc' := 12) w2 rfl (hw _ (List.mem_of_getElem? (i := 6) rfl)) (hw _ (List.mem_of_getElem? (i := 7) rfl)) (hw _ (List.mem_of_getElem? (i := 2) rfl)) (hw _ (List.mem_of_getElem? (i := 8) rfl)) (by decide) (own_ct_cInit l Z a0 hw EL hE n0 [] h3 (own_old w2) a5 (own_sgn vv) vv (.long 0) (.long 0) E_a5 F_a5_high F_a5_low) (allS (P := fun x => x ∈ _) (by simp) all0) (argsL := [(.long (own_sgn vv)), (.long vv)]) (rest := [(.ref a5)]) rfl rfl own_pd0 rfl own_d1_9 rfl (by decide) (W := 1) rfl (by decide) (by decide) (by decide) fun T7 h9 v10 ms11 w8 q12 => ?_
  obtain ⟨K13, rfl, rfl, nw_E_a5, nw_F_a5_low, nw_F_a5_high⟩ := q12
  replace K := K.trans K13 (allS (P := fun x => x ∈ ([] : List Addr) ∨ h0.size ≤ x) (Or.inr nw_a5) all0)
  have E_a5 := nw_E_a5; clear nw_E_a5
  have F_a5_low := nw_F_a5_low; clear nw_F_a5_low
  have F_a5_high := nw_F_a5_high; clear nw_F_a5_high
  show own_Go Z EL n0 p e below s _ _ _ (T7.setTop (mkF m 12 #[.val (.long vv), .second] [(.ref a5)]))
  exact own_retV w8 (t := (.object "com/example/throng/throng/engine/Count")) rfl (own_narR rfl rfl) (Or.inr (Or.inr (Or.inr (Or.inr ⟨rfl, rfl, rfl⟩)))) own_d1_12 (by decide) (by decide) (ms' := []) all0 ⟨K, a5, rfl, rfl, E_a5, F_a5_low, F_a5_high, nw_a5⟩
theorem own_d2_0 : decode jdk_29_method_45_code 0 = .ok (.lload_n 0, 1) := by decide +kernel
theorem own_d2_1 : decode jdk_29_method_45_code 1 = .ok (.bipush 32, 2) := by decide +kernel
theorem own_d2_3 : decode jdk_29_method_45_code 3 = .ok (.lshr, 1) := by decide +kernel
theorem own_d2_4 : decode jdk_29_method_45_code 4 = .ok (.lstore 4, 2) := by decide +kernel
theorem own_d2_6 : decode jdk_29_method_45_code 6 = .ok (.lload_n 0, 1) := by decide +kernel
theorem own_d2_7 : decode jdk_29_method_45_code 7 = .ok (.ldc2_w 138, 3) := by decide +kernel
theorem own_d2_10 : decode jdk_29_method_45_code 10 = .ok (.land, 1) := by decide +kernel
theorem own_d2_11 : decode jdk_29_method_45_code 11 = .ok (.lstore 6, 2) := by decide +kernel
theorem own_d2_13 : decode jdk_29_method_45_code 13 = .ok (.lload_n 2, 1) := by decide +kernel
theorem own_d2_14 : decode jdk_29_method_45_code 14 = .ok (.bipush 32, 2) := by decide +kernel
theorem own_d2_16 : decode jdk_29_method_45_code 16 = .ok (.lshr, 1) := by decide +kernel
theorem own_d2_17 : decode jdk_29_method_45_code 17 = .ok (.lstore 8, 2) := by decide +kernel
theorem own_d2_19 : decode jdk_29_method_45_code 19 = .ok (.lload_n 2, 1) := by decide +kernel
theorem own_d2_20 : decode jdk_29_method_45_code 20 = .ok (.ldc2_w 138, 3) := by decide +kernel
theorem own_d2_23 : decode jdk_29_method_45_code 23 = .ok (.land, 1) := by decide +kernel
theorem own_d2_24 : decode jdk_29_method_45_code 24 = .ok (.lstore 10, 2) := by decide +kernel
theorem own_d2_26 : decode jdk_29_method_45_code 26 = .ok (.lload 6, 2) := by decide +kernel
theorem own_d2_28 : decode jdk_29_method_45_code 28 = .ok (.lload 10, 2) := by decide +kernel
theorem own_d2_30 : decode jdk_29_method_45_code 30 = .ok (.lmul, 1) := by decide +kernel
theorem own_d2_31 : decode jdk_29_method_45_code 31 = .ok (.lstore 12, 2) := by decide +kernel
theorem own_d2_33 : decode jdk_29_method_45_code 33 = .ok (.lload 4, 2) := by decide +kernel
theorem own_d2_35 : decode jdk_29_method_45_code 35 = .ok (.lload 10, 2) := by decide +kernel
theorem own_d2_37 : decode jdk_29_method_45_code 37 = .ok (.lmul, 1) := by decide +kernel
theorem own_d2_38 : decode jdk_29_method_45_code 38 = .ok (.lload 12, 2) := by decide +kernel
theorem own_d2_40 : decode jdk_29_method_45_code 40 = .ok (.bipush 32, 2) := by decide +kernel
theorem own_d2_42 : decode jdk_29_method_45_code 42 = .ok (.lushr, 1) := by decide +kernel
theorem own_d2_43 : decode jdk_29_method_45_code 43 = .ok (.ladd, 1) := by decide +kernel
theorem own_d2_44 : decode jdk_29_method_45_code 44 = .ok (.lstore 14, 2) := by decide +kernel
theorem own_d2_46 : decode jdk_29_method_45_code 46 = .ok (.lload 14, 2) := by decide +kernel
theorem own_d2_48 : decode jdk_29_method_45_code 48 = .ok (.ldc2_w 138, 3) := by decide +kernel
theorem own_d2_51 : decode jdk_29_method_45_code 51 = .ok (.land, 1) := by decide +kernel
theorem own_d2_52 : decode jdk_29_method_45_code 52 = .ok (.lstore 16, 2) := by decide +kernel
theorem own_d2_54 : decode jdk_29_method_45_code 54 = .ok (.lload 14, 2) := by decide +kernel
theorem own_d2_56 : decode jdk_29_method_45_code 56 = .ok (.bipush 32, 2) := by decide +kernel
theorem own_d2_58 : decode jdk_29_method_45_code 58 = .ok (.lshr, 1) := by decide +kernel
theorem own_d2_59 : decode jdk_29_method_45_code 59 = .ok (.lstore 18, 2) := by decide +kernel
theorem own_d2_61 : decode jdk_29_method_45_code 61 = .ok (.lload 16, 2) := by decide +kernel
theorem own_d2_63 : decode jdk_29_method_45_code 63 = .ok (.lload 6, 2) := by decide +kernel
theorem own_d2_65 : decode jdk_29_method_45_code 65 = .ok (.lload 8, 2) := by decide +kernel
theorem own_d2_67 : decode jdk_29_method_45_code 67 = .ok (.lmul, 1) := by decide +kernel
theorem own_d2_68 : decode jdk_29_method_45_code 68 = .ok (.ladd, 1) := by decide +kernel
theorem own_d2_69 : decode jdk_29_method_45_code 69 = .ok (.lstore 16, 2) := by decide +kernel
theorem own_d2_71 : decode jdk_29_method_45_code 71 = .ok (.lload 4, 2) := by decide +kernel
theorem own_d2_73 : decode jdk_29_method_45_code 73 = .ok (.lload 8, 2) := by decide +kernel
theorem own_d2_75 : decode jdk_29_method_45_code 75 = .ok (.lmul, 1) := by decide +kernel
theorem own_d2_76 : decode jdk_29_method_45_code 76 = .ok (.lload 18, 2) := by decide +kernel
theorem own_d2_78 : decode jdk_29_method_45_code 78 = .ok (.ladd, 1) := by decide +kernel
theorem own_d2_79 : decode jdk_29_method_45_code 79 = .ok (.lload 16, 2) := by decide +kernel
theorem own_d2_81 : decode jdk_29_method_45_code 81 = .ok (.bipush 32, 2) := by decide +kernel
theorem own_d2_83 : decode jdk_29_method_45_code 83 = .ok (.lshr, 1) := by decide +kernel
theorem own_d2_84 : decode jdk_29_method_45_code 84 = .ok (.ladd, 1) := by decide +kernel
theorem own_d2_85 : decode jdk_29_method_45_code 85 = .ok (.lreturn, 1) := by decide +kernel
theorem own_ef_mulH (m : MethodId) (xx : Int64) (yy : Int64) : entryFrame m #[(.long xx), (.long yy)] 20 = mkF m 0 #[.val (.long xx), .second, .val (.long yy), .second, .unset, .unset, .unset, .unset, .unset, .unset, .unset, .unset, .unset, .unset, .unset, .unset, .unset, .unset, .unset, .unset] [] := by first | (simp [entryFrame, mkF, argsToLocals, Value.category]; done) | rfl
theorem own_pf2 : plainFor (⟨"java/lang/Math", "multiplyHigh", "(JJ)J"⟩ : MethodName) = true := by first | exact plainFor_of_name (by first | (simp [plainName, overriddenIn]; done) | decide +kernel) | decide +kernel
def own_Q_mulH (Z : State) (h0 : Heap) (xx : Int64) (yy : Int64) (v : Option Value) (h : Heap) (ms : List Addr) : Prop := (h0 = h) ∧ (ms = []) ∧ (v = some (.long (own_mh xx yy)))
set_option maxRecDepth 65536 in
set_option maxHeartbeats 40000000 in
theorem own_ct_mulH (l : Launch) (Z : State) (a0 : Array Value) (hw : ∀ d ∈ tables_1, d.before a0 Z = true) (EL : List (String × Nat)) (hE : EW Z a0 EL) (n0 : Nat) (ws : List Jvm.Cond) (h0 : Heap) (O : Old Z n0 h0) (xx : Int64) (yy : Int64)  :
    own_Ct l Z EL n0 (⟨"java/lang/Math", "multiplyHigh", "(JJ)J"⟩ : MethodName) jdk_29_method_45_code 20 (some .long) ws ({ frames := 0, cells := 0, slots := 0, locals := 0 } : Room) #[(.long xx), (.long yy)] h0 [] (own_Q_mulH Z h0 xx yy) := by
  refine own_enter (a0 := a0) own_pf2 hE O fun p e s m below meth c T0 w0 => ?_
  rw [own_ef_mulH m xx yy]
  refine own_lloadN (pc' := 1) w0 own_d2_0 rfl rfl ?_
  refine own_bipush (pc' := 3) w0 own_d2_1 (x := (32 : Int32)) rfl rfl ?_
  refine own_lshr (pc' := 4) w0 own_d2_3 (z := (xx >>> ((32 : Int32).toInt64 &&& 63))) rfl rfl ?_
  refine own_lstore (pc' := 6) w0 own_d2_4 (Ls' := #[.val (.long xx), .second, .val (.long yy), .second, .val (.long (xx >>> ((32 : Int32).toInt64 &&& 63))), .second, .unset, .unset, .unset, .unset, .unset, .unset, .unset, .unset, .unset, .unset, .unset, .unset, .unset, .unset]) rfl rfl ?_
  refine own_lloadN (pc' := 7) w0 own_d2_6 rfl rfl ?_
  refine own_ldc2J (pc' := 10) w0 (hw _ (List.mem_of_getElem? (i := 29) rfl)) own_d2_7 rfl ?_
  refine own_land (pc' := 11) w0 own_d2_10 (z := (xx &&& (4294967295 : Int64))) rfl rfl ?_
  refine own_lstore (pc' := 13) w0 own_d2_11 (Ls' := #[.val (.long xx), .second, .val (.long yy), .second, .val (.long (xx >>> ((32 : Int32).toInt64 &&& 63))), .second, .val (.long (xx &&& (4294967295 : Int64))), .second, .unset, .unset, .unset, .unset, .unset, .unset, .unset, .unset, .unset, .unset, .unset, .unset]) rfl rfl ?_
  refine own_lloadN (pc' := 14) w0 own_d2_13 rfl rfl ?_
  refine own_bipush (pc' := 16) w0 own_d2_14 (x := (32 : Int32)) rfl rfl ?_
  refine own_lshr (pc' := 17) w0 own_d2_16 (z := (yy >>> ((32 : Int32).toInt64 &&& 63))) rfl rfl ?_
  refine own_lstore (pc' := 19) w0 own_d2_17 (Ls' := #[.val (.long xx), .second, .val (.long yy), .second, .val (.long (xx >>> ((32 : Int32).toInt64 &&& 63))), .second, .val (.long (xx &&& (4294967295 : Int64))), .second, .val (.long (yy >>> ((32 : Int32).toInt64 &&& 63))), .second, .unset, .unset, .unset, .unset, .unset, .unset, .unset, .unset, .unset, .unset]) rfl rfl ?_
  refine own_lloadN (pc' := 20) w0 own_d2_19 rfl rfl ?_
  refine own_ldc2J (pc' := 23) w0 (hw _ (List.mem_of_getElem? (i := 29) rfl)) own_d2_20 rfl ?_
  refine own_land (pc' := 24) w0 own_d2_23 (z := (yy &&& (4294967295 : Int64))) rfl rfl ?_
  refine own_lstore (pc' := 26) w0 own_d2_24 (Ls' := #[.val (.long xx), .second, .val (.long yy), .second, .val (.long (xx >>> ((32 : Int32).toInt64 &&& 63))), .second, .val (.long (xx &&& (4294967295 : Int64))), .second, .val (.long (yy >>> ((32 : Int32).toInt64 &&& 63))), .second, .val (.long (yy &&& (4294967295 : Int64))), .second, .unset, .unset, .unset, .unset, .unset, .unset, .unset, .unset]) rfl rfl ?_
  refine own_lload (pc' := 28) w0 own_d2_26 rfl rfl ?_
  refine own_lload (pc' := 30) w0 own_d2_28 rfl rfl ?_
  refine own_lmul (pc' := 31) w0 own_d2_30 (z := ((xx &&& (4294967295 : Int64)) * (yy &&& (4294967295 : Int64)))) rfl rfl ?_
  refine own_lstore (pc' := 33) w0 own_d2_31 (Ls' := #[.val (.long xx), .second, .val (.long yy), .second, .val (.long (xx >>> ((32 : Int32).toInt64 &&& 63))), .second, .val (.long (xx &&& (4294967295 : Int64))), .second, .val (.long (yy >>> ((32 : Int32).toInt64 &&& 63))), .second, .val (.long (yy &&& (4294967295 : Int64))), .second, .val (.long ((xx &&& (4294967295 : Int64)) * (yy &&& (4294967295 : Int64)))), .second, .unset, .unset, .unset, .unset, .unset, .unset]) rfl rfl ?_
  refine own_lload (pc' := 35) w0 own_d2_33 rfl rfl ?_
  refine own_lload (pc' := 37) w0 own_d2_35 rfl rfl ?_
  refine own_lmul (pc' := 38) w0 own_d2_37 (z := ((xx >>> ((32 : Int32).toInt64 &&& 63)) * (yy &&& (4294967295 : Int64)))) rfl rfl ?_
  refine own_lload (pc' := 40) w0 own_d2_38 rfl rfl ?_
  refine own_bipush (pc' := 42) w0 own_d2_40 (x := (32 : Int32)) rfl rfl ?_
  refine own_lushr (pc' := 43) w0 own_d2_42 (z := (XT.ushrL ((xx &&& (4294967295 : Int64)) * (yy &&& (4294967295 : Int64))) (32 : Int32))) rfl rfl ?_
  refine own_ladd (pc' := 44) w0 own_d2_43 (z := (((xx >>> ((32 : Int32).toInt64 &&& 63)) * (yy &&& (4294967295 : Int64))) + (XT.ushrL ((xx &&& (4294967295 : Int64)) * (yy &&& (4294967295 : Int64))) (32 : Int32)))) rfl rfl ?_
  refine own_lstore (pc' := 46) w0 own_d2_44 (Ls' := #[.val (.long xx), .second, .val (.long yy), .second, .val (.long (xx >>> ((32 : Int32).toInt64 &&& 63))), .second, .val (.long (xx &&& (4294967295 : Int64))), .second, .val (.long (yy >>> ((32 : Int32).toInt64 &&& 63))), .second, .val (.long (yy &&& (4294967295 : Int64))), .second, .val (.long ((xx &&& (4294967295 : Int64)) * (yy &&& (4294967295 : Int64)))), .second, .val (.long (((xx >>> ((32 : Int32).toInt64 &&& 63)) * (yy &&& (4294967295 : Int64))) + (XT.ushrL ((xx &&& (4294967295 : Int64)) * (yy &&& (4294967295 : Int64))) (32 : Int32)))), .second, .unset, .unset, .unset, .unset]) rfl rfl ?_
  refine own_lload (pc' := 48) w0 own_d2_46 rfl rfl ?_
  refine own_ldc2J (pc' := 51) w0 (hw _ (List.mem_of_getElem? (i := 29) rfl)) own_d2_48 rfl ?_
  refine own_land (pc' := 52) w0 own_d2_51 (z := ((((xx >>> ((32 : Int32).toInt64 &&& 63)) * (yy &&& (4294967295 : Int64))) + (XT.ushrL ((xx &&& (4294967295 : Int64)) * (yy &&& (4294967295 : Int64))) (32 : Int32))) &&& (4294967295 : Int64))) rfl rfl ?_
  refine own_lstore (pc' := 54) w0 own_d2_52 (Ls' := #[.val (.long xx), .second, .val (.long yy), .second, .val (.long (xx >>> ((32 : Int32).toInt64 &&& 63))), .second, .val (.long (xx &&& (4294967295 : Int64))), .second, .val (.long (yy >>> ((32 : Int32).toInt64 &&& 63))), .second, .val (.long (yy &&& (4294967295 : Int64))), .second, .val (.long ((xx &&& (4294967295 : Int64)) * (yy &&& (4294967295 : Int64)))), .second, .val (.long (((xx >>> ((32 : Int32).toInt64 &&& 63)) * (yy &&& (4294967295 : Int64))) + (XT.ushrL ((xx &&& (4294967295 : Int64)) * (yy &&& (4294967295 : Int64))) (32 : Int32)))), .second, .val (.long ((((xx >>> ((32 : Int32).toInt64 &&& 63)) * (yy &&& (4294967295 : Int64))) + (XT.ushrL ((xx &&& (4294967295 : Int64)) * (yy &&& (4294967295 : Int64))) (32 : Int32))) &&& (4294967295 : Int64))), .second, .unset, .unset]) rfl rfl ?_
  refine own_lload (pc' := 56) w0 own_d2_54 rfl rfl ?_
  refine own_bipush (pc' := 58) w0 own_d2_56 (x := (32 : Int32)) rfl rfl ?_
  refine own_lshr (pc' := 59) w0 own_d2_58 (z := ((((xx >>> ((32 : Int32).toInt64 &&& 63)) * (yy &&& (4294967295 : Int64))) + (XT.ushrL ((xx &&& (4294967295 : Int64)) * (yy &&& (4294967295 : Int64))) (32 : Int32))) >>> ((32 : Int32).toInt64 &&& 63))) rfl rfl ?_
  refine own_lstore (pc' := 61) w0 own_d2_59 (Ls' := #[.val (.long xx), .second, .val (.long yy), .second, .val (.long (xx >>> ((32 : Int32).toInt64 &&& 63))), .second, .val (.long (xx &&& (4294967295 : Int64))), .second, .val (.long (yy >>> ((32 : Int32).toInt64 &&& 63))), .second, .val (.long (yy &&& (4294967295 : Int64))), .second, .val (.long ((xx &&& (4294967295 : Int64)) * (yy &&& (4294967295 : Int64)))), .second, .val (.long (((xx >>> ((32 : Int32).toInt64 &&& 63)) * (yy &&& (4294967295 : Int64))) + (XT.ushrL ((xx &&& (4294967295 : Int64)) * (yy &&& (4294967295 : Int64))) (32 : Int32)))), .second, .val (.long ((((xx >>> ((32 : Int32).toInt64 &&& 63)) * (yy &&& (4294967295 : Int64))) + (XT.ushrL ((xx &&& (4294967295 : Int64)) * (yy &&& (4294967295 : Int64))) (32 : Int32))) &&& (4294967295 : Int64))), .second, .val (.long ((((xx >>> ((32 : Int32).toInt64 &&& 63)) * (yy &&& (4294967295 : Int64))) + (XT.ushrL ((xx &&& (4294967295 : Int64)) * (yy &&& (4294967295 : Int64))) (32 : Int32))) >>> ((32 : Int32).toInt64 &&& 63))), .second]) rfl rfl ?_
  refine own_lload (pc' := 63) w0 own_d2_61 rfl rfl ?_
  refine own_lload (pc' := 65) w0 own_d2_63 rfl rfl ?_
  refine own_lload (pc' := 67) w0 own_d2_65 rfl rfl ?_
  refine own_lmul (pc' := 68) w0 own_d2_67 (z := ((xx &&& (4294967295 : Int64)) * (yy >>> ((32 : Int32).toInt64 &&& 63)))) rfl rfl ?_
  refine own_ladd (pc' := 69) w0 own_d2_68 (z := (((((xx >>> ((32 : Int32).toInt64 &&& 63)) * (yy &&& (4294967295 : Int64))) + (XT.ushrL ((xx &&& (4294967295 : Int64)) * (yy &&& (4294967295 : Int64))) (32 : Int32))) &&& (4294967295 : Int64)) + ((xx &&& (4294967295 : Int64)) * (yy >>> ((32 : Int32).toInt64 &&& 63))))) rfl rfl ?_
  refine own_lstore (pc' := 71) w0 own_d2_69 (Ls' := #[.val (.long xx), .second, .val (.long yy), .second, .val (.long (xx >>> ((32 : Int32).toInt64 &&& 63))), .second, .val (.long (xx &&& (4294967295 : Int64))), .second, .val (.long (yy >>> ((32 : Int32).toInt64 &&& 63))), .second, .val (.long (yy &&& (4294967295 : Int64))), .second, .val (.long ((xx &&& (4294967295 : Int64)) * (yy &&& (4294967295 : Int64)))), .second, .val (.long (((xx >>> ((32 : Int32).toInt64 &&& 63)) * (yy &&& (4294967295 : Int64))) + (XT.ushrL ((xx &&& (4294967295 : Int64)) * (yy &&& (4294967295 : Int64))) (32 : Int32)))), .second, .val (.long (((((xx >>> ((32 : Int32).toInt64 &&& 63)) * (yy &&& (4294967295 : Int64))) + (XT.ushrL ((xx &&& (4294967295 : Int64)) * (yy &&& (4294967295 : Int64))) (32 : Int32))) &&& (4294967295 : Int64)) + ((xx &&& (4294967295 : Int64)) * (yy >>> ((32 : Int32).toInt64 &&& 63))))), .second, .val (.long ((((xx >>> ((32 : Int32).toInt64 &&& 63)) * (yy &&& (4294967295 : Int64))) + (XT.ushrL ((xx &&& (4294967295 : Int64)) * (yy &&& (4294967295 : Int64))) (32 : Int32))) >>> ((32 : Int32).toInt64 &&& 63))), .second]) rfl rfl ?_
  refine own_lload (pc' := 73) w0 own_d2_71 rfl rfl ?_
  refine own_lload (pc' := 75) w0 own_d2_73 rfl rfl ?_
  refine own_lmul (pc' := 76) w0 own_d2_75 (z := ((xx >>> ((32 : Int32).toInt64 &&& 63)) * (yy >>> ((32 : Int32).toInt64 &&& 63)))) rfl rfl ?_
  refine own_lload (pc' := 78) w0 own_d2_76 rfl rfl ?_
  refine own_ladd (pc' := 79) w0 own_d2_78 (z := (((xx >>> ((32 : Int32).toInt64 &&& 63)) * (yy >>> ((32 : Int32).toInt64 &&& 63))) + ((((xx >>> ((32 : Int32).toInt64 &&& 63)) * (yy &&& (4294967295 : Int64))) + (XT.ushrL ((xx &&& (4294967295 : Int64)) * (yy &&& (4294967295 : Int64))) (32 : Int32))) >>> ((32 : Int32).toInt64 &&& 63)))) rfl rfl ?_
  refine own_lload (pc' := 81) w0 own_d2_79 rfl rfl ?_
  refine own_bipush (pc' := 83) w0 own_d2_81 (x := (32 : Int32)) rfl rfl ?_
  refine own_lshr (pc' := 84) w0 own_d2_83 (z := ((((((xx >>> ((32 : Int32).toInt64 &&& 63)) * (yy &&& (4294967295 : Int64))) + (XT.ushrL ((xx &&& (4294967295 : Int64)) * (yy &&& (4294967295 : Int64))) (32 : Int32))) &&& (4294967295 : Int64)) + ((xx &&& (4294967295 : Int64)) * (yy >>> ((32 : Int32).toInt64 &&& 63)))) >>> ((32 : Int32).toInt64 &&& 63))) rfl rfl ?_
  refine own_ladd (pc' := 85) w0 own_d2_84 (z := ((((xx >>> ((32 : Int32).toInt64 &&& 63)) * (yy >>> ((32 : Int32).toInt64 &&& 63))) + ((((xx >>> ((32 : Int32).toInt64 &&& 63)) * (yy &&& (4294967295 : Int64))) + (XT.ushrL ((xx &&& (4294967295 : Int64)) * (yy &&& (4294967295 : Int64))) (32 : Int32))) >>> ((32 : Int32).toInt64 &&& 63))) + ((((((xx >>> ((32 : Int32).toInt64 &&& 63)) * (yy &&& (4294967295 : Int64))) + (XT.ushrL ((xx &&& (4294967295 : Int64)) * (yy &&& (4294967295 : Int64))) (32 : Int32))) &&& (4294967295 : Int64)) + ((xx &&& (4294967295 : Int64)) * (yy >>> ((32 : Int32).toInt64 &&& 63)))) >>> ((32 : Int32).toInt64 &&& 63)))) rfl rfl ?_
  exact own_retV w0 (t := .long) rfl rfl (Or.inr (Or.inl ⟨rfl, rfl, _, rfl⟩)) own_d2_85 (by decide) (by decide) (ms' := []) all0 ⟨rfl, rfl, rfl⟩
theorem own_d3_0 : decode prog_41_method_8_code 0 = .ok (.lload_n 0, 1) := by decide +kernel
theorem own_d3_1 : decode prog_41_method_8_code 1 = .ok (.lload_n 2, 1) := by decide +kernel
theorem own_d3_2 : decode prog_41_method_8_code 2 = .ok (.bipush 63, 2) := by decide +kernel
theorem own_d3_4 : decode prog_41_method_8_code 4 = .ok (.lshr, 1) := by decide +kernel
theorem own_d3_5 : decode prog_41_method_8_code 5 = .ok (.lcmp, 1) := by decide +kernel
theorem own_d3_6 : decode prog_41_method_8_code 6 = .ok (.ifCond .ne 39, 3) := by decide +kernel
theorem own_d3_9 : decode prog_41_method_8_code 9 = .ok (.lload 4, 2) := by decide +kernel
theorem own_d3_11 : decode prog_41_method_8_code 11 = .ok (.lload 6, 2) := by decide +kernel
theorem own_d3_13 : decode prog_41_method_8_code 13 = .ok (.bipush 63, 2) := by decide +kernel
theorem own_d3_15 : decode prog_41_method_8_code 15 = .ok (.lshr, 1) := by decide +kernel
theorem own_d3_16 : decode prog_41_method_8_code 16 = .ok (.lcmp, 1) := by decide +kernel
theorem own_d3_17 : decode prog_41_method_8_code 17 = .ok (.ifCond .ne 28, 3) := by decide +kernel
theorem own_d3_20 : decode prog_41_method_8_code 20 = .ok (.aload 8, 2) := by decide +kernel
theorem own_d3_22 : decode prog_41_method_8_code 22 = .ok (.iload 9, 2) := by decide +kernel
theorem own_d3_24 : decode prog_41_method_8_code 24 = .ok (.lload_n 2, 1) := by decide +kernel
theorem own_d3_25 : decode prog_41_method_8_code 25 = .ok (.lload 6, 2) := by decide +kernel
theorem own_d3_27 : decode prog_41_method_8_code 27 = .ok (.invokestatic 51, 3) := by decide +kernel
theorem own_pd1 : parseMethodDescriptor "(JJ)J" = some ⟨[.long, .long], some .long⟩ := by decide +kernel
theorem own_d3_30 : decode prog_41_method_8_code 30 = .ok (.lastore, 1) := by decide +kernel
theorem own_d3_31 : decode prog_41_method_8_code 31 = .ok (.aload 8, 2) := by decide +kernel
theorem own_d3_33 : decode prog_41_method_8_code 33 = .ok (.iload 9, 2) := by decide +kernel
theorem own_d3_35 : decode prog_41_method_8_code 35 = .ok (.iconst 1, 1) := by decide +kernel
theorem own_d3_36 : decode prog_41_method_8_code 36 = .ok (.iadd, 1) := by decide +kernel
theorem own_d3_37 : decode prog_41_method_8_code 37 = .ok (.lload_n 2, 1) := by decide +kernel
theorem own_d3_38 : decode prog_41_method_8_code 38 = .ok (.lload 6, 2) := by decide +kernel
theorem own_d3_40 : decode prog_41_method_8_code 40 = .ok (.lmul, 1) := by decide +kernel
theorem own_d3_41 : decode prog_41_method_8_code 41 = .ok (.lastore, 1) := by decide +kernel
theorem own_d3_42 : decode prog_41_method_8_code 42 = .ok (.goto 16, 3) := by decide +kernel
theorem own_d3_58 : decode prog_41_method_8_code 58 = .ok (.return_, 1) := by decide +kernel
theorem own_ef_timesS (m : MethodId) (ah : Int64) (al : Int64) (bh : Int64) (bl : Int64) (to : Addr) : entryFrame m #[(.long ah), (.long al), (.long bh), (.long bl), (.ref to), (.int (0 : Int32))] 10 = mkF m 0 #[.val (.long ah), .second, .val (.long al), .second, .val (.long bh), .second, .val (.long bl), .second, .val (.ref to), .val (.int (0 : Int32))] [] := by first | (simp [entryFrame, mkF, argsToLocals, Value.category]; done) | rfl
theorem own_pf3 : plainFor (⟨"com/example/throng/throng/engine/Count", "times", "(JJJJ[JI)V"⟩ : MethodName) = true := by first | exact plainFor_of_name (by first | (simp [plainName, overriddenIn]; done) | decide +kernel) | decide +kernel
def own_Q_timesS (Z : State) (h0 : Heap) (ah : Int64) (al : Int64) (bh : Int64) (bl : Int64) (to : Addr) (kt : ClassId) (v : Option Value) (h : Heap) (ms : List Addr) : Prop := (Keep h0 h [to]) ∧ (ms = []) ∧ (v = none) ∧ (Arv Z h to kt .long (2 : Int32) [(.long (own_mh al bl)), (.long (al * bl))] (.long 0))
set_option maxRecDepth 65536 in
set_option maxHeartbeats 40000000 in
theorem own_ct_timesS (l : Launch) (Z : State) (a0 : Array Value) (hw : ∀ d ∈ tables_1, d.before a0 Z = true) (EL : List (String × Nat)) (hE : EW Z a0 EL) (n0 : Nat) (ws : List Jvm.Cond) (h0 : Heap) (O : Old Z n0 h0) (ah : Int64) (al : Int64) (bh : Int64) (bl : Int64) (to : Addr) (kt : ClassId) (A_to : Arv Z h0 to kt .long (2 : Int32) [(.long 0), (.long 0)] (.long 0)) (h1 : ah = own_sgn al) (h2 : bh = own_sgn bl) :
    own_Ct l Z EL n0 (⟨"com/example/throng/throng/engine/Count", "times", "(JJJJ[JI)V"⟩ : MethodName) prog_41_method_8_code 10 none ws ({ frames := 1, cells := 0, slots := 0, locals := 33 } : Room) #[(.long ah), (.long al), (.long bh), (.long bl), (.ref to), (.int (0 : Int32))] h0 [to] (own_Q_timesS Z h0 ah al bh bl to kt) := by
  refine own_enter (a0 := a0) own_pf3 hE O fun p e s m below meth c T0 w0 => ?_
  rw [own_ef_timesS m ah al bh bl to]
  have K : Keep h0 h0 [to] := Keep.refl _ _
  refine own_lloadN (pc' := 1) w0 own_d3_0 rfl rfl ?_
  refine own_lloadN (pc' := 2) w0 own_d3_1 rfl rfl ?_
  refine own_bipush (pc' := 4) w0 own_d3_2 (x := (63 : Int32)) rfl rfl ?_
  refine own_lshr (pc' := 5) w0 own_d3_4 (z := (own_sgn al)) rfl rfl ?_
  refine own_lcmp (pc' := 6) w0 own_d3_5 (z := (XT.cmpL ah (own_sgn al))) rfl rfl ?_
  refine own_if (pc' := 9) w0 own_d3_6 rfl (by decide) (pcY := 45) rfl (fun (hb6 : ¬ (XT.cmpL ah (own_sgn al)) = (0 : Int32)) => absurd (own_cmp0 h1) hb6) (fun (hb6 : (XT.cmpL ah (own_sgn al)) = (0 : Int32)) => ?_)
  refine own_lload (pc' := 11) w0 own_d3_9 rfl rfl ?_
  refine own_lload (pc' := 13) w0 own_d3_11 rfl rfl ?_
  refine own_bipush (pc' := 15) w0 own_d3_13 (x := (63 : Int32)) rfl rfl ?_
  refine own_lshr (pc' := 16) w0 own_d3_15 (z := (own_sgn bl)) rfl rfl ?_
  refine own_lcmp (pc' := 17) w0 own_d3_16 (z := (XT.cmpL bh (own_sgn bl))) rfl rfl ?_
  refine own_if (pc' := 20) w0 own_d3_17 rfl (by decide) (pcY := 45) rfl (fun (hb17 : ¬ (XT.cmpL bh (own_sgn bl)) = (0 : Int32)) => absurd (own_cmp0 h2) hb17) (fun (hb17 : (XT.cmpL bh (own_sgn bl)) = (0 : Int32)) => ?_)
  refine own_aload (pc' := 22) w0 own_d3_20 rfl rfl rfl ?_
  refine own_iload (pc' := 24) w0 own_d3_22 rfl rfl ?_
  refine own_lloadN (pc' := 25) w0 own_d3_24 rfl rfl ?_
  refine own_lload (pc' := 27) w0 own_d3_25 rfl rfl ?_
  refine own_callS (pc' := 30) w0 (hw _ (List.mem_of_getElem? (i := 25) rfl)) (hw _ (List.mem_of_getElem? (i := 26) rfl)) (hw _ (List.mem_of_getElem? (i := 27) rfl)) (hw _ (List.mem_of_getElem? (i := 28) rfl)) (by decide) (own_ct_mulH l Z a0 hw EL hE n0 [] h0 (own_old w0) al bl ) all0 (argsL := [(.long al), (.long bl)]) (rest := [(.int (0 : Int32)), (.ref to)]) rfl rfl own_pd1 rfl own_d3_27 rfl (by decide) (W := 2) rfl (by decide) (by decide) (by decide) fun T1 h3 v4 ms5 w2 q6 => ?_
  obtain ⟨rfl, rfl, rfl⟩ := q6
  show own_Go Z EL n0 p e below s _ _ _ (T1.setTop (mkF m 30 #[.val (.long ah), .second, .val (.long al), .second, .val (.long bh), .second, .val (.long bl), .second, .val (.ref to), .val (.int (0 : Int32))] [(.long (own_mh al bl)), (.int (0 : Int32)), (.ref to)]))
  refine own_stJ (pc' := 31) w2 (i := 0) (xv := (.long (own_mh al bl))) (vs' := [(.long (own_mh al bl)), (.long 0)]) (by simp) A_to (by decide) rfl (Nat.lt_of_sub_eq_succ rfl) rfl rfl rfl own_d3_30 rfl fun T7 h9 w8 W10 A_new => ?_
  clear A_to
  replace K := K.wr W10 (Or.inl (by simp))
  have A_to := A_new
  clear A_new
  refine own_aload (pc' := 33) w8 own_d3_31 rfl rfl rfl ?_
  refine own_iload (pc' := 35) w8 own_d3_33 rfl rfl ?_
  refine own_iconst (pc' := 36) w8 own_d3_35 (x := (1 : Int32)) rfl rfl ?_
  refine own_iadd (pc' := 37) w8 own_d3_36 (z := (1 : Int32)) (by decide) rfl ?_
  refine own_lloadN (pc' := 38) w8 own_d3_37 rfl rfl ?_
  refine own_lload (pc' := 40) w8 own_d3_38 rfl rfl ?_
  refine own_lmul (pc' := 41) w8 own_d3_40 (z := (al * bl)) rfl rfl ?_
  refine own_stJ (pc' := 42) w8 (i := 1) (xv := (.long (al * bl))) (vs' := [(.long (own_mh al bl)), (.long (al * bl))]) (by simp) A_to (by decide) rfl (Nat.lt_of_sub_eq_succ rfl) rfl rfl rfl own_d3_41 rfl fun T11 h13 w12 W14 A_new => ?_
  clear A_to
  replace K := K.wr W14 (Or.inl (by simp))
  have A_to := A_new
  clear A_new
  refine own_goto w12 own_d3_42 (by decide) (pc' := 58) rfl ?_
  exact own_ret0 w12 rfl own_d3_58 (by decide) (by decide) (ms' := []) all0 ⟨K, rfl, rfl, A_to⟩
theorem own_d4_0 : decode prog_41_method_7_code 0 = .ok (.iconst 2, 1) := by decide +kernel
theorem own_d4_1 : decode prog_41_method_7_code 1 = .ok (.newarray .long, 2) := by decide +kernel
theorem own_d4_3 : decode prog_41_method_7_code 3 = .ok (.astore_n 2, 1) := by decide +kernel
theorem own_d4_4 : decode prog_41_method_7_code 4 = .ok (.aload_n 0, 1) := by decide +kernel
theorem own_d4_5 : decode prog_41_method_7_code 5 = .ok (.getfield 7, 3) := by decide +kernel
theorem own_d4_8 : decode prog_41_method_7_code 8 = .ok (.aload_n 0, 1) := by decide +kernel
theorem own_d4_9 : decode prog_41_method_7_code 9 = .ok (.getfield 13, 3) := by decide +kernel
theorem own_d4_12 : decode prog_41_method_7_code 12 = .ok (.aload_n 1, 1) := by decide +kernel
theorem own_d4_13 : decode prog_41_method_7_code 13 = .ok (.getfield 7, 3) := by decide +kernel
theorem own_d4_16 : decode prog_41_method_7_code 16 = .ok (.aload_n 1, 1) := by decide +kernel
theorem own_d4_17 : decode prog_41_method_7_code 17 = .ok (.getfield 13, 3) := by decide +kernel
theorem own_d4_20 : decode prog_41_method_7_code 20 = .ok (.aload_n 2, 1) := by decide +kernel
theorem own_d4_21 : decode prog_41_method_7_code 21 = .ok (.iconst 0, 1) := by decide +kernel
theorem own_d4_22 : decode prog_41_method_7_code 22 = .ok (.invokestatic 49, 3) := by decide +kernel
theorem own_pd2 : parseMethodDescriptor "(JJJJ[JI)V" = some ⟨[.long, .long, .long, .long, (.array .long), .int], none⟩ := by decide +kernel
theorem own_d4_25 : decode prog_41_method_7_code 25 = .ok (.new 8, 3) := by decide +kernel
theorem own_d4_28 : decode prog_41_method_7_code 28 = .ok (.dup, 1) := by decide +kernel
theorem own_d4_29 : decode prog_41_method_7_code 29 = .ok (.aload_n 2, 1) := by decide +kernel
theorem own_d4_30 : decode prog_41_method_7_code 30 = .ok (.iconst 0, 1) := by decide +kernel
theorem own_d4_31 : decode prog_41_method_7_code 31 = .ok (.laload, 1) := by decide +kernel
theorem own_d4_32 : decode prog_41_method_7_code 32 = .ok (.aload_n 2, 1) := by decide +kernel
theorem own_d4_33 : decode prog_41_method_7_code 33 = .ok (.iconst 1, 1) := by decide +kernel
theorem own_d4_34 : decode prog_41_method_7_code 34 = .ok (.laload, 1) := by decide +kernel
theorem own_d4_35 : decode prog_41_method_7_code 35 = .ok (.invokespecial 18, 3) := by decide +kernel
theorem own_d4_38 : decode prog_41_method_7_code 38 = .ok (.areturn, 1) := by decide +kernel
theorem own_ef_times (m : MethodId) (a1 : Addr) (a2 : Addr) : entryFrame m #[(.ref a1), (.ref a2)] 3 = mkF m 0 #[.val (.ref a1), .val (.ref a2), .unset] [] := by first | (simp [entryFrame, mkF, argsToLocals, Value.category]; done) | rfl
theorem own_pf4 : plainFor (⟨"com/example/throng/throng/engine/Count", "times", "(Lcom/example/throng/throng/engine/Count;)Lcom/example/throng/throng/engine/Count;"⟩ : MethodName) = true := by first | exact plainFor_of_name (by first | (simp [plainName, overriddenIn]; done) | decide +kernel) | decide +kernel
def own_Q_times (Z : State) (h0 : Heap) (a1 : Addr) (a2 : Addr) (al : Int64) (bl : Int64) (v : Option Value) (h : Heap) (ms : List Addr) : Prop := (Keep h0 h []) ∧ (∃ (r : Addr), (ms = []) ∧ (v = some (.ref r)) ∧ (Exa Z h r "com/example/throng/throng/engine/Count") ∧ (Fld Z h r "com/example/throng/throng/engine/Count" "low" "J" (.long (al * bl))) ∧ (Fld Z h r "com/example/throng/throng/engine/Count" "high" "J" (.long (own_mh al bl))) ∧ (h0.size ≤ r))
set_option maxRecDepth 65536 in
set_option maxHeartbeats 40000000 in
theorem own_ct_times (l : Launch) (Z : State) (a0 : Array Value) (hw : ∀ d ∈ tables_1, d.before a0 Z = true) (EL : List (String × Nat)) (hE : EW Z a0 EL) (n0 : Nat) (ws : List Jvm.Cond) (h0 : Heap) (O : Old Z n0 h0) (a1 : Addr) (a2 : Addr) (al : Int64) (bl : Int64) (F_a1_low : Fld Z h0 a1 "com/example/throng/throng/engine/Count" "low" "J" (.long al)) (F_a1_high : Fld Z h0 a1 "com/example/throng/throng/engine/Count" "high" "J" (.long (own_sgn al))) (F_a2_low : Fld Z h0 a2 "com/example/throng/throng/engine/Count" "low" "J" (.long bl)) (F_a2_high : Fld Z h0 a2 "com/example/throng/throng/engine/Count" "high" "J" (.long (own_sgn bl))) :
    own_Ct l Z EL n0 (⟨"com/example/throng/throng/engine/Count", "times", "(Lcom/example/throng/throng/engine/Count;)Lcom/example/throng/throng/engine/Count;"⟩ : MethodName) prog_41_method_7_code 3 (some (.object "com/example/throng/throng/engine/Count")) ws ({ frames := 2, cells := 2, slots := 4, locals := 54 } : Room) #[(.ref a1), (.ref a2)] h0 [] (own_Q_times Z h0 a1 a2 al bl) := by
  refine own_enter (a0 := a0) own_pf4 hE O fun p e s m below meth c T0 w0 => ?_
  rw [own_ef_times m a1 a2]
  have K : Keep h0 h0 [] := Keep.refl _ _
  refine own_iconst (pc' := 1) w0 own_d4_0 (x := (2 : Int32)) rfl rfl ?_
  refine own_newP (pc' := 3) w0 (vs := [(.long 0), (.long 0)]) (dv := (.long 0)) (cap := 2) (hw _ (List.mem_of_getElem? (i := 21) rfl)) own_d4_1 rfl (by decide) (by decide) (by decide) rfl (own_rep 2 (.long 0)) (by decide) (by decide) fun T1 h3 a5 g_a5 w2 E4 ⟨k_a5, A_a5⟩ => ?_
  have ne_a1_a5 : a1 ≠ a5 := Nat.ne_of_lt (Nat.lt_of_lt_of_le F_a1_low.lt (Nat.le_of_eq g_a5))
  have ne_a2_a5 : a2 ≠ a5 := Nat.ne_of_lt (Nat.lt_of_lt_of_le F_a2_low.lt (Nat.le_of_eq g_a5))
  have nw_a5 : h0.size ≤ a5 := Nat.le_trans K.1 (Nat.le_of_eq g_a5)
  replace F_a1_low := F_a1_low.ext E4
  replace F_a1_high := F_a1_high.ext E4
  replace F_a2_low := F_a2_low.ext E4
  replace F_a2_high := F_a2_high.ext E4
  replace K := K.ext E4
  refine own_astoreN (pc' := 4) w2 own_d4_3 rfl (Ls' := #[.val (.ref a1), .val (.ref a2), .val (.ref a5)]) rfl rfl ?_
  refine own_aloadN (pc' := 5) w2 own_d4_4 rfl rfl rfl ?_
  refine own_getF (pc' := 8) w2 (host := "") (Or.inl (hw _ (List.mem_of_getElem? (i := 12) rfl))) Via.refl F_a1_high own_d4_5 rfl fun T6 w7 => ?_
  refine own_aloadN (pc' := 9) w7 own_d4_8 rfl rfl rfl ?_
  refine own_getF (pc' := 12) w7 (host := "") (Or.inl (hw _ (List.mem_of_getElem? (i := 14) rfl))) Via.refl F_a1_low own_d4_9 rfl fun T8 w9 => ?_
  refine own_aloadN (pc' := 13) w9 own_d4_12 rfl rfl rfl ?_
  refine own_getF (pc' := 16) w9 (host := "") (Or.inl (hw _ (List.mem_of_getElem? (i := 12) rfl))) Via.refl F_a2_high own_d4_13 rfl fun T10 w11 => ?_
  refine own_aloadN (pc' := 17) w11 own_d4_16 rfl rfl rfl ?_
  refine own_getF (pc' := 20) w11 (host := "") (Or.inl (hw _ (List.mem_of_getElem? (i := 14) rfl))) Via.refl F_a2_low own_d4_17 rfl fun T12 w13 => ?_
  refine own_aloadN (pc' := 21) w13 own_d4_20 rfl rfl rfl ?_
  refine own_iconst (pc' := 22) w13 own_d4_21 (x := (0 : Int32)) rfl rfl ?_
  refine own_callS (pc' := 25) w13 (hw _ (List.mem_of_getElem? (i := 22) rfl)) (hw _ (List.mem_of_getElem? (i := 23) rfl)) (hw _ (List.mem_of_getElem? (i := 2) rfl)) (hw _ (List.mem_of_getElem? (i := 24) rfl)) (by decide) (own_ct_timesS l Z a0 hw EL hE n0 [] h3 (own_old w13) (own_sgn al) al (own_sgn bl) bl a5 k_a5 A_a5 (rfl) (rfl)) (allS (P := fun x => x ∈ _) (by simp) all0) (argsL := [(.long (own_sgn al)), (.long al), (.long (own_sgn bl)), (.long bl), (.ref a5), (.int (0 : Int32))]) (rest := []) rfl rfl own_pd2 rfl own_d4_22 rfl (by decide) (W := 0) rfl (by decide) (by decide) (by decide) fun T14 h16 v17 ms18 w15 q19 => ?_
  obtain ⟨K20, rfl, rfl, nw_A_a5⟩ := q19
  replace F_a1_low := F_a1_low.keep K20 (ninS ne_a1_a5 nin0)
  replace F_a1_high := F_a1_high.keep K20 (ninS ne_a1_a5 nin0)
  replace F_a2_low := F_a2_low.keep K20 (ninS ne_a2_a5 nin0)
  replace F_a2_high := F_a2_high.keep K20 (ninS ne_a2_a5 nin0)
  replace K := K.trans K20 (allS (P := fun x => x ∈ ([] : List Addr) ∨ h0.size ≤ x) (Or.inr nw_a5) all0)
  have A_a5 := nw_A_a5; clear nw_A_a5
  show own_Go Z EL n0 p e below s _ _ _ (T14.setTop (mkF m 25 #[.val (.ref a1), .val (.ref a2), .val (.ref a5)] []))
  refine own_newO (pc' := 28) w15 (hw _ (List.mem_of_getElem? (i := 4) rfl)) (hw _ (List.mem_of_getElem? (i := 5) rfl)) (hw _ (List.mem_of_getElem? (i := 2) rfl)) own_d4_25 rfl (by decide) (by decide) fun T21 h23 a25 g_a25 w22 E24 ⟨E_a25, D26⟩ => ?_
  have ne_a1_a25 : a1 ≠ a25 := Nat.ne_of_lt (Nat.lt_of_lt_of_le F_a1_low.lt (Nat.le_of_eq g_a25))
  have ne_a2_a25 : a2 ≠ a25 := Nat.ne_of_lt (Nat.lt_of_lt_of_le F_a2_low.lt (Nat.le_of_eq g_a25))
  have ne_a5_a25 : a5 ≠ a25 := Nat.ne_of_lt (Nat.lt_of_lt_of_le A_a5.lt (Nat.le_of_eq g_a25))
  have nw_a25 : h0.size ≤ a25 := Nat.le_trans K.1 (Nat.le_of_eq g_a25)
  replace F_a1_low := F_a1_low.ext E24
  replace F_a1_high := F_a1_high.ext E24
  replace F_a2_low := F_a2_low.ext E24
  replace F_a2_high := F_a2_high.ext E24
  replace A_a5 := A_a5.ext E24
  replace K := K.ext E24
  have F_a25_high : Fld Z h23 a25 "com/example/throng/throng/engine/Count" "high" "J" (.long 0) := D26 (Or.inr (hw _ (List.mem_of_getElem? (i := 13) rfl))) (ty := .long) (by decide)
  have F_a25_low : Fld Z h23 a25 "com/example/throng/throng/engine/Count" "low" "J" (.long 0) := D26 (Or.inr (hw _ (List.mem_of_getElem? (i := 15) rfl))) (ty := .long) (by decide)
  refine own_dup (pc' := 29) w22 own_d4_28 rfl rfl ?_
  refine own_aloadN (pc' := 30) w22 own_d4_29 rfl rfl rfl ?_
  refine own_iconst (pc' := 31) w22 own_d4_30 (x := (0 : Int32)) rfl rfl ?_
  refine own_ldJ (pc' := 32) w22 (v := (.long (own_mh al bl))) A_a5 (by decide) rfl own_d4_31 rfl ?_
  refine own_aloadN (pc' := 33) w22 own_d4_32 rfl rfl rfl ?_
  refine own_iconst (pc' := 34) w22 own_d4_33 (x := (1 : Int32)) rfl rfl ?_
  refine own_ldJ (pc' := 35) w22 (v := (.long (al * bl))) A_a5 (by decide) rfl own_d4_34 rfl ?_
  refine own_callI (pc' := 38) w22 rfl (hw _ (List.mem_of_getElem? (i := 6) rfl)) (hw _ (List.mem_of_getElem? (i := 7) rfl)) (hw _ (List.mem_of_getElem? (i := 2) rfl)) (hw _ (List.mem_of_getElem? (i := 8) rfl)) (by decide) (own_ct_cInit l Z a0 hw EL hE n0 [] h23 (own_old w22) a25 (own_mh al bl) (al * bl) (.long 0) (.long 0) E_a25 F_a25_high F_a25_low) (allS (P := fun x => x ∈ _) (by simp) all0) (argsL := [(.long (own_mh al bl)), (.long (al * bl))]) (rest := [(.ref a25)]) rfl rfl own_pd0 rfl own_d4_35 rfl (by decide) (W := 1) rfl (by decide) (by decide) (by decide) fun T27 h29 v30 ms31 w28 q32 => ?_
  obtain ⟨K33, rfl, rfl, nw_E_a25, nw_F_a25_low, nw_F_a25_high⟩ := q32
  replace F_a1_low := F_a1_low.keep K33 (ninS ne_a1_a25 nin0)
  replace F_a1_high := F_a1_high.keep K33 (ninS ne_a1_a25 nin0)
  replace F_a2_low := F_a2_low.keep K33 (ninS ne_a2_a25 nin0)
  replace F_a2_high := F_a2_high.keep K33 (ninS ne_a2_a25 nin0)
  replace A_a5 := A_a5.keep K33 (ninS ne_a5_a25 nin0)
  replace K := K.trans K33 (allS (P := fun x => x ∈ ([] : List Addr) ∨ h0.size ≤ x) (Or.inr nw_a25) all0)
  have E_a25 := nw_E_a25; clear nw_E_a25
  have F_a25_low := nw_F_a25_low; clear nw_F_a25_low
  have F_a25_high := nw_F_a25_high; clear nw_F_a25_high
  show own_Go Z EL n0 p e below s _ _ _ (T27.setTop (mkF m 38 #[.val (.ref a1), .val (.ref a2), .val (.ref a5)] [(.ref a25)]))
  exact own_retV w28 (t := (.object "com/example/throng/throng/engine/Count")) rfl (own_narR rfl rfl) (Or.inr (Or.inr (Or.inr (Or.inr ⟨rfl, rfl, rfl⟩)))) own_d4_38 (by decide) (by decide) (ms' := []) all0 ⟨K, a25, rfl, rfl, E_a25, F_a25_low, F_a25_high, nw_a25⟩
theorem own_d5_0 : decode prog_41_method_16_code 0 = .ok (.aload_n 1, 1) := by decide +kernel
theorem own_d5_1 : decode prog_41_method_16_code 1 = .ok (.instanceof 8, 3) := by decide +kernel
theorem own_d5_4 : decode prog_41_method_16_code 4 = .ok (.ifCond .eq 36, 3) := by decide +kernel
theorem own_d5_7 : decode prog_41_method_16_code 7 = .ok (.aload_n 1, 1) := by decide +kernel
theorem own_d5_8 : decode prog_41_method_16_code 8 = .ok (.checkcast 8, 3) := by decide +kernel
theorem own_d5_11 : decode prog_41_method_16_code 11 = .ok (.astore_n 2, 1) := by decide +kernel
theorem own_d5_12 : decode prog_41_method_16_code 12 = .ok (.aload_n 2, 1) := by decide +kernel
theorem own_d5_13 : decode prog_41_method_16_code 13 = .ok (.getfield 7, 3) := by decide +kernel
theorem own_d5_16 : decode prog_41_method_16_code 16 = .ok (.aload_n 0, 1) := by decide +kernel
theorem own_d5_17 : decode prog_41_method_16_code 17 = .ok (.getfield 7, 3) := by decide +kernel
theorem own_d5_20 : decode prog_41_method_16_code 20 = .ok (.lcmp, 1) := by decide +kernel
theorem own_d5_21 : decode prog_41_method_16_code 21 = .ok (.ifCond .ne 19, 3) := by decide +kernel
theorem own_d5_24 : decode prog_41_method_16_code 24 = .ok (.aload_n 2, 1) := by decide +kernel
theorem own_d5_25 : decode prog_41_method_16_code 25 = .ok (.getfield 13, 3) := by decide +kernel
theorem own_d5_28 : decode prog_41_method_16_code 28 = .ok (.aload_n 0, 1) := by decide +kernel
theorem own_d5_29 : decode prog_41_method_16_code 29 = .ok (.getfield 13, 3) := by decide +kernel
theorem own_d5_32 : decode prog_41_method_16_code 32 = .ok (.lcmp, 1) := by decide +kernel
theorem own_d5_33 : decode prog_41_method_16_code 33 = .ok (.ifCond .ne 7, 3) := by decide +kernel
theorem own_d5_36 : decode prog_41_method_16_code 36 = .ok (.iconst 1, 1) := by decide +kernel
theorem own_d5_37 : decode prog_41_method_16_code 37 = .ok (.goto 4, 3) := by decide +kernel
theorem own_d5_41 : decode prog_41_method_16_code 41 = .ok (.ireturn, 1) := by decide +kernel
theorem own_ef_ceq (m : MethodId) (a1 : Addr) (a2 : Addr) : entryFrame m #[(.ref a1), (.ref a2)] 3 = mkF m 0 #[.val (.ref a1), .val (.ref a2), .unset] [] := by first | (simp [entryFrame, mkF, argsToLocals, Value.category]; done) | rfl
theorem own_pf5 : plainFor (⟨"com/example/throng/throng/engine/Count", "equals", "(Ljava/lang/Object;)Z"⟩ : MethodName) = true := by first | exact plainFor_of_name (by first | (simp [plainName, overriddenIn]; done) | decide +kernel) | decide +kernel
def own_Q_ceq (Z : State) (h0 : Heap) (a1 : Addr) (a2 : Addr) (ah : Int64) (al : Int64) (v : Option Value) (h : Heap) (ms : List Addr) : Prop := (h0 = h) ∧ (ms = []) ∧ (v = some (.int 1))
set_option maxRecDepth 65536 in
set_option maxHeartbeats 40000000 in
theorem own_ct_ceq (l : Launch) (Z : State) (a0 : Array Value) (hw : ∀ d ∈ tables_1, d.before a0 Z = true) (EL : List (String × Nat)) (hE : EW Z a0 EL) (n0 : Nat) (ws : List Jvm.Cond) (h0 : Heap) (O : Old Z n0 h0) (a1 : Addr) (a2 : Addr) (ah : Int64) (al : Int64) (F_a1_low : Fld Z h0 a1 "com/example/throng/throng/engine/Count" "low" "J" (.long al)) (F_a1_high : Fld Z h0 a1 "com/example/throng/throng/engine/Count" "high" "J" (.long ah)) (E_a2 : Exa Z h0 a2 "com/example/throng/throng/engine/Count") (F_a2_low : Fld Z h0 a2 "com/example/throng/throng/engine/Count" "low" "J" (.long al)) (F_a2_high : Fld Z h0 a2 "com/example/throng/throng/engine/Count" "high" "J" (.long ah)) :
    own_Ct l Z EL n0 (⟨"com/example/throng/throng/engine/Count", "equals", "(Ljava/lang/Object;)Z"⟩ : MethodName) prog_41_method_16_code 3 (some .boolean) ws ({ frames := 0, cells := 0, slots := 0, locals := 0 } : Room) #[(.ref a1), (.ref a2)] h0 [] (own_Q_ceq Z h0 a1 a2 ah al) := by
  refine own_enter (a0 := a0) own_pf5 hE O fun p e s m below meth c T0 w0 => ?_
  rw [own_ef_ceq m a1 a2]
  refine own_aloadN (pc' := 1) w0 own_d5_0 rfl rfl rfl ?_
  refine own_instY (pc' := 4) w0 (hw _ (List.mem_of_getElem? (i := 4) rfl)) (Ins.self E_a2) own_d5_1 rfl fun T1 w2 => ?_
  refine own_if (pc' := 7) w2 own_d5_4 rfl (by decide) (pcY := 40) rfl (fun (hb4 : (1 : Int32) = (0 : Int32)) => absurd hb4 (by decide)) (fun (hb4 : ¬ (1 : Int32) = (0 : Int32)) => ?_)
  refine own_aloadN (pc' := 8) w2 own_d5_7 rfl rfl rfl ?_
  refine own_castY (pc' := 11) w2 (hw _ (List.mem_of_getElem? (i := 4) rfl)) (Ins.self E_a2) own_d5_8 rfl fun T3 w4 => ?_
  refine own_astoreN (pc' := 12) w4 own_d5_11 rfl (Ls' := #[.val (.ref a1), .val (.ref a2), .val (.ref a2)]) rfl rfl ?_
  refine own_aloadN (pc' := 13) w4 own_d5_12 rfl rfl rfl ?_
  refine own_getF (pc' := 16) w4 (host := "") (Or.inl (hw _ (List.mem_of_getElem? (i := 12) rfl))) Via.refl F_a2_high own_d5_13 rfl fun T5 w6 => ?_
  refine own_aloadN (pc' := 17) w6 own_d5_16 rfl rfl rfl ?_
  refine own_getF (pc' := 20) w6 (host := "") (Or.inl (hw _ (List.mem_of_getElem? (i := 12) rfl))) Via.refl F_a1_high own_d5_17 rfl fun T7 w8 => ?_
  refine own_lcmp (pc' := 21) w8 own_d5_20 (z := (XT.cmpL ah ah)) rfl rfl ?_
  refine own_if (pc' := 24) w8 own_d5_21 rfl (by decide) (pcY := 40) rfl (fun (hb21 : ¬ (XT.cmpL ah ah) = (0 : Int32)) => absurd (own_cmp0 rfl) hb21) (fun (hb21 : (XT.cmpL ah ah) = (0 : Int32)) => ?_)
  refine own_aloadN (pc' := 25) w8 own_d5_24 rfl rfl rfl ?_
  refine own_getF (pc' := 28) w8 (host := "") (Or.inl (hw _ (List.mem_of_getElem? (i := 14) rfl))) Via.refl F_a2_low own_d5_25 rfl fun T9 w10 => ?_
  refine own_aloadN (pc' := 29) w10 own_d5_28 rfl rfl rfl ?_
  refine own_getF (pc' := 32) w10 (host := "") (Or.inl (hw _ (List.mem_of_getElem? (i := 14) rfl))) Via.refl F_a1_low own_d5_29 rfl fun T11 w12 => ?_
  refine own_lcmp (pc' := 33) w12 own_d5_32 (z := (XT.cmpL al al)) rfl rfl ?_
  refine own_if (pc' := 36) w12 own_d5_33 rfl (by decide) (pcY := 40) rfl (fun (hb33 : ¬ (XT.cmpL al al) = (0 : Int32)) => absurd (own_cmp0 rfl) hb33) (fun (hb33 : (XT.cmpL al al) = (0 : Int32)) => ?_)
  refine own_iconst (pc' := 37) w12 own_d5_36 (x := (1 : Int32)) rfl rfl ?_
  refine own_goto w12 own_d5_37 (by decide) (pc' := 41) rfl ?_
  exact own_retV w12 (t := .boolean) rfl rfl (Or.inl ⟨rfl, by simp, _, rfl⟩) own_d5_41 (by decide) (by decide) (ms' := []) all0 ⟨rfl, rfl, rfl⟩
def own_lc (x y : Int64) : Int32 := if x < y then -1 else if x = y then 0 else 1
def own_mn64 : Int64 := -9223372036854775808
theorem own_lcA {x y : Int64} (h : XT.cmpL x y < 0) : own_lc x y = -1 := by
  have q : x < y := by
    unfold XT.cmpL at h; split at h
    · exact absurd h (by decide)
    · split at h
      · exact absurd h (by decide)
      · rename_i h1 h2
        rw [Int64.lt_iff_toInt_lt] at h1 ⊢
        have : x.toInt ≠ y.toInt := fun e => h2 (Int64.toInt_inj.mp e)
        omega
  simp [own_lc, q]
theorem own_lcB {x y : Int64} (h : XT.cmpL x y = 0) : own_lc x y = 0 := by
  have q : x = y := by
    unfold XT.cmpL at h; split at h
    · exact absurd h (by decide)
    · split at h
      · assumption
      · exact absurd h (by decide)
  subst q; simp [own_lc, Int64.lt_irrefl]
theorem own_lcC {x y : Int64} (h1 : ¬ XT.cmpL x y < 0) (h2 : ¬ XT.cmpL x y = 0) : own_lc x y = 1 := by
  unfold XT.cmpL at h1 h2; split at h1
  · rename_i q
    have n1 : ¬ x < y := by rw [Int64.lt_iff_toInt_lt] at q ⊢; omega
    have n2 : ¬ x = y := fun e => by subst e; exact absurd q Int64.lt_irrefl
    simp [own_lc, n1, n2]
  · split at h1
    · simp_all
    · exact absurd (by decide) h1
def own_sh (ah bh sl al : Int64) : Int64 := ah + bh + (if own_lc (sl + own_mn64) (al + own_mn64) < 0 then 1 else 0)
theorem own_lcr (x y : Int64) : own_lc x y = -1 ∨ own_lc x y = 0 ∨ own_lc x y = 1 := by unfold own_lc; split <;> (try split) <;> simp
theorem own_sgb (d : Int64) : (own_sgn d).toInt = -1 ∨ (own_sgn d).toInt = 0 := by
  have e := Jvm.Kit.i64_shr d ((63 : Int32).toInt64 &&& 63) (k := 63) (by decide +kernel)
  have h1 := d.le_toInt; have h2 := d.toInt_lt
  unfold own_sgn; rw [e]; omega
theorem own_shv {ah bh : Int64} (sl al : Int64) (h1 : -4611686022722355200 ≤ ah.toInt) (h2 : ah.toInt ≤ 4611686022722355200) (hb : bh.toInt = -1 ∨ bh.toInt = 0) : ∃ cy : Int, (cy = 0 ∨ cy = 1) ∧ (own_sh ah bh sl al).toInt = ah.toInt + bh.toInt + cy := by
  have e1 : (ah + bh).toInt = ah.toInt + bh.toInt := Jvm.Kit.i64_add (by omega) (by omega)
  unfold own_sh; split
  · exact ⟨1, Or.inr rfl, by rw [Jvm.Kit.i64_add] <;> (have : (1 : Int64).toInt = 1 := rfl; omega)⟩
  · exact ⟨0, Or.inl rfl, by rw [Jvm.Kit.i64_add] <;> (have : (0 : Int64).toInt = 0 := rfl; omega)⟩
theorem own_neg_and (a b : Int64) : (a &&& b) < 0 ↔ (a < 0 ∧ b < 0) := by
  simp only [Int64.lt_iff_toInt_lt, Int64.toInt_zero]
  have e : ∀ x : Int64, x.toInt < 0 ↔ x.toBitVec.msb = true := fun x => by
    rw [BitVec.msb_eq_toInt, decide_eq_true_eq]; rfl
  rw [e, e, e, Int64.toBitVec_and, BitVec.msb_and]; simp
theorem own_neg_xor (a b : Int64) : (a ^^^ b) < 0 ↔ ¬ (a < 0 ↔ b < 0) := by
  simp only [Int64.lt_iff_toInt_lt, Int64.toInt_zero]
  have e : ∀ x : Int64, x.toInt < 0 ↔ x.toBitVec.msb = true := fun x => by
    rw [BitVec.msb_eq_toInt, decide_eq_true_eq]; rfl
  rw [e, e, e, Int64.toBitVec_xor, BitVec.msb_xor]
  cases a.toBitVec.msb <;> cases b.toBitVec.msb <;> simp
theorem own_noov {ah bh : Int64} (sl al : Int64) (h1 : -4611686022722355200 ≤ ah.toInt) (h2 : ah.toInt ≤ 4611686022722355200) (hb : bh.toInt = -1 ∨ bh.toInt = 0) : ¬ XT.cmpL ((ah ^^^ own_sh ah bh sl al) &&& (bh ^^^ own_sh ah bh sl al)) 0 < 0 := by
  obtain ⟨cy, hc, e⟩ := own_shv sl al h1 h2 hb
  intro h
  have q : ((ah ^^^ own_sh ah bh sl al) &&& (bh ^^^ own_sh ah bh sl al)) < 0 := by
    unfold XT.cmpL at h; split at h
    · exact absurd h (by decide)
    · split at h
      · exact absurd h (by decide)
      · rename_i r1 r2
        rw [Int64.lt_iff_toInt_lt] at r1 ⊢
        have : (((ah ^^^ own_sh ah bh sl al) &&& (bh ^^^ own_sh ah bh sl al))).toInt ≠ (0 : Int64).toInt := fun z => r2 (Int64.toInt_inj.mp z)
        omega
  rw [own_neg_and, own_neg_xor, own_neg_xor] at q
  simp only [Int64.lt_iff_toInt_lt, Int64.toInt_zero] at q
  rw [e] at q
  omega
theorem own_nomin {ah bh : Int64} (sl al : Int64) (h1 : -4611686022722355200 ≤ ah.toInt) (h2 : ah.toInt ≤ 4611686022722355200) (hb : bh.toInt = -1 ∨ bh.toInt = 0) : ¬ XT.cmpL (own_sh ah bh sl al) (-9223372036854775808) = 0 := by
  obtain ⟨cy, hc, e⟩ := own_shv sl al h1 h2 hb
  intro h
  have q : own_sh ah bh sl al = -9223372036854775808 := by
    unfold XT.cmpL at h; split at h
    · exact absurd h (by decide)
    · split at h
      · assumption
      · exact absurd h (by decide)
  rw [q] at e
  have : (-9223372036854775808 : Int64).toInt = -9223372036854775808 := rfl
  omega
theorem own_d6_0 : decode jdk_35_method_42_code 0 = .ok (.lload_n 0, 1) := by decide +kernel
theorem own_d6_1 : decode jdk_35_method_42_code 1 = .ok (.lload_n 2, 1) := by decide +kernel
theorem own_d6_2 : decode jdk_35_method_42_code 2 = .ok (.lcmp, 1) := by decide +kernel
theorem own_d6_3 : decode jdk_35_method_42_code 3 = .ok (.ifCond .ge 7, 3) := by decide +kernel
theorem own_d6_10 : decode jdk_35_method_42_code 10 = .ok (.lload_n 0, 1) := by decide +kernel
theorem own_d6_11 : decode jdk_35_method_42_code 11 = .ok (.lload_n 2, 1) := by decide +kernel
theorem own_d6_12 : decode jdk_35_method_42_code 12 = .ok (.lcmp, 1) := by decide +kernel
theorem own_d6_13 : decode jdk_35_method_42_code 13 = .ok (.ifCond .ne 7, 3) := by decide +kernel
theorem own_d6_20 : decode jdk_35_method_42_code 20 = .ok (.iconst 1, 1) := by decide +kernel
theorem own_d6_21 : decode jdk_35_method_42_code 21 = .ok (.ireturn, 1) := by decide +kernel
theorem own_d6_16 : decode jdk_35_method_42_code 16 = .ok (.iconst 0, 1) := by decide +kernel
theorem own_d6_17 : decode jdk_35_method_42_code 17 = .ok (.goto 4, 3) := by decide +kernel
theorem own_d6_6 : decode jdk_35_method_42_code 6 = .ok (.iconst (-1), 1) := by decide +kernel
theorem own_d6_7 : decode jdk_35_method_42_code 7 = .ok (.goto 14, 3) := by decide +kernel
theorem own_ef_lcmp (m : MethodId) (xx : Int64) (yy : Int64) : entryFrame m #[(.long xx), (.long yy)] 4 = mkF m 0 #[.val (.long xx), .second, .val (.long yy), .second] [] := by first | (simp [entryFrame, mkF, argsToLocals, Value.category]; done) | rfl
theorem own_pf6 : plainFor (⟨"java/lang/Long", "compare", "(JJ)I"⟩ : MethodName) = true := by first | exact plainFor_of_name (by first | (simp [plainName, overriddenIn]; done) | decide +kernel) | decide +kernel
def own_Q_lcmp (Z : State) (h0 : Heap) (xx : Int64) (yy : Int64) (v : Option Value) (h : Heap) (ms : List Addr) : Prop := (h0 = h) ∧ (ms = []) ∧ (v = some (.int (own_lc xx yy)))
set_option maxRecDepth 65536 in
set_option maxHeartbeats 40000000 in
theorem own_ct_lcmp (l : Launch) (Z : State) (a0 : Array Value) (hw : ∀ d ∈ tables_1, d.before a0 Z = true) (EL : List (String × Nat)) (hE : EW Z a0 EL) (n0 : Nat) (ws : List Jvm.Cond) (h0 : Heap) (O : Old Z n0 h0) (xx : Int64) (yy : Int64)  :
    own_Ct l Z EL n0 (⟨"java/lang/Long", "compare", "(JJ)I"⟩ : MethodName) jdk_35_method_42_code 4 (some .int) ws ({ frames := 0, cells := 0, slots := 0, locals := 0 } : Room) #[(.long xx), (.long yy)] h0 [] (own_Q_lcmp Z h0 xx yy) := by
  refine own_enter (a0 := a0) own_pf6 hE O fun p e s m below meth c T0 w0 => ?_
  rw [own_ef_lcmp m xx yy]
  refine own_lloadN (pc' := 1) w0 own_d6_0 rfl rfl ?_
  refine own_lloadN (pc' := 2) w0 own_d6_1 rfl rfl ?_
  refine own_lcmp (pc' := 3) w0 own_d6_2 (z := (XT.cmpL xx yy)) rfl rfl ?_
  refine own_if (pc' := 6) w0 own_d6_3 rfl (by decide) (pcY := 10) rfl (fun (hb3 : ¬ (XT.cmpL xx yy) < (0 : Int32)) => ?_) (fun (hb3 : (XT.cmpL xx yy) < (0 : Int32)) => ?_)
  · -- t
    refine own_lloadN (pc' := 11) w0 own_d6_10 rfl rfl ?_
    refine own_lloadN (pc' := 12) w0 own_d6_11 rfl rfl ?_
    refine own_lcmp (pc' := 13) w0 own_d6_12 (z := (XT.cmpL xx yy)) rfl rfl ?_
    refine own_if (pc' := 16) w0 own_d6_13 rfl (by decide) (pcY := 20) rfl (fun (hb13 : ¬ (XT.cmpL xx yy) = (0 : Int32)) => ?_) (fun (hb13 : (XT.cmpL xx yy) = (0 : Int32)) => ?_)
    · -- tt
      refine own_iconst (pc' := 21) w0 own_d6_20 (x := (1 : Int32)) rfl rfl ?_
      exact own_retV w0 (t := .int) rfl rfl (Or.inl ⟨rfl, by simp, _, rfl⟩) own_d6_21 (by decide) (by decide) (ms' := []) all0 ⟨rfl, rfl, (by rw [own_lcC hb3 hb13])⟩
    · -- tf
      refine own_iconst (pc' := 17) w0 own_d6_16 (x := (0 : Int32)) rfl rfl ?_
      refine own_goto w0 own_d6_17 (by decide) (pc' := 21) rfl ?_
      exact own_retV w0 (t := .int) rfl rfl (Or.inl ⟨rfl, by simp, _, rfl⟩) own_d6_21 (by decide) (by decide) (ms' := []) all0 ⟨rfl, rfl, (by rw [own_lcB hb13])⟩
  · -- f
    refine own_iconst (pc' := 7) w0 own_d6_6 (x := (-1 : Int32)) rfl rfl ?_
    refine own_goto w0 own_d6_7 (by decide) (pc' := 21) rfl ?_
    exact own_retV w0 (t := .int) rfl rfl (Or.inl ⟨rfl, by simp, _, rfl⟩) own_d6_21 (by decide) (by decide) (ms' := []) all0 ⟨rfl, rfl, (by rw [own_lcA hb3])⟩
theorem own_d7_0 : decode jdk_35_method_43_code 0 = .ok (.lload_n 0, 1) := by decide +kernel
theorem own_d7_1 : decode jdk_35_method_43_code 1 = .ok (.ldc2_w 168, 3) := by decide +kernel
theorem own_d7_4 : decode jdk_35_method_43_code 4 = .ok (.ladd, 1) := by decide +kernel
theorem own_d7_5 : decode jdk_35_method_43_code 5 = .ok (.lload_n 2, 1) := by decide +kernel
theorem own_d7_6 : decode jdk_35_method_43_code 6 = .ok (.ldc2_w 168, 3) := by decide +kernel
theorem own_d7_9 : decode jdk_35_method_43_code 9 = .ok (.ladd, 1) := by decide +kernel
theorem own_d7_10 : decode jdk_35_method_43_code 10 = .ok (.invokestatic 302, 3) := by decide +kernel
theorem own_pd3 : parseMethodDescriptor "(JJ)I" = some ⟨[.long, .long], some .int⟩ := by decide +kernel
theorem own_d7_13 : decode jdk_35_method_43_code 13 = .ok (.ireturn, 1) := by decide +kernel
theorem own_ef_lcmpU (m : MethodId) (xx : Int64) (yy : Int64) : entryFrame m #[(.long xx), (.long yy)] 4 = mkF m 0 #[.val (.long xx), .second, .val (.long yy), .second] [] := by first | (simp [entryFrame, mkF, argsToLocals, Value.category]; done) | rfl
theorem own_pf7 : plainFor (⟨"java/lang/Long", "compareUnsigned", "(JJ)I"⟩ : MethodName) = true := by first | exact plainFor_of_name (by first | (simp [plainName, overriddenIn]; done) | decide +kernel) | decide +kernel
def own_Q_lcmpU (Z : State) (h0 : Heap) (xx : Int64) (yy : Int64) (v : Option Value) (h : Heap) (ms : List Addr) : Prop := (h0 = h) ∧ (ms = []) ∧ (v = some (.int (own_lc (xx + own_mn64) (yy + own_mn64))))
set_option maxRecDepth 65536 in
set_option maxHeartbeats 40000000 in
theorem own_ct_lcmpU (l : Launch) (Z : State) (a0 : Array Value) (hw : ∀ d ∈ tables_1, d.before a0 Z = true) (EL : List (String × Nat)) (hE : EW Z a0 EL) (n0 : Nat) (ws : List Jvm.Cond) (h0 : Heap) (O : Old Z n0 h0) (xx : Int64) (yy : Int64)  :
    own_Ct l Z EL n0 (⟨"java/lang/Long", "compareUnsigned", "(JJ)I"⟩ : MethodName) jdk_35_method_43_code 4 (some .int) ws ({ frames := 1, cells := 0, slots := 0, locals := 15 } : Room) #[(.long xx), (.long yy)] h0 [] (own_Q_lcmpU Z h0 xx yy) := by
  refine own_enter (a0 := a0) own_pf7 hE O fun p e s m below meth c T0 w0 => ?_
  rw [own_ef_lcmpU m xx yy]
  refine own_lloadN (pc' := 1) w0 own_d7_0 rfl rfl ?_
  refine own_ldc2J (pc' := 4) w0 (hw _ (List.mem_of_getElem? (i := 42) rfl)) own_d7_1 rfl ?_
  refine own_ladd (pc' := 5) w0 own_d7_4 (z := (xx + own_mn64)) rfl rfl ?_
  refine own_lloadN (pc' := 6) w0 own_d7_5 rfl rfl ?_
  refine own_ldc2J (pc' := 9) w0 (hw _ (List.mem_of_getElem? (i := 42) rfl)) own_d7_6 rfl ?_
  refine own_ladd (pc' := 10) w0 own_d7_9 (z := (yy + own_mn64)) rfl rfl ?_
  refine own_callS (pc' := 13) w0 (hw _ (List.mem_of_getElem? (i := 43) rfl)) (hw _ (List.mem_of_getElem? (i := 44) rfl)) (hw _ (List.mem_of_getElem? (i := 40) rfl)) (hw _ (List.mem_of_getElem? (i := 45) rfl)) (by decide) (own_ct_lcmp l Z a0 hw EL hE n0 [] h0 (own_old w0) (xx + own_mn64) (yy + own_mn64) ) all0 (argsL := [(.long (xx + own_mn64)), (.long (yy + own_mn64))]) (rest := []) rfl rfl own_pd3 rfl own_d7_10 rfl (by decide) (W := 0) rfl (by decide) (by decide) (by decide) fun T1 h3 v4 ms5 w2 q6 => ?_
  obtain ⟨rfl, rfl, rfl⟩ := q6
  show own_Go Z EL n0 p e below s _ _ _ (T1.setTop (mkF m 13 #[.val (.long xx), .second, .val (.long yy), .second] [(.int (own_lc (xx + own_mn64) (yy + own_mn64)))]))
  exact own_retV w2 (t := .int) rfl rfl (Or.inl ⟨rfl, by simp, _, rfl⟩) own_d7_13 (by decide) (by decide) (ms' := []) all0 ⟨rfl, rfl, rfl⟩
theorem own_d8_0 : decode prog_41_method_5_code 0 = .ok (.lload_n 2, 1) := by decide +kernel
theorem own_d8_1 : decode prog_41_method_5_code 1 = .ok (.lload 6, 2) := by decide +kernel
theorem own_d8_3 : decode prog_41_method_5_code 3 = .ok (.ladd, 1) := by decide +kernel
theorem own_d8_4 : decode prog_41_method_5_code 4 = .ok (.lstore 10, 2) := by decide +kernel
theorem own_d8_6 : decode prog_41_method_5_code 6 = .ok (.lload_n 0, 1) := by decide +kernel
theorem own_d8_7 : decode prog_41_method_5_code 7 = .ok (.lload 4, 2) := by decide +kernel
theorem own_d8_9 : decode prog_41_method_5_code 9 = .ok (.ladd, 1) := by decide +kernel
theorem own_d8_10 : decode prog_41_method_5_code 10 = .ok (.lload 10, 2) := by decide +kernel
theorem own_d8_12 : decode prog_41_method_5_code 12 = .ok (.lload_n 2, 1) := by decide +kernel
theorem own_d8_13 : decode prog_41_method_5_code 13 = .ok (.invokestatic 33, 3) := by decide +kernel
theorem own_d8_16 : decode prog_41_method_5_code 16 = .ok (.ifCond .ge 7, 3) := by decide +kernel
theorem own_d8_23 : decode prog_41_method_5_code 23 = .ok (.iconst 0, 1) := by decide +kernel
theorem own_d8_24 : decode prog_41_method_5_code 24 = .ok (.i2l, 1) := by decide +kernel
theorem own_d8_25 : decode prog_41_method_5_code 25 = .ok (.ladd, 1) := by decide +kernel
theorem own_d8_26 : decode prog_41_method_5_code 26 = .ok (.lstore 12, 2) := by decide +kernel
theorem own_d8_28 : decode prog_41_method_5_code 28 = .ok (.lload_n 0, 1) := by decide +kernel
theorem own_d8_29 : decode prog_41_method_5_code 29 = .ok (.lload 12, 2) := by decide +kernel
theorem own_d8_31 : decode prog_41_method_5_code 31 = .ok (.lxor, 1) := by decide +kernel
theorem own_d8_32 : decode prog_41_method_5_code 32 = .ok (.lload 4, 2) := by decide +kernel
theorem own_d8_34 : decode prog_41_method_5_code 34 = .ok (.lload 12, 2) := by decide +kernel
theorem own_d8_36 : decode prog_41_method_5_code 36 = .ok (.lxor, 1) := by decide +kernel
theorem own_d8_37 : decode prog_41_method_5_code 37 = .ok (.land, 1) := by decide +kernel
theorem own_d8_38 : decode prog_41_method_5_code 38 = .ok (.lconst 0, 1) := by decide +kernel
theorem own_d8_39 : decode prog_41_method_5_code 39 = .ok (.lcmp, 1) := by decide +kernel
theorem own_d8_40 : decode prog_41_method_5_code 40 = .ok (.ifCond .ge 14, 3) := by decide +kernel
theorem own_d8_54 : decode prog_41_method_5_code 54 = .ok (.lload 12, 2) := by decide +kernel
theorem own_d8_56 : decode prog_41_method_5_code 56 = .ok (.ldc2_w 41, 3) := by decide +kernel
theorem own_d8_59 : decode prog_41_method_5_code 59 = .ok (.lcmp, 1) := by decide +kernel
theorem own_d8_60 : decode prog_41_method_5_code 60 = .ok (.ifCond .ne 22, 3) := by decide +kernel
theorem own_d8_82 : decode prog_41_method_5_code 82 = .ok (.aload 8, 2) := by decide +kernel
theorem own_d8_84 : decode prog_41_method_5_code 84 = .ok (.iload 9, 2) := by decide +kernel
theorem own_d8_86 : decode prog_41_method_5_code 86 = .ok (.lload 12, 2) := by decide +kernel
theorem own_d8_88 : decode prog_41_method_5_code 88 = .ok (.lastore, 1) := by decide +kernel
theorem own_d8_89 : decode prog_41_method_5_code 89 = .ok (.aload 8, 2) := by decide +kernel
theorem own_d8_91 : decode prog_41_method_5_code 91 = .ok (.iload 9, 2) := by decide +kernel
theorem own_d8_93 : decode prog_41_method_5_code 93 = .ok (.iconst 1, 1) := by decide +kernel
theorem own_d8_94 : decode prog_41_method_5_code 94 = .ok (.iadd, 1) := by decide +kernel
theorem own_d8_95 : decode prog_41_method_5_code 95 = .ok (.lload 10, 2) := by decide +kernel
theorem own_d8_97 : decode prog_41_method_5_code 97 = .ok (.lastore, 1) := by decide +kernel
theorem own_d8_98 : decode prog_41_method_5_code 98 = .ok (.return_, 1) := by decide +kernel
theorem own_d8_19 : decode prog_41_method_5_code 19 = .ok (.iconst 1, 1) := by decide +kernel
theorem own_d8_20 : decode prog_41_method_5_code 20 = .ok (.goto 4, 3) := by decide +kernel
theorem own_ef_plusS (m : MethodId) (ah : Int64) (al : Int64) (bh : Int64) (bl : Int64) (to : Addr) : entryFrame m #[(.long ah), (.long al), (.long bh), (.long bl), (.ref to), (.int (0 : Int32))] 14 = mkF m 0 #[.val (.long ah), .second, .val (.long al), .second, .val (.long bh), .second, .val (.long bl), .second, .val (.ref to), .val (.int (0 : Int32)), .unset, .unset, .unset, .unset] [] := by first | (simp [entryFrame, mkF, argsToLocals, Value.category]; done) | rfl
theorem own_pf8 : plainFor (⟨"com/example/throng/throng/engine/Count", "plus", "(JJJJ[JI)V"⟩ : MethodName) = true := by first | exact plainFor_of_name (by first | (simp [plainName, overriddenIn]; done) | decide +kernel) | decide +kernel
def own_Q_plusS (Z : State) (h0 : Heap) (ah : Int64) (al : Int64) (bh : Int64) (bl : Int64) (to : Addr) (kt : ClassId) (v : Option Value) (h : Heap) (ms : List Addr) : Prop := (Keep h0 h [to]) ∧ (ms = []) ∧ (v = none) ∧ (Arv Z h to kt .long (2 : Int32) [(.long (own_sh ah bh (al + bl) al)), (.long (al + bl))] (.long 0))
set_option maxRecDepth 65536 in
set_option maxHeartbeats 40000000 in
theorem own_ct_plusS (l : Launch) (Z : State) (a0 : Array Value) (hw : ∀ d ∈ tables_1, d.before a0 Z = true) (EL : List (String × Nat)) (hE : EW Z a0 EL) (n0 : Nat) (ws : List Jvm.Cond) (h0 : Heap) (O : Old Z n0 h0) (ah : Int64) (al : Int64) (bh : Int64) (bl : Int64) (to : Addr) (kt : ClassId) (A_to : Arv Z h0 to kt .long (2 : Int32) [(.long 0), (.long 0)] (.long 0)) (b1 : -4611686022722355200 ≤ ah.toInt) (b2 : ah.toInt ≤ 4611686022722355200) (b3 : bh.toInt = -1 ∨ bh.toInt = 0) :
    own_Ct l Z EL n0 (⟨"com/example/throng/throng/engine/Count", "plus", "(JJJJ[JI)V"⟩ : MethodName) prog_41_method_5_code 14 none ws ({ frames := 2, cells := 0, slots := 0, locals := 32 } : Room) #[(.long ah), (.long al), (.long bh), (.long bl), (.ref to), (.int (0 : Int32))] h0 [to] (own_Q_plusS Z h0 ah al bh bl to kt) := by
  refine own_enter (a0 := a0) own_pf8 hE O fun p e s m below meth c T0 w0 => ?_
  rw [own_ef_plusS m ah al bh bl to]
  have K : Keep h0 h0 [to] := Keep.refl _ _
  refine own_lloadN (pc' := 1) w0 own_d8_0 rfl rfl ?_
  refine own_lload (pc' := 3) w0 own_d8_1 rfl rfl ?_
  refine own_ladd (pc' := 4) w0 own_d8_3 (z := (al + bl)) rfl rfl ?_
  refine own_lstore (pc' := 6) w0 own_d8_4 (Ls' := #[.val (.long ah), .second, .val (.long al), .second, .val (.long bh), .second, .val (.long bl), .second, .val (.ref to), .val (.int (0 : Int32)), .val (.long (al + bl)), .second, .unset, .unset]) rfl rfl ?_
  refine own_lloadN (pc' := 7) w0 own_d8_6 rfl rfl ?_
  refine own_lload (pc' := 9) w0 own_d8_7 rfl rfl ?_
  refine own_ladd (pc' := 10) w0 own_d8_9 (z := (ah + bh)) rfl rfl ?_
  refine own_lload (pc' := 12) w0 own_d8_10 rfl rfl ?_
  refine own_lloadN (pc' := 13) w0 own_d8_12 rfl rfl ?_
  refine own_callS (pc' := 16) w0 (hw _ (List.mem_of_getElem? (i := 38) rfl)) (hw _ (List.mem_of_getElem? (i := 39) rfl)) (hw _ (List.mem_of_getElem? (i := 40) rfl)) (hw _ (List.mem_of_getElem? (i := 41) rfl)) (by decide) (own_ct_lcmpU l Z a0 hw EL hE n0 [] h0 (own_old w0) (al + bl) al ) all0 (argsL := [(.long (al + bl)), (.long al)]) (rest := [(.long (ah + bh))]) rfl rfl own_pd3 rfl own_d8_13 rfl (by decide) (W := 2) rfl (by decide) (by decide) (by decide) fun T1 h3 v4 ms5 w2 q6 => ?_
  obtain ⟨rfl, rfl, rfl⟩ := q6
  show own_Go Z EL n0 p e below s _ _ _ (T1.setTop (mkF m 16 #[.val (.long ah), .second, .val (.long al), .second, .val (.long bh), .second, .val (.long bl), .second, .val (.ref to), .val (.int (0 : Int32)), .val (.long (al + bl)), .second, .unset, .unset] [(.int (own_lc ((al + bl) + own_mn64) (al + own_mn64))), (.long (ah + bh))]))
  refine own_if (pc' := 19) w2 own_d8_16 rfl (by decide) (pcY := 23) rfl (fun (hb16 : ¬ (own_lc ((al + bl) + own_mn64) (al + own_mn64)) < (0 : Int32)) => ?_) (fun (hb16 : (own_lc ((al + bl) + own_mn64) (al + own_mn64)) < (0 : Int32)) => ?_)
  · -- t
    refine own_iconst (pc' := 24) w2 own_d8_23 (x := (0 : Int32)) rfl rfl ?_
    refine own_i2l (pc' := 25) w2 own_d8_24 (z := ((0 : Int32).toInt64)) rfl rfl ?_
    refine own_ladd (pc' := 26) w2 own_d8_25 (z := (own_sh ah bh (al + bl) al)) (by unfold own_sh; rw [if_neg hb16]; rfl) rfl ?_
    refine own_lstore (pc' := 28) w2 own_d8_26 (Ls' := #[.val (.long ah), .second, .val (.long al), .second, .val (.long bh), .second, .val (.long bl), .second, .val (.ref to), .val (.int (0 : Int32)), .val (.long (al + bl)), .second, .val (.long (own_sh ah bh (al + bl) al)), .second]) rfl rfl ?_
    refine own_lloadN (pc' := 29) w2 own_d8_28 rfl rfl ?_
    refine own_lload (pc' := 31) w2 own_d8_29 rfl rfl ?_
    refine own_lxor (pc' := 32) w2 own_d8_31 (z := (ah ^^^ (own_sh ah bh (al + bl) al))) rfl rfl ?_
    refine own_lload (pc' := 34) w2 own_d8_32 rfl rfl ?_
    refine own_lload (pc' := 36) w2 own_d8_34 rfl rfl ?_
    refine own_lxor (pc' := 37) w2 own_d8_36 (z := (bh ^^^ (own_sh ah bh (al + bl) al))) rfl rfl ?_
    refine own_land (pc' := 38) w2 own_d8_37 (z := ((ah ^^^ (own_sh ah bh (al + bl) al)) &&& (bh ^^^ (own_sh ah bh (al + bl) al)))) rfl rfl ?_
    refine own_lconst (pc' := 39) w2 own_d8_38 (x := (0 : Int64)) rfl rfl ?_
    refine own_lcmp (pc' := 40) w2 own_d8_39 (z := (XT.cmpL ((ah ^^^ (own_sh ah bh (al + bl) al)) &&& (bh ^^^ (own_sh ah bh (al + bl) al))) (0 : Int64))) rfl rfl ?_
    refine own_if (pc' := 43) w2 own_d8_40 rfl (by decide) (pcY := 54) rfl (fun (hb40 : ¬ (XT.cmpL ((ah ^^^ (own_sh ah bh (al + bl) al)) &&& (bh ^^^ (own_sh ah bh (al + bl) al))) (0 : Int64)) < (0 : Int32)) => ?_) (fun (hb40 : (XT.cmpL ((ah ^^^ (own_sh ah bh (al + bl) al)) &&& (bh ^^^ (own_sh ah bh (al + bl) al))) (0 : Int64)) < (0 : Int32)) => absurd hb40 (own_noov _ _ b1 b2 b3))
    refine own_lload (pc' := 56) w2 own_d8_54 rfl rfl ?_
    refine own_ldc2J (pc' := 59) w2 (hw _ (List.mem_of_getElem? (i := 46) rfl)) own_d8_56 rfl ?_
    refine own_lcmp (pc' := 60) w2 own_d8_59 (z := (XT.cmpL (own_sh ah bh (al + bl) al) (-9223372036854775808 : Int64))) rfl rfl ?_
    refine own_if (pc' := 63) w2 own_d8_60 rfl (by decide) (pcY := 82) rfl (fun (hb60 : ¬ (XT.cmpL (own_sh ah bh (al + bl) al) (-9223372036854775808 : Int64)) = (0 : Int32)) => ?_) (fun (hb60 : (XT.cmpL (own_sh ah bh (al + bl) al) (-9223372036854775808 : Int64)) = (0 : Int32)) => absurd hb60 (own_nomin _ _ b1 b2 b3))
    refine own_aload (pc' := 84) w2 own_d8_82 rfl rfl rfl ?_
    refine own_iload (pc' := 86) w2 own_d8_84 rfl rfl ?_
    refine own_lload (pc' := 88) w2 own_d8_86 rfl rfl ?_
    refine own_stJ (pc' := 89) w2 (i := 0) (xv := (.long (own_sh ah bh (al + bl) al))) (vs' := [(.long (own_sh ah bh (al + bl) al)), (.long 0)]) (by simp) A_to (by decide) rfl (Nat.lt_of_sub_eq_succ rfl) rfl rfl rfl own_d8_88 rfl fun T7 h9 w8 W10 A_new => ?_
    clear A_to
    replace K := K.wr W10 (Or.inl (by simp))
    have A_to := A_new
    clear A_new
    refine own_aload (pc' := 91) w8 own_d8_89 rfl rfl rfl ?_
    refine own_iload (pc' := 93) w8 own_d8_91 rfl rfl ?_
    refine own_iconst (pc' := 94) w8 own_d8_93 (x := (1 : Int32)) rfl rfl ?_
    refine own_iadd (pc' := 95) w8 own_d8_94 (z := (1 : Int32)) (by decide) rfl ?_
    refine own_lload (pc' := 97) w8 own_d8_95 rfl rfl ?_
    refine own_stJ (pc' := 98) w8 (i := 1) (xv := (.long (al + bl))) (vs' := [(.long (own_sh ah bh (al + bl) al)), (.long (al + bl))]) (by simp) A_to (by decide) rfl (Nat.lt_of_sub_eq_succ rfl) rfl rfl rfl own_d8_97 rfl fun T11 h13 w12 W14 A_new => ?_
    clear A_to
    replace K := K.wr W14 (Or.inl (by simp))
    have A_to := A_new
    clear A_new
    exact own_ret0 w12 rfl own_d8_98 (by decide) (by decide) (ms' := []) all0 ⟨K, rfl, rfl, A_to⟩
  · -- f
    refine own_iconst (pc' := 20) w2 own_d8_19 (x := (1 : Int32)) rfl rfl ?_
    refine own_goto w2 own_d8_20 (by decide) (pc' := 24) rfl ?_
    refine own_i2l (pc' := 25) w2 own_d8_24 (z := ((1 : Int32).toInt64)) rfl rfl ?_
    refine own_ladd (pc' := 26) w2 own_d8_25 (z := (own_sh ah bh (al + bl) al)) (by unfold own_sh; rw [if_pos hb16]; rfl) rfl ?_
    refine own_lstore (pc' := 28) w2 own_d8_26 (Ls' := #[.val (.long ah), .second, .val (.long al), .second, .val (.long bh), .second, .val (.long bl), .second, .val (.ref to), .val (.int (0 : Int32)), .val (.long (al + bl)), .second, .val (.long (own_sh ah bh (al + bl) al)), .second]) rfl rfl ?_
    refine own_lloadN (pc' := 29) w2 own_d8_28 rfl rfl ?_
    refine own_lload (pc' := 31) w2 own_d8_29 rfl rfl ?_
    refine own_lxor (pc' := 32) w2 own_d8_31 (z := (ah ^^^ (own_sh ah bh (al + bl) al))) rfl rfl ?_
    refine own_lload (pc' := 34) w2 own_d8_32 rfl rfl ?_
    refine own_lload (pc' := 36) w2 own_d8_34 rfl rfl ?_
    refine own_lxor (pc' := 37) w2 own_d8_36 (z := (bh ^^^ (own_sh ah bh (al + bl) al))) rfl rfl ?_
    refine own_land (pc' := 38) w2 own_d8_37 (z := ((ah ^^^ (own_sh ah bh (al + bl) al)) &&& (bh ^^^ (own_sh ah bh (al + bl) al)))) rfl rfl ?_
    refine own_lconst (pc' := 39) w2 own_d8_38 (x := (0 : Int64)) rfl rfl ?_
    refine own_lcmp (pc' := 40) w2 own_d8_39 (z := (XT.cmpL ((ah ^^^ (own_sh ah bh (al + bl) al)) &&& (bh ^^^ (own_sh ah bh (al + bl) al))) (0 : Int64))) rfl rfl ?_
    refine own_if (pc' := 43) w2 own_d8_40 rfl (by decide) (pcY := 54) rfl (fun (hb40 : ¬ (XT.cmpL ((ah ^^^ (own_sh ah bh (al + bl) al)) &&& (bh ^^^ (own_sh ah bh (al + bl) al))) (0 : Int64)) < (0 : Int32)) => ?_) (fun (hb40 : (XT.cmpL ((ah ^^^ (own_sh ah bh (al + bl) al)) &&& (bh ^^^ (own_sh ah bh (al + bl) al))) (0 : Int64)) < (0 : Int32)) => absurd hb40 (own_noov _ _ b1 b2 b3))
    refine own_lload (pc' := 56) w2 own_d8_54 rfl rfl ?_
    refine own_ldc2J (pc' := 59) w2 (hw _ (List.mem_of_getElem? (i := 46) rfl)) own_d8_56 rfl ?_
    refine own_lcmp (pc' := 60) w2 own_d8_59 (z := (XT.cmpL (own_sh ah bh (al + bl) al) (-9223372036854775808 : Int64))) rfl rfl ?_
    refine own_if (pc' := 63) w2 own_d8_60 rfl (by decide) (pcY := 82) rfl (fun (hb60 : ¬ (XT.cmpL (own_sh ah bh (al + bl) al) (-9223372036854775808 : Int64)) = (0 : Int32)) => ?_) (fun (hb60 : (XT.cmpL (own_sh ah bh (al + bl) al) (-9223372036854775808 : Int64)) = (0 : Int32)) => absurd hb60 (own_nomin _ _ b1 b2 b3))
    refine own_aload (pc' := 84) w2 own_d8_82 rfl rfl rfl ?_
    refine own_iload (pc' := 86) w2 own_d8_84 rfl rfl ?_
    refine own_lload (pc' := 88) w2 own_d8_86 rfl rfl ?_
    refine own_stJ (pc' := 89) w2 (i := 0) (xv := (.long (own_sh ah bh (al + bl) al))) (vs' := [(.long (own_sh ah bh (al + bl) al)), (.long 0)]) (by simp) A_to (by decide) rfl (Nat.lt_of_sub_eq_succ rfl) rfl rfl rfl own_d8_88 rfl fun T15 h17 w16 W18 A_new => ?_
    clear A_to
    replace K := K.wr W18 (Or.inl (by simp))
    have A_to := A_new
    clear A_new
    refine own_aload (pc' := 91) w16 own_d8_89 rfl rfl rfl ?_
    refine own_iload (pc' := 93) w16 own_d8_91 rfl rfl ?_
    refine own_iconst (pc' := 94) w16 own_d8_93 (x := (1 : Int32)) rfl rfl ?_
    refine own_iadd (pc' := 95) w16 own_d8_94 (z := (1 : Int32)) (by decide) rfl ?_
    refine own_lload (pc' := 97) w16 own_d8_95 rfl rfl ?_
    refine own_stJ (pc' := 98) w16 (i := 1) (xv := (.long (al + bl))) (vs' := [(.long (own_sh ah bh (al + bl) al)), (.long (al + bl))]) (by simp) A_to (by decide) rfl (Nat.lt_of_sub_eq_succ rfl) rfl rfl rfl own_d8_97 rfl fun T19 h21 w20 W22 A_new => ?_
    clear A_to
    replace K := K.wr W22 (Or.inl (by simp))
    have A_to := A_new
    clear A_new
    exact own_ret0 w20 rfl own_d8_98 (by decide) (by decide) (ms' := []) all0 ⟨K, rfl, rfl, A_to⟩
theorem own_d9_0 : decode prog_41_method_4_code 0 = .ok (.iconst 2, 1) := by decide +kernel
theorem own_d9_1 : decode prog_41_method_4_code 1 = .ok (.newarray .long, 2) := by decide +kernel
theorem own_d9_3 : decode prog_41_method_4_code 3 = .ok (.astore_n 2, 1) := by decide +kernel
theorem own_d9_4 : decode prog_41_method_4_code 4 = .ok (.aload_n 0, 1) := by decide +kernel
theorem own_d9_5 : decode prog_41_method_4_code 5 = .ok (.getfield 7, 3) := by decide +kernel
theorem own_d9_8 : decode prog_41_method_4_code 8 = .ok (.aload_n 0, 1) := by decide +kernel
theorem own_d9_9 : decode prog_41_method_4_code 9 = .ok (.getfield 13, 3) := by decide +kernel
theorem own_d9_12 : decode prog_41_method_4_code 12 = .ok (.aload_n 1, 1) := by decide +kernel
theorem own_d9_13 : decode prog_41_method_4_code 13 = .ok (.getfield 7, 3) := by decide +kernel
theorem own_d9_16 : decode prog_41_method_4_code 16 = .ok (.aload_n 1, 1) := by decide +kernel
theorem own_d9_17 : decode prog_41_method_4_code 17 = .ok (.getfield 13, 3) := by decide +kernel
theorem own_d9_20 : decode prog_41_method_4_code 20 = .ok (.aload_n 2, 1) := by decide +kernel
theorem own_d9_21 : decode prog_41_method_4_code 21 = .ok (.iconst 0, 1) := by decide +kernel
theorem own_d9_22 : decode prog_41_method_4_code 22 = .ok (.invokestatic 29, 3) := by decide +kernel
theorem own_d9_25 : decode prog_41_method_4_code 25 = .ok (.new 8, 3) := by decide +kernel
theorem own_d9_28 : decode prog_41_method_4_code 28 = .ok (.dup, 1) := by decide +kernel
theorem own_d9_29 : decode prog_41_method_4_code 29 = .ok (.aload_n 2, 1) := by decide +kernel
theorem own_d9_30 : decode prog_41_method_4_code 30 = .ok (.iconst 0, 1) := by decide +kernel
theorem own_d9_31 : decode prog_41_method_4_code 31 = .ok (.laload, 1) := by decide +kernel
theorem own_d9_32 : decode prog_41_method_4_code 32 = .ok (.aload_n 2, 1) := by decide +kernel
theorem own_d9_33 : decode prog_41_method_4_code 33 = .ok (.iconst 1, 1) := by decide +kernel
theorem own_d9_34 : decode prog_41_method_4_code 34 = .ok (.laload, 1) := by decide +kernel
theorem own_d9_35 : decode prog_41_method_4_code 35 = .ok (.invokespecial 18, 3) := by decide +kernel
theorem own_d9_38 : decode prog_41_method_4_code 38 = .ok (.areturn, 1) := by decide +kernel
theorem own_ef_plus (m : MethodId) (a1 : Addr) (a2 : Addr) : entryFrame m #[(.ref a1), (.ref a2)] 3 = mkF m 0 #[.val (.ref a1), .val (.ref a2), .unset] [] := by first | (simp [entryFrame, mkF, argsToLocals, Value.category]; done) | rfl
theorem own_pf9 : plainFor (⟨"com/example/throng/throng/engine/Count", "plus", "(Lcom/example/throng/throng/engine/Count;)Lcom/example/throng/throng/engine/Count;"⟩ : MethodName) = true := by first | exact plainFor_of_name (by first | (simp [plainName, overriddenIn]; done) | decide +kernel) | decide +kernel
def own_Q_plus (Z : State) (h0 : Heap) (a1 : Addr) (a2 : Addr) (ah : Int64) (al : Int64) (bh : Int64) (bl : Int64) (v : Option Value) (h : Heap) (ms : List Addr) : Prop := (Keep h0 h []) ∧ (∃ (r : Addr) (h2 : Int64) (l2 : Int64), (ms = []) ∧ (v = some (.ref r)) ∧ (Exa Z h r "com/example/throng/throng/engine/Count") ∧ (Fld Z h r "com/example/throng/throng/engine/Count" "low" "J" (.long l2)) ∧ (Fld Z h r "com/example/throng/throng/engine/Count" "high" "J" (.long h2)) ∧ (h0.size ≤ r))
set_option maxRecDepth 65536 in
set_option maxHeartbeats 40000000 in
theorem own_ct_plus (l : Launch) (Z : State) (a0 : Array Value) (hw : ∀ d ∈ tables_1, d.before a0 Z = true) (EL : List (String × Nat)) (hE : EW Z a0 EL) (n0 : Nat) (ws : List Jvm.Cond) (h0 : Heap) (O : Old Z n0 h0) (a1 : Addr) (a2 : Addr) (ah : Int64) (al : Int64) (bh : Int64) (bl : Int64) (F_a1_low : Fld Z h0 a1 "com/example/throng/throng/engine/Count" "low" "J" (.long al)) (F_a1_high : Fld Z h0 a1 "com/example/throng/throng/engine/Count" "high" "J" (.long ah)) (F_a2_low : Fld Z h0 a2 "com/example/throng/throng/engine/Count" "low" "J" (.long bl)) (F_a2_high : Fld Z h0 a2 "com/example/throng/throng/engine/Count" "high" "J" (.long bh)) (b1 : -4611686022722355200 ≤ ah.toInt) (b2 : ah.toInt ≤ 4611686022722355200) (b3 : bh.toInt = -1 ∨ bh.toInt = 0) :
    own_Ct l Z EL n0 (⟨"com/example/throng/throng/engine/Count", "plus", "(Lcom/example/throng/throng/engine/Count;)Lcom/example/throng/throng/engine/Count;"⟩ : MethodName) prog_41_method_4_code 3 (some (.object "com/example/throng/throng/engine/Count")) ws ({ frames := 3, cells := 2, slots := 4, locals := 57 } : Room) #[(.ref a1), (.ref a2)] h0 [] (own_Q_plus Z h0 a1 a2 ah al bh bl) := by
  refine own_enter (a0 := a0) own_pf9 hE O fun p e s m below meth c T0 w0 => ?_
  rw [own_ef_plus m a1 a2]
  have K : Keep h0 h0 [] := Keep.refl _ _
  refine own_iconst (pc' := 1) w0 own_d9_0 (x := (2 : Int32)) rfl rfl ?_
  refine own_newP (pc' := 3) w0 (vs := [(.long 0), (.long 0)]) (dv := (.long 0)) (cap := 2) (hw _ (List.mem_of_getElem? (i := 21) rfl)) own_d9_1 rfl (by decide) (by decide) (by decide) rfl (own_rep 2 (.long 0)) (by decide) (by decide) fun T1 h3 a5 g_a5 w2 E4 ⟨k_a5, A_a5⟩ => ?_
  have ne_a1_a5 : a1 ≠ a5 := Nat.ne_of_lt (Nat.lt_of_lt_of_le F_a1_low.lt (Nat.le_of_eq g_a5))
  have ne_a2_a5 : a2 ≠ a5 := Nat.ne_of_lt (Nat.lt_of_lt_of_le F_a2_low.lt (Nat.le_of_eq g_a5))
  have nw_a5 : h0.size ≤ a5 := Nat.le_trans K.1 (Nat.le_of_eq g_a5)
  replace F_a1_low := F_a1_low.ext E4
  replace F_a1_high := F_a1_high.ext E4
  replace F_a2_low := F_a2_low.ext E4
  replace F_a2_high := F_a2_high.ext E4
  replace K := K.ext E4
  refine own_astoreN (pc' := 4) w2 own_d9_3 rfl (Ls' := #[.val (.ref a1), .val (.ref a2), .val (.ref a5)]) rfl rfl ?_
  refine own_aloadN (pc' := 5) w2 own_d9_4 rfl rfl rfl ?_
  refine own_getF (pc' := 8) w2 (host := "") (Or.inl (hw _ (List.mem_of_getElem? (i := 12) rfl))) Via.refl F_a1_high own_d9_5 rfl fun T6 w7 => ?_
  refine own_aloadN (pc' := 9) w7 own_d9_8 rfl rfl rfl ?_
  refine own_getF (pc' := 12) w7 (host := "") (Or.inl (hw _ (List.mem_of_getElem? (i := 14) rfl))) Via.refl F_a1_low own_d9_9 rfl fun T8 w9 => ?_
  refine own_aloadN (pc' := 13) w9 own_d9_12 rfl rfl rfl ?_
  refine own_getF (pc' := 16) w9 (host := "") (Or.inl (hw _ (List.mem_of_getElem? (i := 12) rfl))) Via.refl F_a2_high own_d9_13 rfl fun T10 w11 => ?_
  refine own_aloadN (pc' := 17) w11 own_d9_16 rfl rfl rfl ?_
  refine own_getF (pc' := 20) w11 (host := "") (Or.inl (hw _ (List.mem_of_getElem? (i := 14) rfl))) Via.refl F_a2_low own_d9_17 rfl fun T12 w13 => ?_
  refine own_aloadN (pc' := 21) w13 own_d9_20 rfl rfl rfl ?_
  refine own_iconst (pc' := 22) w13 own_d9_21 (x := (0 : Int32)) rfl rfl ?_
  refine own_callS (pc' := 25) w13 (hw _ (List.mem_of_getElem? (i := 35) rfl)) (hw _ (List.mem_of_getElem? (i := 36) rfl)) (hw _ (List.mem_of_getElem? (i := 2) rfl)) (hw _ (List.mem_of_getElem? (i := 37) rfl)) (by decide) (own_ct_plusS l Z a0 hw EL hE n0 [] h3 (own_old w13) ah al bh bl a5 k_a5 A_a5 (b1) (b2) (b3)) (allS (P := fun x => x ∈ _) (by simp) all0) (argsL := [(.long ah), (.long al), (.long bh), (.long bl), (.ref a5), (.int (0 : Int32))]) (rest := []) rfl rfl own_pd2 rfl own_d9_22 rfl (by decide) (W := 0) rfl (by decide) (by decide) (by decide) fun T14 h16 v17 ms18 w15 q19 => ?_
  obtain ⟨K20, rfl, rfl, nw_A_a5⟩ := q19
  replace F_a1_low := F_a1_low.keep K20 (ninS ne_a1_a5 nin0)
  replace F_a1_high := F_a1_high.keep K20 (ninS ne_a1_a5 nin0)
  replace F_a2_low := F_a2_low.keep K20 (ninS ne_a2_a5 nin0)
  replace F_a2_high := F_a2_high.keep K20 (ninS ne_a2_a5 nin0)
  replace K := K.trans K20 (allS (P := fun x => x ∈ ([] : List Addr) ∨ h0.size ≤ x) (Or.inr nw_a5) all0)
  have A_a5 := nw_A_a5; clear nw_A_a5
  show own_Go Z EL n0 p e below s _ _ _ (T14.setTop (mkF m 25 #[.val (.ref a1), .val (.ref a2), .val (.ref a5)] []))
  refine own_newO (pc' := 28) w15 (hw _ (List.mem_of_getElem? (i := 4) rfl)) (hw _ (List.mem_of_getElem? (i := 5) rfl)) (hw _ (List.mem_of_getElem? (i := 2) rfl)) own_d9_25 rfl (by decide) (by decide) fun T21 h23 a25 g_a25 w22 E24 ⟨E_a25, D26⟩ => ?_
  have ne_a1_a25 : a1 ≠ a25 := Nat.ne_of_lt (Nat.lt_of_lt_of_le F_a1_low.lt (Nat.le_of_eq g_a25))
  have ne_a2_a25 : a2 ≠ a25 := Nat.ne_of_lt (Nat.lt_of_lt_of_le F_a2_low.lt (Nat.le_of_eq g_a25))
  have ne_a5_a25 : a5 ≠ a25 := Nat.ne_of_lt (Nat.lt_of_lt_of_le A_a5.lt (Nat.le_of_eq g_a25))
  have nw_a25 : h0.size ≤ a25 := Nat.le_trans K.1 (Nat.le_of_eq g_a25)
  replace F_a1_low := F_a1_low.ext E24
  replace F_a1_high := F_a1_high.ext E24
  replace F_a2_low := F_a2_low.ext E24
  replace F_a2_high := F_a2_high.ext E24
  replace A_a5 := A_a5.ext E24
  replace K := K.ext E24
  have F_a25_high : Fld Z h23 a25 "com/example/throng/throng/engine/Count" "high" "J" (.long 0) := D26 (Or.inr (hw _ (List.mem_of_getElem? (i := 13) rfl))) (ty := .long) (by decide)
  have F_a25_low : Fld Z h23 a25 "com/example/throng/throng/engine/Count" "low" "J" (.long 0) := D26 (Or.inr (hw _ (List.mem_of_getElem? (i := 15) rfl))) (ty := .long) (by decide)
  refine own_dup (pc' := 29) w22 own_d9_28 rfl rfl ?_
  refine own_aloadN (pc' := 30) w22 own_d9_29 rfl rfl rfl ?_
  refine own_iconst (pc' := 31) w22 own_d9_30 (x := (0 : Int32)) rfl rfl ?_
  refine own_ldJ (pc' := 32) w22 (v := (.long (own_sh ah bh (al + bl) al))) A_a5 (by decide) rfl own_d9_31 rfl ?_
  refine own_aloadN (pc' := 33) w22 own_d9_32 rfl rfl rfl ?_
  refine own_iconst (pc' := 34) w22 own_d9_33 (x := (1 : Int32)) rfl rfl ?_
  refine own_ldJ (pc' := 35) w22 (v := (.long (al + bl))) A_a5 (by decide) rfl own_d9_34 rfl ?_
  refine own_callI (pc' := 38) w22 rfl (hw _ (List.mem_of_getElem? (i := 6) rfl)) (hw _ (List.mem_of_getElem? (i := 7) rfl)) (hw _ (List.mem_of_getElem? (i := 2) rfl)) (hw _ (List.mem_of_getElem? (i := 8) rfl)) (by decide) (own_ct_cInit l Z a0 hw EL hE n0 [] h23 (own_old w22) a25 (own_sh ah bh (al + bl) al) (al + bl) (.long 0) (.long 0) E_a25 F_a25_high F_a25_low) (allS (P := fun x => x ∈ _) (by simp) all0) (argsL := [(.long (own_sh ah bh (al + bl) al)), (.long (al + bl))]) (rest := [(.ref a25)]) rfl rfl own_pd0 rfl own_d9_35 rfl (by decide) (W := 1) rfl (by decide) (by decide) (by decide) fun T27 h29 v30 ms31 w28 q32 => ?_
  obtain ⟨K33, rfl, rfl, nw_E_a25, nw_F_a25_low, nw_F_a25_high⟩ := q32
  replace F_a1_low := F_a1_low.keep K33 (ninS ne_a1_a25 nin0)
  replace F_a1_high := F_a1_high.keep K33 (ninS ne_a1_a25 nin0)
  replace F_a2_low := F_a2_low.keep K33 (ninS ne_a2_a25 nin0)
  replace F_a2_high := F_a2_high.keep K33 (ninS ne_a2_a25 nin0)
  replace A_a5 := A_a5.keep K33 (ninS ne_a5_a25 nin0)
  replace K := K.trans K33 (allS (P := fun x => x ∈ ([] : List Addr) ∨ h0.size ≤ x) (Or.inr nw_a25) all0)
  have E_a25 := nw_E_a25; clear nw_E_a25
  have F_a25_low := nw_F_a25_low; clear nw_F_a25_low
  have F_a25_high := nw_F_a25_high; clear nw_F_a25_high
  show own_Go Z EL n0 p e below s _ _ _ (T27.setTop (mkF m 38 #[.val (.ref a1), .val (.ref a2), .val (.ref a5)] [(.ref a25)]))
  exact own_retV w28 (t := (.object "com/example/throng/throng/engine/Count")) rfl (own_narR rfl rfl) (Or.inr (Or.inr (Or.inr (Or.inr ⟨rfl, rfl, rfl⟩)))) own_d9_38 (by decide) (by decide) (ms' := []) all0 ⟨K, a25, (own_sh ah bh (al + bl) al), (al + bl), rfl, rfl, E_a25, F_a25_low, F_a25_high, nw_a25⟩
theorem own_d10_0 : decode prog_42_method_2_code 0 = .ok (.aload_n 0, 1) := by decide +kernel
theorem own_d10_1 : decode prog_42_method_2_code 1 = .ok (.invokespecial 7, 3) := by decide +kernel
theorem own_d10_4 : decode prog_42_method_2_code 4 = .ok (.aload_n 0, 1) := by decide +kernel
theorem own_d10_5 : decode prog_42_method_2_code 5 = .ok (.iconst 2, 1) := by decide +kernel
theorem own_d10_6 : decode prog_42_method_2_code 6 = .ok (.newarray .long, 2) := by decide +kernel
theorem own_d10_8 : decode prog_42_method_2_code 8 = .ok (.putfield 12, 3) := by decide +kernel
theorem own_d10_11 : decode prog_42_method_2_code 11 = .ok (.aload_n 0, 1) := by decide +kernel
theorem own_d10_12 : decode prog_42_method_2_code 12 = .ok (.iload_n 2, 1) := by decide +kernel
theorem own_d10_13 : decode prog_42_method_2_code 13 = .ok (.putfield 16, 3) := by decide +kernel
theorem own_d10_16 : decode prog_42_method_2_code 16 = .ok (.aload_n 0, 1) := by decide +kernel
theorem own_d10_17 : decode prog_42_method_2_code 17 = .ok (.iload_n 2, 1) := by decide +kernel
theorem own_d10_18 : decode prog_42_method_2_code 18 = .ok (.ifCond .eq 7, 3) := by decide +kernel
theorem own_d10_21 : decode prog_42_method_2_code 21 = .ok (.iload_n 1, 1) := by decide +kernel
theorem own_d10_22 : decode prog_42_method_2_code 22 = .ok (.goto 6, 3) := by decide +kernel
theorem own_d10_28 : decode prog_42_method_2_code 28 = .ok (.newarray .long, 2) := by decide +kernel
theorem own_d10_30 : decode prog_42_method_2_code 30 = .ok (.putfield 20, 3) := by decide +kernel
theorem own_d10_33 : decode prog_42_method_2_code 33 = .ok (.return_, 1) := by decide +kernel
theorem own_ef_aInitN (m : MethodId) (a1 : Addr) : entryFrame m #[(.ref a1), (.int (4 : Int32)), (.int (1 : Int32))] 3 = mkF m 0 #[.val (.ref a1), .val (.int (4 : Int32)), .val (.int (1 : Int32))] [] := by first | (simp [entryFrame, mkF, argsToLocals, Value.category]; done) | rfl
theorem own_pf10 : plainFor (⟨"com/example/throng/throng/engine/Count$Array", "<init>", "(IZ)V"⟩ : MethodName) = true := by first | exact plainFor_of_name (by first | (simp [plainName, overriddenIn]; done) | decide +kernel) | decide +kernel
def own_Q_aInitN (Z : State) (h0 : Heap) (a1 : Addr) (u1 : Value) (u2 : Value) (u3 : Value) (v : Option Value) (h : Heap) (ms : List Addr) : Prop := (Keep h0 h [a1]) ∧ (∃ (t : Addr) (kt : ClassId), (ms = [t]) ∧ (v = none) ∧ (Exa Z h a1 "com/example/throng/throng/engine/Count$Array") ∧ (Fld Z h a1 "com/example/throng/throng/engine/Count$Array" "narrow" "Z" (.int (1 : Int32))) ∧ (Fld Z h a1 "com/example/throng/throng/engine/Count$Array" "bits" "[J" (.ref t)) ∧ (Arv Z h t kt .long (4 : Int32) [(.long 0), (.long 0), (.long 0), (.long 0)] (.long 0)) ∧ (h0.size ≤ t))
set_option maxRecDepth 65536 in
set_option maxHeartbeats 40000000 in
theorem own_ct_aInitN (l : Launch) (Z : State) (a0 : Array Value) (hw : ∀ d ∈ tables_1, d.before a0 Z = true) (EL : List (String × Nat)) (hE : EW Z a0 EL) (n0 : Nat) (ws : List Jvm.Cond) (h0 : Heap) (O : Old Z n0 h0) (a1 : Addr) (u1 : Value) (u2 : Value) (u3 : Value) (E_a1 : Exa Z h0 a1 "com/example/throng/throng/engine/Count$Array") (F_a1_product : Fld Z h0 a1 "com/example/throng/throng/engine/Count$Array" "product" "[J" u1) (F_a1_narrow : Fld Z h0 a1 "com/example/throng/throng/engine/Count$Array" "narrow" "Z" u2) (F_a1_bits : Fld Z h0 a1 "com/example/throng/throng/engine/Count$Array" "bits" "[J" u3) :
    own_Ct l Z EL n0 (⟨"com/example/throng/throng/engine/Count$Array", "<init>", "(IZ)V"⟩ : MethodName) prog_42_method_2_code 3 none ws ({ frames := 1, cells := 2, slots := 6, locals := 12 } : Room) #[(.ref a1), (.int (4 : Int32)), (.int (1 : Int32))] h0 [a1] (own_Q_aInitN Z h0 a1 u1 u2 u3) := by
  refine own_enter (a0 := a0) own_pf10 hE O fun p e s m below meth c T0 w0 => ?_
  rw [own_ef_aInitN m a1]
  have K : Keep h0 h0 [a1] := Keep.refl _ _
  refine own_aloadN (pc' := 1) w0 own_d10_0 rfl rfl rfl ?_
  refine own_initO (pc' := 4) w0 (hw _ (List.mem_of_getElem? (i := 53) rfl)) (hw _ (List.mem_of_getElem? (i := 10) rfl)) (hw _ (List.mem_of_getElem? (i := 11) rfl)) rfl own_d10_1 rfl (by decide) (W := 0) (Nat.le_of_eq rfl) (by decide) fun T1 w2 => ?_
  refine own_aloadN (pc' := 5) w2 own_d10_4 rfl rfl rfl ?_
  refine own_iconst (pc' := 6) w2 own_d10_5 (x := (2 : Int32)) rfl rfl ?_
  refine own_newP (pc' := 8) w2 (vs := [(.long 0), (.long 0)]) (dv := (.long 0)) (cap := 2) (hw _ (List.mem_of_getElem? (i := 21) rfl)) own_d10_6 rfl (by decide) (by decide) (by decide) rfl (own_rep 2 (.long 0)) (by decide) (by decide) fun T3 h5 a7 g_a7 w4 E6 ⟨k_a7, A_a7⟩ => ?_
  have ne_a1_a7 : a1 ≠ a7 := Nat.ne_of_lt (Nat.lt_of_lt_of_le E_a1.lt (Nat.le_of_eq g_a7))
  have nw_a7 : h0.size ≤ a7 := Nat.le_trans K.1 (Nat.le_of_eq g_a7)
  replace E_a1 := E_a1.ext E6
  replace F_a1_product := F_a1_product.ext E6
  replace F_a1_narrow := F_a1_narrow.ext E6
  replace F_a1_bits := F_a1_bits.ext E6
  replace K := K.ext E6
  refine own_putF (pc' := 11) w4 (host := "") (Or.inl (hw _ (List.mem_of_getElem? (i := 54) rfl))) Via.refl (by simp) F_a1_product E_a1 (Or.inr ⟨(hw _ (List.mem_of_getElem? (i := 55) rfl)), rfl, rfl⟩) (hw _ (List.mem_of_getElem? (i := 48) rfl)) (ty := (.array .long)) (by decide) rfl rfl own_d10_8 rfl fun T8 h10 w9 W11 => ?_
  replace F_a1_product := F_a1_product.same W11
  replace E_a1 := E_a1.wr W11
  replace F_a1_narrow := F_a1_narrow.other W11 (Or.inr (slot_ne (Or.inr (hw _ (List.mem_of_getElem? (i := 57) rfl))) (Or.inr (hw _ (List.mem_of_getElem? (i := 55) rfl))) (by decide) (t := .boolean) (t' := (.array .long)) (by decide) (by decide)))
  replace F_a1_bits := F_a1_bits.other W11 (Or.inr (slot_ne (Or.inr (hw _ (List.mem_of_getElem? (i := 59) rfl))) (Or.inr (hw _ (List.mem_of_getElem? (i := 55) rfl))) (by decide) (t := (.array .long)) (t' := (.array .long)) (by decide) (by decide)))
  replace A_a7 := A_a7.other W11 (Ne.symm ne_a1_a7)
  replace K := K.wr W11 (Or.inl (by simp))
  refine own_aloadN (pc' := 12) w9 own_d10_11 rfl rfl rfl ?_
  refine own_iloadN (pc' := 13) w9 own_d10_12 rfl rfl ?_
  refine own_putF (pc' := 16) w9 (host := "") (Or.inl (hw _ (List.mem_of_getElem? (i := 56) rfl))) Via.refl (by simp) F_a1_narrow E_a1 (Or.inr ⟨(hw _ (List.mem_of_getElem? (i := 57) rfl)), rfl, rfl⟩) (hw _ (List.mem_of_getElem? (i := 48) rfl)) (ty := .boolean) (by decide) rfl rfl own_d10_13 rfl fun T12 h14 w13 W15 => ?_
  replace F_a1_narrow := F_a1_narrow.same W15
  replace E_a1 := E_a1.wr W15
  replace F_a1_product := F_a1_product.other W15 (Or.inr (slot_ne (Or.inr (hw _ (List.mem_of_getElem? (i := 55) rfl))) (Or.inr (hw _ (List.mem_of_getElem? (i := 57) rfl))) (by decide) (t := (.array .long)) (t' := .boolean) (by decide) (by decide)))
  replace F_a1_bits := F_a1_bits.other W15 (Or.inr (slot_ne (Or.inr (hw _ (List.mem_of_getElem? (i := 59) rfl))) (Or.inr (hw _ (List.mem_of_getElem? (i := 57) rfl))) (by decide) (t := (.array .long)) (t' := .boolean) (by decide) (by decide)))
  replace A_a7 := A_a7.other W15 (Ne.symm ne_a1_a7)
  replace K := K.wr W15 (Or.inl (by simp))
  refine own_aloadN (pc' := 17) w13 own_d10_16 rfl rfl rfl ?_
  refine own_iloadN (pc' := 18) w13 own_d10_17 rfl rfl ?_
  refine own_if (pc' := 21) w13 own_d10_18 rfl (by decide) (pcY := 25) rfl (fun (hb18 : (1 : Int32) = (0 : Int32)) => absurd hb18 (by decide)) (fun (hb18 : ¬ (1 : Int32) = (0 : Int32)) => ?_)
  refine own_iloadN (pc' := 22) w13 own_d10_21 rfl rfl ?_
  refine own_goto w13 own_d10_22 (by decide) (pc' := 28) rfl ?_
  refine own_newP (pc' := 30) w13 (vs := [(.long 0), (.long 0), (.long 0), (.long 0)]) (dv := (.long 0)) (cap := 4) (hw _ (List.mem_of_getElem? (i := 21) rfl)) own_d10_28 rfl (by decide) (by decide) (by decide) rfl (own_rep 4 (.long 0)) (by decide) (by decide) fun T16 h18 a20 g_a20 w17 E19 ⟨k_a20, A_a20⟩ => ?_
  have ne_a1_a20 : a1 ≠ a20 := Nat.ne_of_lt (Nat.lt_of_lt_of_le E_a1.lt (Nat.le_of_eq g_a20))
  have ne_a7_a20 : a7 ≠ a20 := Nat.ne_of_lt (Nat.lt_of_lt_of_le A_a7.lt (Nat.le_of_eq g_a20))
  have nw_a20 : h0.size ≤ a20 := Nat.le_trans K.1 (Nat.le_of_eq g_a20)
  replace E_a1 := E_a1.ext E19
  replace F_a1_product := F_a1_product.ext E19
  replace F_a1_narrow := F_a1_narrow.ext E19
  replace F_a1_bits := F_a1_bits.ext E19
  replace A_a7 := A_a7.ext E19
  replace K := K.ext E19
  refine own_putF (pc' := 33) w17 (host := "") (Or.inl (hw _ (List.mem_of_getElem? (i := 58) rfl))) Via.refl (by simp) F_a1_bits E_a1 (Or.inr ⟨(hw _ (List.mem_of_getElem? (i := 59) rfl)), rfl, rfl⟩) (hw _ (List.mem_of_getElem? (i := 48) rfl)) (ty := (.array .long)) (by decide) rfl rfl own_d10_30 rfl fun T21 h23 w22 W24 => ?_
  replace F_a1_bits := F_a1_bits.same W24
  replace E_a1 := E_a1.wr W24
  replace F_a1_product := F_a1_product.other W24 (Or.inr (slot_ne (Or.inr (hw _ (List.mem_of_getElem? (i := 55) rfl))) (Or.inr (hw _ (List.mem_of_getElem? (i := 59) rfl))) (by decide) (t := (.array .long)) (t' := (.array .long)) (by decide) (by decide)))
  replace F_a1_narrow := F_a1_narrow.other W24 (Or.inr (slot_ne (Or.inr (hw _ (List.mem_of_getElem? (i := 57) rfl))) (Or.inr (hw _ (List.mem_of_getElem? (i := 59) rfl))) (by decide) (t := .boolean) (t' := (.array .long)) (by decide) (by decide)))
  replace A_a7 := A_a7.other W24 (Ne.symm ne_a1_a7)
  replace A_a20 := A_a20.other W24 (Ne.symm ne_a1_a20)
  replace K := K.wr W24 (Or.inl (by simp))
  exact own_ret0 w22 rfl own_d10_33 (by decide) (by decide) (ms' := [a20]) (allS (P := fun x => x ∈ _) (by simp) all0) ⟨K, a20, k_a20, rfl, rfl, E_a1, F_a1_narrow, F_a1_bits, A_a20, nw_a20⟩
theorem own_d11_0 : decode prog_42_method_4_code 0 = .ok (.aload_n 0, 1) := by decide +kernel
theorem own_d11_1 : decode prog_42_method_4_code 1 = .ok (.getfield 16, 3) := by decide +kernel
theorem own_d11_4 : decode prog_42_method_4_code 4 = .ok (.ifCond .eq 16, 3) := by decide +kernel
theorem own_d11_7 : decode prog_42_method_4_code 7 = .ok (.aload_n 0, 1) := by decide +kernel
theorem own_d11_8 : decode prog_42_method_4_code 8 = .ok (.getfield 20, 3) := by decide +kernel
theorem own_d11_11 : decode prog_42_method_4_code 11 = .ok (.iload_n 1, 1) := by decide +kernel
theorem own_d11_12 : decode prog_42_method_4_code 12 = .ok (.aload_n 2, 1) := by decide +kernel
theorem own_d11_13 : decode prog_42_method_4_code 13 = .ok (.getfield 32, 3) := by decide +kernel
theorem own_d11_16 : decode prog_42_method_4_code 16 = .ok (.lastore, 1) := by decide +kernel
theorem own_d11_17 : decode prog_42_method_4_code 17 = .ok (.goto 29, 3) := by decide +kernel
theorem own_d11_46 : decode prog_42_method_4_code 46 = .ok (.return_, 1) := by decide +kernel
theorem own_ef_setCN (m : MethodId) (a1 : Addr) (ix : Int32) (a3 : Addr) : entryFrame m #[(.ref a1), (.int ix), (.ref a3)] 3 = mkF m 0 #[.val (.ref a1), .val (.int ix), .val (.ref a3)] [] := by first | (simp [entryFrame, mkF, argsToLocals, Value.category]; done) | rfl
theorem own_pf11 : plainFor (⟨"com/example/throng/throng/engine/Count$Array", "set", "(ILcom/example/throng/throng/engine/Count;)V"⟩ : MethodName) = true := by first | exact plainFor_of_name (by first | (simp [plainName, overriddenIn]; done) | decide +kernel) | decide +kernel
def own_Q_setCN (Z : State) (h0 : Heap) (a1 : Addr) (ix : Int32) (a3 : Addr) (t : Addr) (kt : ClassId) (vs : List Value) (i : Nat) (hi : Int64) (lo : Int64) (v : Option Value) (h : Heap) (ms : List Addr) : Prop := (Keep h0 h [t]) ∧ (ms = []) ∧ (v = none) ∧ (Arv Z h t kt .long (4 : Int32) (own_pN vs i lo) (.long 0))
set_option maxRecDepth 65536 in
set_option maxHeartbeats 40000000 in
theorem own_ct_setCN (l : Launch) (Z : State) (a0 : Array Value) (hw : ∀ d ∈ tables_1, d.before a0 Z = true) (EL : List (String × Nat)) (hE : EW Z a0 EL) (n0 : Nat) (ws : List Jvm.Cond) (h0 : Heap) (O : Old Z n0 h0) (a1 : Addr) (ix : Int32) (a3 : Addr) (t : Addr) (kt : ClassId) (vs : List Value) (i : Nat) (hi : Int64) (lo : Int64) (F_a1_narrow : Fld Z h0 a1 "com/example/throng/throng/engine/Count$Array" "narrow" "Z" (.int (1 : Int32))) (F_a1_bits : Fld Z h0 a1 "com/example/throng/throng/engine/Count$Array" "bits" "[J" (.ref t)) (A_t : Arv Z h0 t kt .long (4 : Int32) vs (.long 0)) (F_a3_low : Fld Z h0 a3 "com/example/throng/throng/engine/Count" "low" "J" (.long lo)) (F_a3_high : Fld Z h0 a3 "com/example/throng/throng/engine/Count" "high" "J" (.long hi)) (hix : ix = Int32.ofNat i) (hi4 : i < 4) (hvl : vs.length = 4) (ne1 : a1 ≠ t) (ne3 : a3 ≠ t) :
    own_Ct l Z EL n0 (⟨"com/example/throng/throng/engine/Count$Array", "set", "(ILcom/example/throng/throng/engine/Count;)V"⟩ : MethodName) prog_42_method_4_code 3 none ws ({ frames := 0, cells := 0, slots := 0, locals := 0 } : Room) #[(.ref a1), (.int ix), (.ref a3)] h0 [t] (own_Q_setCN Z h0 a1 ix a3 t kt vs i hi lo) := by
  refine own_enter (a0 := a0) own_pf11 hE O fun p e s m below meth c T0 w0 => ?_
  rw [own_ef_setCN m a1 ix a3]
  have K : Keep h0 h0 [t] := Keep.refl _ _
  refine own_aloadN (pc' := 1) w0 own_d11_0 rfl rfl rfl ?_
  refine own_getF (pc' := 4) w0 (host := "") (Or.inl (hw _ (List.mem_of_getElem? (i := 56) rfl))) Via.refl F_a1_narrow own_d11_1 rfl fun T1 w2 => ?_
  refine own_if (pc' := 7) w2 own_d11_4 rfl (by decide) (pcY := 20) rfl (fun (hb4 : (1 : Int32) = (0 : Int32)) => absurd hb4 (by decide)) (fun (hb4 : ¬ (1 : Int32) = (0 : Int32)) => ?_)
  refine own_aloadN (pc' := 8) w2 own_d11_7 rfl rfl rfl ?_
  refine own_getF (pc' := 11) w2 (host := "") (Or.inl (hw _ (List.mem_of_getElem? (i := 58) rfl))) Via.refl F_a1_bits own_d11_8 rfl fun T3 w4 => ?_
  refine own_iloadN (pc' := 12) w4 own_d11_11 rfl rfl ?_
  refine own_aloadN (pc' := 13) w4 own_d11_12 rfl rfl rfl ?_
  refine own_getF (pc' := 16) w4 (Or.inr (hw _ (List.mem_of_getElem? (i := 66) rfl))) Via.refl F_a3_low own_d11_13 rfl fun T5 w6 => ?_
  refine own_stJ (pc' := 17) w6 (i := i) (xv := (.long lo)) (vs' := (own_pN vs i lo)) (by simp) A_t (own_ix hix hi4).1 (own_ix hix hi4).2.1 (by rw [hvl]; exact hi4) rfl rfl rfl own_d11_16 rfl fun T7 h9 w8 W10 A_new => ?_
  clear A_t
  replace F_a1_narrow := F_a1_narrow.other W10 (Or.inl ne1)
  replace F_a1_bits := F_a1_bits.other W10 (Or.inl ne1)
  replace F_a3_low := F_a3_low.other W10 (Or.inl ne3)
  replace F_a3_high := F_a3_high.other W10 (Or.inl ne3)
  replace K := K.wr W10 (Or.inl (by simp))
  have A_t := A_new
  clear A_new
  refine own_goto w8 own_d11_17 (by decide) (pc' := 46) rfl ?_
  exact own_ret0 w8 rfl own_d11_46 (by decide) (by decide) (ms' := []) all0 ⟨K, rfl, rfl, A_t⟩
theorem own_d12_0 : decode prog_42_method_3_code 0 = .ok (.aload_n 0, 1) := by decide +kernel
theorem own_d12_1 : decode prog_42_method_3_code 1 = .ok (.getfield 16, 3) := by decide +kernel
theorem own_d12_4 : decode prog_42_method_3_code 4 = .ok (.ifCond .eq 15, 3) := by decide +kernel
theorem own_d12_7 : decode prog_42_method_3_code 7 = .ok (.aload_n 0, 1) := by decide +kernel
theorem own_d12_8 : decode prog_42_method_3_code 8 = .ok (.getfield 20, 3) := by decide +kernel
theorem own_d12_11 : decode prog_42_method_3_code 11 = .ok (.iload_n 1, 1) := by decide +kernel
theorem own_d12_12 : decode prog_42_method_3_code 12 = .ok (.laload, 1) := by decide +kernel
theorem own_d12_13 : decode prog_42_method_3_code 13 = .ok (.invokestatic 23, 3) := by decide +kernel
theorem own_pd4 : parseMethodDescriptor "(J)Lcom/example/throng/throng/engine/Count;" = some ⟨[.long], some (.object "com/example/throng/throng/engine/Count")⟩ := by decide +kernel
theorem own_d12_16 : decode prog_42_method_3_code 16 = .ok (.goto 28, 3) := by decide +kernel
theorem own_d12_44 : decode prog_42_method_3_code 44 = .ok (.areturn, 1) := by decide +kernel
theorem own_ef_getN (m : MethodId) (a1 : Addr) (ix : Int32) : entryFrame m #[(.ref a1), (.int ix)] 2 = mkF m 0 #[.val (.ref a1), .val (.int ix)] [] := by first | (simp [entryFrame, mkF, argsToLocals, Value.category]; done) | rfl
theorem own_pf12 : plainFor (⟨"com/example/throng/throng/engine/Count$Array", "get", "(I)Lcom/example/throng/throng/engine/Count;"⟩ : MethodName) = true := by first | exact plainFor_of_name (by first | (simp [plainName, overriddenIn]; done) | decide +kernel) | decide +kernel
def own_Q_getN (Z : State) (h0 : Heap) (a1 : Addr) (ix : Int32) (t : Addr) (kt : ClassId) (vs : List Value) (i : Nat) (lo : Int64) (v : Option Value) (h : Heap) (ms : List Addr) : Prop := (Keep h0 h []) ∧ (∃ (r : Addr), (ms = []) ∧ (v = some (.ref r)) ∧ (Exa Z h r "com/example/throng/throng/engine/Count") ∧ (Fld Z h r "com/example/throng/throng/engine/Count" "low" "J" (.long lo)) ∧ (Fld Z h r "com/example/throng/throng/engine/Count" "high" "J" (.long (own_sgn lo))) ∧ (h0.size ≤ r))
set_option maxRecDepth 65536 in
set_option maxHeartbeats 40000000 in
theorem own_ct_getN (l : Launch) (Z : State) (a0 : Array Value) (hw : ∀ d ∈ tables_1, d.before a0 Z = true) (EL : List (String × Nat)) (hE : EW Z a0 EL) (n0 : Nat) (ws : List Jvm.Cond) (h0 : Heap) (O : Old Z n0 h0) (a1 : Addr) (ix : Int32) (t : Addr) (kt : ClassId) (vs : List Value) (i : Nat) (lo : Int64) (F_a1_narrow : Fld Z h0 a1 "com/example/throng/throng/engine/Count$Array" "narrow" "Z" (.int (1 : Int32))) (F_a1_bits : Fld Z h0 a1 "com/example/throng/throng/engine/Count$Array" "bits" "[J" (.ref t)) (A_t : Arv Z h0 t kt .long (4 : Int32) vs (.long 0)) (hix : ix = Int32.ofNat i) (hi4 : i < 4) (hvl : vs.length = 4) (hv1 : vs.getD i (.long 0) = .long lo) :
    own_Ct l Z EL n0 (⟨"com/example/throng/throng/engine/Count$Array", "get", "(I)Lcom/example/throng/throng/engine/Count;"⟩ : MethodName) prog_42_method_3_code 2 (some (.object "com/example/throng/throng/engine/Count")) ws ({ frames := 3, cells := 1, slots := 2, locals := 42 } : Room) #[(.ref a1), (.int ix)] h0 [] (own_Q_getN Z h0 a1 ix t kt vs i lo) := by
  refine own_enter (a0 := a0) own_pf12 hE O fun p e s m below meth c T0 w0 => ?_
  rw [own_ef_getN m a1 ix]
  have K : Keep h0 h0 [] := Keep.refl _ _
  refine own_aloadN (pc' := 1) w0 own_d12_0 rfl rfl rfl ?_
  refine own_getF (pc' := 4) w0 (host := "") (Or.inl (hw _ (List.mem_of_getElem? (i := 56) rfl))) Via.refl F_a1_narrow own_d12_1 rfl fun T1 w2 => ?_
  refine own_if (pc' := 7) w2 own_d12_4 rfl (by decide) (pcY := 19) rfl (fun (hb4 : (1 : Int32) = (0 : Int32)) => absurd hb4 (by decide)) (fun (hb4 : ¬ (1 : Int32) = (0 : Int32)) => ?_)
  refine own_aloadN (pc' := 8) w2 own_d12_7 rfl rfl rfl ?_
  refine own_getF (pc' := 11) w2 (host := "") (Or.inl (hw _ (List.mem_of_getElem? (i := 58) rfl))) Via.refl F_a1_bits own_d12_8 rfl fun T3 w4 => ?_
  refine own_iloadN (pc' := 12) w4 own_d12_11 rfl rfl ?_
  refine own_ldJ (pc' := 13) w4 (v := (.long lo)) A_t (own_ix hix hi4).1 (by rw [(own_ix hix hi4).2.1]; exact hv1) own_d12_12 rfl ?_
  refine own_callS (pc' := 16) w4 (hw _ (List.mem_of_getElem? (i := 82) rfl)) (hw _ (List.mem_of_getElem? (i := 1) rfl)) (hw _ (List.mem_of_getElem? (i := 2) rfl)) (hw _ (List.mem_of_getElem? (i := 3) rfl)) (by decide) (own_ct_cOf l Z a0 hw EL hE n0 [] h0 (own_old w4) lo ) all0 (argsL := [(.long lo)]) (rest := []) rfl rfl own_pd4 rfl own_d12_13 rfl (by decide) (W := 0) rfl (by decide) (by decide) (by decide) fun T5 h7 v8 ms9 w6 q10 => ?_
  obtain ⟨K12, r_11, rfl, rfl, nw_E_r_11, nw_F_r_11_low, nw_F_r_11_high, p13_cOf_0⟩ := q10
  have ne_a1_r_11 : a1 ≠ r_11 := Nat.ne_of_lt (Nat.lt_of_lt_of_le F_a1_narrow.lt p13_cOf_0)
  have ne_t_r_11 : t ≠ r_11 := Nat.ne_of_lt (Nat.lt_of_lt_of_le A_t.lt p13_cOf_0)
  have nw_r_11 : h0.size ≤ r_11 := Nat.le_trans K.1 p13_cOf_0
  replace F_a1_narrow := F_a1_narrow.keep K12 nin0
  replace F_a1_bits := F_a1_bits.keep K12 nin0
  replace A_t := A_t.keep K12 nin0
  replace K := K.trans K12 all0
  have E_r_11 := nw_E_r_11; clear nw_E_r_11
  have F_r_11_low := nw_F_r_11_low; clear nw_F_r_11_low
  have F_r_11_high := nw_F_r_11_high; clear nw_F_r_11_high
  show own_Go Z EL n0 p e below s _ _ _ (T5.setTop (mkF m 16 #[.val (.ref a1), .val (.int ix)] [(.ref r_11)]))
  refine own_goto w6 own_d12_16 (by decide) (pc' := 44) rfl ?_
  exact own_retV w6 (t := (.object "com/example/throng/throng/engine/Count")) rfl (own_narR rfl rfl) (Or.inr (Or.inr (Or.inr (Or.inr ⟨rfl, rfl, rfl⟩)))) own_d12_44 (by decide) (by decide) (ms' := []) all0 ⟨K, r_11, rfl, rfl, E_r_11, F_r_11_low, F_r_11_high, nw_r_11⟩
theorem own_d10_25 : decode prog_42_method_2_code 25 = .ok (.iconst 2, 1) := by decide +kernel
theorem own_d10_26 : decode prog_42_method_2_code 26 = .ok (.iload_n 1, 1) := by decide +kernel
theorem own_d10_27 : decode prog_42_method_2_code 27 = .ok (.imul, 1) := by decide +kernel
theorem own_ef_aInitW (m : MethodId) (a1 : Addr) : entryFrame m #[(.ref a1), (.int (4 : Int32)), (.int (0 : Int32))] 3 = mkF m 0 #[.val (.ref a1), .val (.int (4 : Int32)), .val (.int (0 : Int32))] [] := by first | (simp [entryFrame, mkF, argsToLocals, Value.category]; done) | rfl
def own_Q_aInitW (Z : State) (h0 : Heap) (a1 : Addr) (u1 : Value) (u2 : Value) (u3 : Value) (v : Option Value) (h : Heap) (ms : List Addr) : Prop := (Keep h0 h [a1]) ∧ (∃ (t : Addr) (kt : ClassId), (ms = [t]) ∧ (v = none) ∧ (Exa Z h a1 "com/example/throng/throng/engine/Count$Array") ∧ (Fld Z h a1 "com/example/throng/throng/engine/Count$Array" "narrow" "Z" (.int (0 : Int32))) ∧ (Fld Z h a1 "com/example/throng/throng/engine/Count$Array" "bits" "[J" (.ref t)) ∧ (Arv Z h t kt .long (8 : Int32) [(.long 0), (.long 0), (.long 0), (.long 0), (.long 0), (.long 0), (.long 0), (.long 0)] (.long 0)) ∧ (h0.size ≤ t))
set_option maxRecDepth 65536 in
set_option maxHeartbeats 40000000 in
theorem own_ct_aInitW (l : Launch) (Z : State) (a0 : Array Value) (hw : ∀ d ∈ tables_1, d.before a0 Z = true) (EL : List (String × Nat)) (hE : EW Z a0 EL) (n0 : Nat) (ws : List Jvm.Cond) (h0 : Heap) (O : Old Z n0 h0) (a1 : Addr) (u1 : Value) (u2 : Value) (u3 : Value) (E_a1 : Exa Z h0 a1 "com/example/throng/throng/engine/Count$Array") (F_a1_product : Fld Z h0 a1 "com/example/throng/throng/engine/Count$Array" "product" "[J" u1) (F_a1_narrow : Fld Z h0 a1 "com/example/throng/throng/engine/Count$Array" "narrow" "Z" u2) (F_a1_bits : Fld Z h0 a1 "com/example/throng/throng/engine/Count$Array" "bits" "[J" u3) :
    own_Ct l Z EL n0 (⟨"com/example/throng/throng/engine/Count$Array", "<init>", "(IZ)V"⟩ : MethodName) prog_42_method_2_code 3 none ws ({ frames := 1, cells := 2, slots := 10, locals := 12 } : Room) #[(.ref a1), (.int (4 : Int32)), (.int (0 : Int32))] h0 [a1] (own_Q_aInitW Z h0 a1 u1 u2 u3) := by
  refine own_enter (a0 := a0) own_pf10 hE O fun p e s m below meth c T0 w0 => ?_
  rw [own_ef_aInitW m a1]
  have K : Keep h0 h0 [a1] := Keep.refl _ _
  refine own_aloadN (pc' := 1) w0 own_d10_0 rfl rfl rfl ?_
  refine own_initO (pc' := 4) w0 (hw _ (List.mem_of_getElem? (i := 53) rfl)) (hw _ (List.mem_of_getElem? (i := 10) rfl)) (hw _ (List.mem_of_getElem? (i := 11) rfl)) rfl own_d10_1 rfl (by decide) (W := 0) (Nat.le_of_eq rfl) (by decide) fun T1 w2 => ?_
  refine own_aloadN (pc' := 5) w2 own_d10_4 rfl rfl rfl ?_
  refine own_iconst (pc' := 6) w2 own_d10_5 (x := (2 : Int32)) rfl rfl ?_
  refine own_newP (pc' := 8) w2 (vs := [(.long 0), (.long 0)]) (dv := (.long 0)) (cap := 2) (hw _ (List.mem_of_getElem? (i := 21) rfl)) own_d10_6 rfl (by decide) (by decide) (by decide) rfl (own_rep 2 (.long 0)) (by decide) (by decide) fun T3 h5 a7 g_a7 w4 E6 ⟨k_a7, A_a7⟩ => ?_
  have ne_a1_a7 : a1 ≠ a7 := Nat.ne_of_lt (Nat.lt_of_lt_of_le E_a1.lt (Nat.le_of_eq g_a7))
  have nw_a7 : h0.size ≤ a7 := Nat.le_trans K.1 (Nat.le_of_eq g_a7)
  replace E_a1 := E_a1.ext E6
  replace F_a1_product := F_a1_product.ext E6
  replace F_a1_narrow := F_a1_narrow.ext E6
  replace F_a1_bits := F_a1_bits.ext E6
  replace K := K.ext E6
  refine own_putF (pc' := 11) w4 (host := "") (Or.inl (hw _ (List.mem_of_getElem? (i := 54) rfl))) Via.refl (by simp) F_a1_product E_a1 (Or.inr ⟨(hw _ (List.mem_of_getElem? (i := 55) rfl)), rfl, rfl⟩) (hw _ (List.mem_of_getElem? (i := 48) rfl)) (ty := (.array .long)) (by decide) rfl rfl own_d10_8 rfl fun T8 h10 w9 W11 => ?_
  replace F_a1_product := F_a1_product.same W11
  replace E_a1 := E_a1.wr W11
  replace F_a1_narrow := F_a1_narrow.other W11 (Or.inr (slot_ne (Or.inr (hw _ (List.mem_of_getElem? (i := 57) rfl))) (Or.inr (hw _ (List.mem_of_getElem? (i := 55) rfl))) (by decide) (t := .boolean) (t' := (.array .long)) (by decide) (by decide)))
  replace F_a1_bits := F_a1_bits.other W11 (Or.inr (slot_ne (Or.inr (hw _ (List.mem_of_getElem? (i := 59) rfl))) (Or.inr (hw _ (List.mem_of_getElem? (i := 55) rfl))) (by decide) (t := (.array .long)) (t' := (.array .long)) (by decide) (by decide)))
  replace A_a7 := A_a7.other W11 (Ne.symm ne_a1_a7)
  replace K := K.wr W11 (Or.inl (by simp))
  refine own_aloadN (pc' := 12) w9 own_d10_11 rfl rfl rfl ?_
  refine own_iloadN (pc' := 13) w9 own_d10_12 rfl rfl ?_
  refine own_putF (pc' := 16) w9 (host := "") (Or.inl (hw _ (List.mem_of_getElem? (i := 56) rfl))) Via.refl (by simp) F_a1_narrow E_a1 (Or.inr ⟨(hw _ (List.mem_of_getElem? (i := 57) rfl)), rfl, rfl⟩) (hw _ (List.mem_of_getElem? (i := 48) rfl)) (ty := .boolean) (by decide) rfl rfl own_d10_13 rfl fun T12 h14 w13 W15 => ?_
  replace F_a1_narrow := F_a1_narrow.same W15
  replace E_a1 := E_a1.wr W15
  replace F_a1_product := F_a1_product.other W15 (Or.inr (slot_ne (Or.inr (hw _ (List.mem_of_getElem? (i := 55) rfl))) (Or.inr (hw _ (List.mem_of_getElem? (i := 57) rfl))) (by decide) (t := (.array .long)) (t' := .boolean) (by decide) (by decide)))
  replace F_a1_bits := F_a1_bits.other W15 (Or.inr (slot_ne (Or.inr (hw _ (List.mem_of_getElem? (i := 59) rfl))) (Or.inr (hw _ (List.mem_of_getElem? (i := 57) rfl))) (by decide) (t := (.array .long)) (t' := .boolean) (by decide) (by decide)))
  replace A_a7 := A_a7.other W15 (Ne.symm ne_a1_a7)
  replace K := K.wr W15 (Or.inl (by simp))
  refine own_aloadN (pc' := 17) w13 own_d10_16 rfl rfl rfl ?_
  refine own_iloadN (pc' := 18) w13 own_d10_17 rfl rfl ?_
  refine own_if (pc' := 21) w13 own_d10_18 rfl (by decide) (pcY := 25) rfl (fun (hb18 : (0 : Int32) = (0 : Int32)) => ?_) (fun (hb18 : ¬ (0 : Int32) = (0 : Int32)) => absurd hb18 (by decide))
  refine own_iconst (pc' := 26) w13 own_d10_25 (x := (2 : Int32)) rfl rfl ?_
  refine own_iloadN (pc' := 27) w13 own_d10_26 rfl rfl ?_
  refine own_imul (pc' := 28) w13 own_d10_27 (z := (8 : Int32)) (by decide) rfl ?_
  refine own_newP (pc' := 30) w13 (vs := [(.long 0), (.long 0), (.long 0), (.long 0), (.long 0), (.long 0), (.long 0), (.long 0)]) (dv := (.long 0)) (cap := 8) (hw _ (List.mem_of_getElem? (i := 21) rfl)) own_d10_28 rfl (by decide) (by decide) (by decide) rfl (own_rep 8 (.long 0)) (by decide) (by decide) fun T16 h18 a20 g_a20 w17 E19 ⟨k_a20, A_a20⟩ => ?_
  have ne_a1_a20 : a1 ≠ a20 := Nat.ne_of_lt (Nat.lt_of_lt_of_le E_a1.lt (Nat.le_of_eq g_a20))
  have ne_a7_a20 : a7 ≠ a20 := Nat.ne_of_lt (Nat.lt_of_lt_of_le A_a7.lt (Nat.le_of_eq g_a20))
  have nw_a20 : h0.size ≤ a20 := Nat.le_trans K.1 (Nat.le_of_eq g_a20)
  replace E_a1 := E_a1.ext E19
  replace F_a1_product := F_a1_product.ext E19
  replace F_a1_narrow := F_a1_narrow.ext E19
  replace F_a1_bits := F_a1_bits.ext E19
  replace A_a7 := A_a7.ext E19
  replace K := K.ext E19
  refine own_putF (pc' := 33) w17 (host := "") (Or.inl (hw _ (List.mem_of_getElem? (i := 58) rfl))) Via.refl (by simp) F_a1_bits E_a1 (Or.inr ⟨(hw _ (List.mem_of_getElem? (i := 59) rfl)), rfl, rfl⟩) (hw _ (List.mem_of_getElem? (i := 48) rfl)) (ty := (.array .long)) (by decide) rfl rfl own_d10_30 rfl fun T21 h23 w22 W24 => ?_
  replace F_a1_bits := F_a1_bits.same W24
  replace E_a1 := E_a1.wr W24
  replace F_a1_product := F_a1_product.other W24 (Or.inr (slot_ne (Or.inr (hw _ (List.mem_of_getElem? (i := 55) rfl))) (Or.inr (hw _ (List.mem_of_getElem? (i := 59) rfl))) (by decide) (t := (.array .long)) (t' := (.array .long)) (by decide) (by decide)))
  replace F_a1_narrow := F_a1_narrow.other W24 (Or.inr (slot_ne (Or.inr (hw _ (List.mem_of_getElem? (i := 57) rfl))) (Or.inr (hw _ (List.mem_of_getElem? (i := 59) rfl))) (by decide) (t := .boolean) (t' := (.array .long)) (by decide) (by decide)))
  replace A_a7 := A_a7.other W24 (Ne.symm ne_a1_a7)
  replace A_a20 := A_a20.other W24 (Ne.symm ne_a1_a20)
  replace K := K.wr W24 (Or.inl (by simp))
  exact own_ret0 w22 rfl own_d10_33 (by decide) (by decide) (ms' := [a20]) (allS (P := fun x => x ∈ _) (by simp) all0) ⟨K, a20, k_a20, rfl, rfl, E_a1, F_a1_narrow, F_a1_bits, A_a20, nw_a20⟩
theorem own_d11_20 : decode prog_42_method_4_code 20 = .ok (.aload_n 0, 1) := by decide +kernel
theorem own_d11_21 : decode prog_42_method_4_code 21 = .ok (.getfield 20, 3) := by decide +kernel
theorem own_d11_24 : decode prog_42_method_4_code 24 = .ok (.iconst 2, 1) := by decide +kernel
theorem own_d11_25 : decode prog_42_method_4_code 25 = .ok (.iload_n 1, 1) := by decide +kernel
theorem own_d11_26 : decode prog_42_method_4_code 26 = .ok (.imul, 1) := by decide +kernel
theorem own_d11_27 : decode prog_42_method_4_code 27 = .ok (.aload_n 2, 1) := by decide +kernel
theorem own_d11_28 : decode prog_42_method_4_code 28 = .ok (.getfield 36, 3) := by decide +kernel
theorem own_d11_31 : decode prog_42_method_4_code 31 = .ok (.lastore, 1) := by decide +kernel
theorem own_d11_32 : decode prog_42_method_4_code 32 = .ok (.aload_n 0, 1) := by decide +kernel
theorem own_d11_33 : decode prog_42_method_4_code 33 = .ok (.getfield 20, 3) := by decide +kernel
theorem own_d11_36 : decode prog_42_method_4_code 36 = .ok (.iconst 2, 1) := by decide +kernel
theorem own_d11_37 : decode prog_42_method_4_code 37 = .ok (.iload_n 1, 1) := by decide +kernel
theorem own_d11_38 : decode prog_42_method_4_code 38 = .ok (.imul, 1) := by decide +kernel
theorem own_d11_39 : decode prog_42_method_4_code 39 = .ok (.iconst 1, 1) := by decide +kernel
theorem own_d11_40 : decode prog_42_method_4_code 40 = .ok (.iadd, 1) := by decide +kernel
theorem own_d11_41 : decode prog_42_method_4_code 41 = .ok (.aload_n 2, 1) := by decide +kernel
theorem own_d11_42 : decode prog_42_method_4_code 42 = .ok (.getfield 32, 3) := by decide +kernel
theorem own_d11_45 : decode prog_42_method_4_code 45 = .ok (.lastore, 1) := by decide +kernel
theorem own_ef_setCW (m : MethodId) (a1 : Addr) (ix : Int32) (a3 : Addr) : entryFrame m #[(.ref a1), (.int ix), (.ref a3)] 3 = mkF m 0 #[.val (.ref a1), .val (.int ix), .val (.ref a3)] [] := by first | (simp [entryFrame, mkF, argsToLocals, Value.category]; done) | rfl
def own_Q_setCW (Z : State) (h0 : Heap) (a1 : Addr) (ix : Int32) (a3 : Addr) (t : Addr) (kt : ClassId) (vs : List Value) (i : Nat) (hi : Int64) (lo : Int64) (v : Option Value) (h : Heap) (ms : List Addr) : Prop := (Keep h0 h [t]) ∧ (ms = []) ∧ (v = none) ∧ (Arv Z h t kt .long (8 : Int32) (own_pW vs i hi lo) (.long 0))
set_option maxRecDepth 65536 in
set_option maxHeartbeats 40000000 in
theorem own_ct_setCW (l : Launch) (Z : State) (a0 : Array Value) (hw : ∀ d ∈ tables_1, d.before a0 Z = true) (EL : List (String × Nat)) (hE : EW Z a0 EL) (n0 : Nat) (ws : List Jvm.Cond) (h0 : Heap) (O : Old Z n0 h0) (a1 : Addr) (ix : Int32) (a3 : Addr) (t : Addr) (kt : ClassId) (vs : List Value) (i : Nat) (hi : Int64) (lo : Int64) (F_a1_narrow : Fld Z h0 a1 "com/example/throng/throng/engine/Count$Array" "narrow" "Z" (.int (0 : Int32))) (F_a1_bits : Fld Z h0 a1 "com/example/throng/throng/engine/Count$Array" "bits" "[J" (.ref t)) (A_t : Arv Z h0 t kt .long (8 : Int32) vs (.long 0)) (F_a3_low : Fld Z h0 a3 "com/example/throng/throng/engine/Count" "low" "J" (.long lo)) (F_a3_high : Fld Z h0 a3 "com/example/throng/throng/engine/Count" "high" "J" (.long hi)) (hix : ix = Int32.ofNat i) (hi4 : i < 4) (hvl : vs.length = 8) (ne1 : a1 ≠ t) (ne3 : a3 ≠ t) :
    own_Ct l Z EL n0 (⟨"com/example/throng/throng/engine/Count$Array", "set", "(ILcom/example/throng/throng/engine/Count;)V"⟩ : MethodName) prog_42_method_4_code 3 none ws ({ frames := 0, cells := 0, slots := 0, locals := 0 } : Room) #[(.ref a1), (.int ix), (.ref a3)] h0 [t] (own_Q_setCW Z h0 a1 ix a3 t kt vs i hi lo) := by
  refine own_enter (a0 := a0) own_pf11 hE O fun p e s m below meth c T0 w0 => ?_
  rw [own_ef_setCW m a1 ix a3]
  have K : Keep h0 h0 [t] := Keep.refl _ _
  refine own_aloadN (pc' := 1) w0 own_d11_0 rfl rfl rfl ?_
  refine own_getF (pc' := 4) w0 (host := "") (Or.inl (hw _ (List.mem_of_getElem? (i := 56) rfl))) Via.refl F_a1_narrow own_d11_1 rfl fun T1 w2 => ?_
  refine own_if (pc' := 7) w2 own_d11_4 rfl (by decide) (pcY := 20) rfl (fun (hb4 : (0 : Int32) = (0 : Int32)) => ?_) (fun (hb4 : ¬ (0 : Int32) = (0 : Int32)) => absurd hb4 (by decide))
  refine own_aloadN (pc' := 21) w2 own_d11_20 rfl rfl rfl ?_
  refine own_getF (pc' := 24) w2 (host := "") (Or.inl (hw _ (List.mem_of_getElem? (i := 58) rfl))) Via.refl F_a1_bits own_d11_21 rfl fun T3 w4 => ?_
  refine own_iconst (pc' := 25) w4 own_d11_24 (x := (2 : Int32)) rfl rfl ?_
  refine own_iloadN (pc' := 26) w4 own_d11_25 rfl rfl ?_
  refine own_imul (pc' := 27) w4 own_d11_26 (z := ((2 : Int32) * ix)) rfl rfl ?_
  refine own_aloadN (pc' := 28) w4 own_d11_27 rfl rfl rfl ?_
  refine own_getF (pc' := 31) w4 (Or.inr (hw _ (List.mem_of_getElem? (i := 65) rfl))) Via.refl F_a3_high own_d11_28 rfl fun T5 w6 => ?_
  refine own_stJ (pc' := 32) w6 (i := (2 * i)) (xv := (.long hi)) (vs' := (vs.set (2 * i) (.long hi))) (by simp) A_t (own_ix hix hi4).2.2.1 (own_ix hix hi4).2.2.2.1 (by rw [hvl]; omega) rfl rfl rfl own_d11_31 rfl fun T7 h9 w8 W10 A_new => ?_
  clear A_t
  replace F_a1_narrow := F_a1_narrow.other W10 (Or.inl ne1)
  replace F_a1_bits := F_a1_bits.other W10 (Or.inl ne1)
  replace F_a3_low := F_a3_low.other W10 (Or.inl ne3)
  replace F_a3_high := F_a3_high.other W10 (Or.inl ne3)
  replace K := K.wr W10 (Or.inl (by simp))
  have A_t := A_new
  clear A_new
  refine own_aloadN (pc' := 33) w8 own_d11_32 rfl rfl rfl ?_
  refine own_getF (pc' := 36) w8 (host := "") (Or.inl (hw _ (List.mem_of_getElem? (i := 58) rfl))) Via.refl F_a1_bits own_d11_33 rfl fun T11 w12 => ?_
  refine own_iconst (pc' := 37) w12 own_d11_36 (x := (2 : Int32)) rfl rfl ?_
  refine own_iloadN (pc' := 38) w12 own_d11_37 rfl rfl ?_
  refine own_imul (pc' := 39) w12 own_d11_38 (z := ((2 : Int32) * ix)) rfl rfl ?_
  refine own_iconst (pc' := 40) w12 own_d11_39 (x := (1 : Int32)) rfl rfl ?_
  refine own_iadd (pc' := 41) w12 own_d11_40 (z := (((2 : Int32) * ix) + (1 : Int32))) rfl rfl ?_
  refine own_aloadN (pc' := 42) w12 own_d11_41 rfl rfl rfl ?_
  refine own_getF (pc' := 45) w12 (Or.inr (hw _ (List.mem_of_getElem? (i := 66) rfl))) Via.refl F_a3_low own_d11_42 rfl fun T13 w14 => ?_
  refine own_stJ (pc' := 46) w14 (i := (2 * i + 1)) (xv := (.long lo)) (vs' := (own_pW vs i hi lo)) (by simp) A_t (own_ix hix hi4).2.2.2.2.1 (own_ix hix hi4).2.2.2.2.2 (by rw [List.length_set, hvl]; omega) rfl rfl rfl own_d11_45 rfl fun T15 h17 w16 W18 A_new => ?_
  clear A_t
  replace F_a1_narrow := F_a1_narrow.other W18 (Or.inl ne1)
  replace F_a1_bits := F_a1_bits.other W18 (Or.inl ne1)
  replace F_a3_low := F_a3_low.other W18 (Or.inl ne3)
  replace F_a3_high := F_a3_high.other W18 (Or.inl ne3)
  replace K := K.wr W18 (Or.inl (by simp))
  have A_t := A_new
  clear A_new
  exact own_ret0 w16 rfl own_d11_46 (by decide) (by decide) (ms' := []) all0 ⟨K, rfl, rfl, A_t⟩
theorem own_d12_19 : decode prog_42_method_3_code 19 = .ok (.new 24, 3) := by decide +kernel
theorem own_d12_22 : decode prog_42_method_3_code 22 = .ok (.dup, 1) := by decide +kernel
theorem own_d12_23 : decode prog_42_method_3_code 23 = .ok (.aload_n 0, 1) := by decide +kernel
theorem own_d12_24 : decode prog_42_method_3_code 24 = .ok (.getfield 20, 3) := by decide +kernel
theorem own_d12_27 : decode prog_42_method_3_code 27 = .ok (.iconst 2, 1) := by decide +kernel
theorem own_d12_28 : decode prog_42_method_3_code 28 = .ok (.iload_n 1, 1) := by decide +kernel
theorem own_d12_29 : decode prog_42_method_3_code 29 = .ok (.imul, 1) := by decide +kernel
theorem own_d12_30 : decode prog_42_method_3_code 30 = .ok (.laload, 1) := by decide +kernel
theorem own_d12_31 : decode prog_42_method_3_code 31 = .ok (.aload_n 0, 1) := by decide +kernel
theorem own_d12_32 : decode prog_42_method_3_code 32 = .ok (.getfield 20, 3) := by decide +kernel
theorem own_d12_35 : decode prog_42_method_3_code 35 = .ok (.iconst 2, 1) := by decide +kernel
theorem own_d12_36 : decode prog_42_method_3_code 36 = .ok (.iload_n 1, 1) := by decide +kernel
theorem own_d12_37 : decode prog_42_method_3_code 37 = .ok (.imul, 1) := by decide +kernel
theorem own_d12_38 : decode prog_42_method_3_code 38 = .ok (.iconst 1, 1) := by decide +kernel
theorem own_d12_39 : decode prog_42_method_3_code 39 = .ok (.iadd, 1) := by decide +kernel
theorem own_d12_40 : decode prog_42_method_3_code 40 = .ok (.laload, 1) := by decide +kernel
theorem own_d12_41 : decode prog_42_method_3_code 41 = .ok (.invokespecial 29, 3) := by decide +kernel
theorem own_ef_getW (m : MethodId) (a1 : Addr) (ix : Int32) : entryFrame m #[(.ref a1), (.int ix)] 2 = mkF m 0 #[.val (.ref a1), .val (.int ix)] [] := by first | (simp [entryFrame, mkF, argsToLocals, Value.category]; done) | rfl
def own_Q_getW (Z : State) (h0 : Heap) (a1 : Addr) (ix : Int32) (t : Addr) (kt : ClassId) (vs : List Value) (i : Nat) (hi : Int64) (lo : Int64) (v : Option Value) (h : Heap) (ms : List Addr) : Prop := (Keep h0 h []) ∧ (∃ (r : Addr), (ms = []) ∧ (v = some (.ref r)) ∧ (Exa Z h r "com/example/throng/throng/engine/Count") ∧ (Fld Z h r "com/example/throng/throng/engine/Count" "low" "J" (.long lo)) ∧ (Fld Z h r "com/example/throng/throng/engine/Count" "high" "J" (.long hi)) ∧ (h0.size ≤ r))
set_option maxRecDepth 65536 in
set_option maxHeartbeats 40000000 in
theorem own_ct_getW (l : Launch) (Z : State) (a0 : Array Value) (hw : ∀ d ∈ tables_1, d.before a0 Z = true) (EL : List (String × Nat)) (hE : EW Z a0 EL) (n0 : Nat) (ws : List Jvm.Cond) (h0 : Heap) (O : Old Z n0 h0) (a1 : Addr) (ix : Int32) (t : Addr) (kt : ClassId) (vs : List Value) (i : Nat) (hi : Int64) (lo : Int64) (F_a1_narrow : Fld Z h0 a1 "com/example/throng/throng/engine/Count$Array" "narrow" "Z" (.int (0 : Int32))) (F_a1_bits : Fld Z h0 a1 "com/example/throng/throng/engine/Count$Array" "bits" "[J" (.ref t)) (A_t : Arv Z h0 t kt .long (8 : Int32) vs (.long 0)) (hix : ix = Int32.ofNat i) (hi4 : i < 4) (hvl : vs.length = 8) (hv0 : vs.getD (2 * i) (.long 0) = .long hi) (hv1 : vs.getD (2 * i + 1) (.long 0) = .long lo) :
    own_Ct l Z EL n0 (⟨"com/example/throng/throng/engine/Count$Array", "get", "(I)Lcom/example/throng/throng/engine/Count;"⟩ : MethodName) prog_42_method_3_code 2 (some (.object "com/example/throng/throng/engine/Count")) ws ({ frames := 2, cells := 1, slots := 2, locals := 29 } : Room) #[(.ref a1), (.int ix)] h0 [] (own_Q_getW Z h0 a1 ix t kt vs i hi lo) := by
  refine own_enter (a0 := a0) own_pf12 hE O fun p e s m below meth c T0 w0 => ?_
  rw [own_ef_getW m a1 ix]
  have K : Keep h0 h0 [] := Keep.refl _ _
  refine own_aloadN (pc' := 1) w0 own_d12_0 rfl rfl rfl ?_
  refine own_getF (pc' := 4) w0 (host := "") (Or.inl (hw _ (List.mem_of_getElem? (i := 56) rfl))) Via.refl F_a1_narrow own_d12_1 rfl fun T1 w2 => ?_
  refine own_if (pc' := 7) w2 own_d12_4 rfl (by decide) (pcY := 19) rfl (fun (hb4 : (0 : Int32) = (0 : Int32)) => ?_) (fun (hb4 : ¬ (0 : Int32) = (0 : Int32)) => absurd hb4 (by decide))
  refine own_newO (pc' := 22) w2 (hw _ (List.mem_of_getElem? (i := 72) rfl)) (hw _ (List.mem_of_getElem? (i := 5) rfl)) (hw _ (List.mem_of_getElem? (i := 2) rfl)) own_d12_19 rfl (by decide) (by decide) fun T3 h5 a7 g_a7 w4 E6 ⟨E_a7, D8⟩ => ?_
  have ne_a1_a7 : a1 ≠ a7 := Nat.ne_of_lt (Nat.lt_of_lt_of_le F_a1_narrow.lt (Nat.le_of_eq g_a7))
  have ne_t_a7 : t ≠ a7 := Nat.ne_of_lt (Nat.lt_of_lt_of_le A_t.lt (Nat.le_of_eq g_a7))
  have nw_a7 : h0.size ≤ a7 := Nat.le_trans K.1 (Nat.le_of_eq g_a7)
  replace F_a1_narrow := F_a1_narrow.ext E6
  replace F_a1_bits := F_a1_bits.ext E6
  replace A_t := A_t.ext E6
  replace K := K.ext E6
  have F_a7_high : Fld Z h5 a7 "com/example/throng/throng/engine/Count" "high" "J" (.long 0) := D8 (Or.inr (hw _ (List.mem_of_getElem? (i := 13) rfl))) (ty := .long) (by decide)
  have F_a7_low : Fld Z h5 a7 "com/example/throng/throng/engine/Count" "low" "J" (.long 0) := D8 (Or.inr (hw _ (List.mem_of_getElem? (i := 15) rfl))) (ty := .long) (by decide)
  refine own_dup (pc' := 23) w4 own_d12_22 rfl rfl ?_
  refine own_aloadN (pc' := 24) w4 own_d12_23 rfl rfl rfl ?_
  refine own_getF (pc' := 27) w4 (host := "") (Or.inl (hw _ (List.mem_of_getElem? (i := 58) rfl))) Via.refl F_a1_bits own_d12_24 rfl fun T9 w10 => ?_
  refine own_iconst (pc' := 28) w10 own_d12_27 (x := (2 : Int32)) rfl rfl ?_
  refine own_iloadN (pc' := 29) w10 own_d12_28 rfl rfl ?_
  refine own_imul (pc' := 30) w10 own_d12_29 (z := ((2 : Int32) * ix)) rfl rfl ?_
  refine own_ldJ (pc' := 31) w10 (v := (.long hi)) A_t (own_ix hix hi4).2.2.1 (by rw [(own_ix hix hi4).2.2.2.1]; exact hv0) own_d12_30 rfl ?_
  refine own_aloadN (pc' := 32) w10 own_d12_31 rfl rfl rfl ?_
  refine own_getF (pc' := 35) w10 (host := "") (Or.inl (hw _ (List.mem_of_getElem? (i := 58) rfl))) Via.refl F_a1_bits own_d12_32 rfl fun T11 w12 => ?_
  refine own_iconst (pc' := 36) w12 own_d12_35 (x := (2 : Int32)) rfl rfl ?_
  refine own_iloadN (pc' := 37) w12 own_d12_36 rfl rfl ?_
  refine own_imul (pc' := 38) w12 own_d12_37 (z := ((2 : Int32) * ix)) rfl rfl ?_
  refine own_iconst (pc' := 39) w12 own_d12_38 (x := (1 : Int32)) rfl rfl ?_
  refine own_iadd (pc' := 40) w12 own_d12_39 (z := (((2 : Int32) * ix) + (1 : Int32))) rfl rfl ?_
  refine own_ldJ (pc' := 41) w12 (v := (.long lo)) A_t (own_ix hix hi4).2.2.2.2.1 (by rw [(own_ix hix hi4).2.2.2.2.2]; exact hv1) own_d12_40 rfl ?_
  refine own_callIN (pc' := 44) w12 rfl (hw _ (List.mem_of_getElem? (i := 73) rfl)) (hw _ (List.mem_of_getElem? (i := 7) rfl)) (hw _ (List.mem_of_getElem? (i := 2) rfl)) (hw _ (List.mem_of_getElem? (i := 8) rfl)) (by decide) (own_ct_cInit l Z a0 hw EL hE n0 [] h5 (own_old w12) a7 hi lo (.long 0) (.long 0) E_a7 F_a7_high F_a7_low) (allS (P := fun x => x ∈ _) (by simp) all0) (argsL := [(.long hi), (.long lo)]) (rest := [(.ref a7)]) rfl rfl own_pd0 rfl own_d12_41 rfl (by decide) (W := 1) rfl (by decide) (by decide) (by decide) fun T13 h15 v16 ms17 w14 q18 => ?_
  obtain ⟨K19, rfl, rfl, nw_E_a7, nw_F_a7_low, nw_F_a7_high⟩ := q18
  replace F_a1_narrow := F_a1_narrow.keep K19 (ninS ne_a1_a7 nin0)
  replace F_a1_bits := F_a1_bits.keep K19 (ninS ne_a1_a7 nin0)
  replace A_t := A_t.keep K19 (ninS ne_t_a7 nin0)
  replace K := K.trans K19 (allS (P := fun x => x ∈ ([] : List Addr) ∨ h0.size ≤ x) (Or.inr nw_a7) all0)
  have E_a7 := nw_E_a7; clear nw_E_a7
  have F_a7_low := nw_F_a7_low; clear nw_F_a7_low
  have F_a7_high := nw_F_a7_high; clear nw_F_a7_high
  show own_Go Z EL n0 p e below s _ _ _ (T13.setTop (mkF m 44 #[.val (.ref a1), .val (.int ix)] [(.ref a7)]))
  exact own_retV w14 (t := (.object "com/example/throng/throng/engine/Count")) rfl (own_narR rfl rfl) (Or.inr (Or.inr (Or.inr (Or.inr ⟨rfl, rfl, rfl⟩)))) own_d12_44 (by decide) (by decide) (ms' := []) all0 ⟨K, a7, rfl, rfl, E_a7, F_a7_low, F_a7_high, nw_a7⟩
theorem own_z4 {k : Nat} (h : k < 4) : ([(.long 0), (.long 0), (.long 0), (.long 0)] : List Value).getD k (.long 0) = .long 0 := by
  match k, h with
  | 0, _ => rfl
  | 1, _ => rfl
  | 2, _ => rfl
  | 3, _ => rfl
theorem own_z8 {k q : Nat} (h : k < 4) (hq : q = 2 * k ∨ q = 2 * k + 1) : ([(.long 0), (.long 0), (.long 0), (.long 0), (.long 0), (.long 0), (.long 0), (.long 0)] : List Value).getD q (.long 0) = .long 0 := by
  match k, h with
  | 0, _ => rcases hq with rfl | rfl <;> rfl
  | 1, _ => rcases hq with rfl | rfl <;> rfl
  | 2, _ => rcases hq with rfl | rfl <;> rfl
  | 3, _ => rcases hq with rfl | rfl <;> rfl
theorem own_d13_0 : decode code 0 = .ok (.iload_n 0, 1) := by decide +kernel
theorem own_d13_1 : decode code 1 = .ok (.iconst 1, 1) := by decide +kernel
theorem own_d13_2 : decode code 2 = .ok (.iand, 1) := by decide +kernel
theorem own_d13_3 : decode code 3 = .ok (.ifCond .eq 7, 3) := by decide +kernel
theorem own_d13_10 : decode code 10 = .ok (.iconst 0, 1) := by decide +kernel
theorem own_d13_11 : decode code 11 = .ok (.istore 9, 2) := by decide +kernel
theorem own_d13_13 : decode code 13 = .ok (.iload_n 1, 1) := by decide +kernel
theorem own_d13_14 : decode code 14 = .ok (.iconst 3, 1) := by decide +kernel
theorem own_d13_15 : decode code 15 = .ok (.iand, 1) := by decide +kernel
theorem own_d13_16 : decode code 16 = .ok (.istore 10, 2) := by decide +kernel
theorem own_d13_18 : decode code 18 = .ok (.iload_n 2, 1) := by decide +kernel
theorem own_d13_19 : decode code 19 = .ok (.iconst 3, 1) := by decide +kernel
theorem own_d13_20 : decode code 20 = .ok (.iand, 1) := by decide +kernel
theorem own_d13_21 : decode code 21 = .ok (.istore 11, 2) := by decide +kernel
theorem own_d13_23 : decode code 23 = .ok (.iload_n 0, 1) := by decide +kernel
theorem own_d13_24 : decode code 24 = .ok (.iconst 1, 1) := by decide +kernel
theorem own_d13_25 : decode code 25 = .ok (.iushr, 1) := by decide +kernel
theorem own_d13_26 : decode code 26 = .ok (.iconst 3, 1) := by decide +kernel
theorem own_d13_27 : decode code 27 = .ok (.iand, 1) := by decide +kernel
theorem own_d13_28 : decode code 28 = .ok (.istore 12, 2) := by decide +kernel
theorem own_d13_30 : decode code 30 = .ok (.iload 9, 2) := by decide +kernel
theorem own_d13_32 : decode code 32 = .ok (.ifCond .eq 23, 3) := by decide +kernel
theorem own_d13_55 : decode code 55 = .ok (.lload_n 3, 1) := by decide +kernel
theorem own_d13_56 : decode code 56 = .ok (.invokestatic 7, 3) := by decide +kernel
theorem own_d13_59 : decode code 59 = .ok (.lload 5, 2) := by decide +kernel
theorem own_d13_61 : decode code 61 = .ok (.invokestatic 7, 3) := by decide +kernel
theorem own_d13_64 : decode code 64 = .ok (.invokevirtual 13, 3) := by decide +kernel
theorem own_pd5 : parseMethodDescriptor "(Lcom/example/throng/throng/engine/Count;)Lcom/example/throng/throng/engine/Count;" = some ⟨[(.object "com/example/throng/throng/engine/Count")], some (.object "com/example/throng/throng/engine/Count")⟩ := by decide +kernel
theorem own_d13_67 : decode code 67 = .ok (.lload 7, 2) := by decide +kernel
theorem own_d13_69 : decode code 69 = .ok (.invokestatic 7, 3) := by decide +kernel
theorem own_d13_72 : decode code 72 = .ok (.invokevirtual 17, 3) := by decide +kernel
theorem own_d13_75 : decode code 75 = .ok (.astore 13, 2) := by decide +kernel
theorem own_d13_77 : decode code 77 = .ok (.lload 7, 2) := by decide +kernel
theorem own_d13_79 : decode code 79 = .ok (.invokestatic 7, 3) := by decide +kernel
theorem own_d13_82 : decode code 82 = .ok (.lload_n 3, 1) := by decide +kernel
theorem own_d13_83 : decode code 83 = .ok (.invokestatic 7, 3) := by decide +kernel
theorem own_d13_86 : decode code 86 = .ok (.invokevirtual 13, 3) := by decide +kernel
theorem own_d13_89 : decode code 89 = .ok (.astore 14, 2) := by decide +kernel
theorem own_d13_91 : decode code 91 = .ok (.new 20, 3) := by decide +kernel
theorem own_d13_94 : decode code 94 = .ok (.dup, 1) := by decide +kernel
theorem own_d13_95 : decode code 95 = .ok (.iconst 4, 1) := by decide +kernel
theorem own_d13_96 : decode code 96 = .ok (.iload 9, 2) := by decide +kernel
theorem own_d13_98 : decode code 98 = .ok (.invokespecial 22, 3) := by decide +kernel
theorem own_pd6 : parseMethodDescriptor "(IZ)V" = some ⟨[.int, .boolean], none⟩ := by decide +kernel
theorem own_d13_101 : decode code 101 = .ok (.astore 15, 2) := by decide +kernel
theorem own_d13_103 : decode code 103 = .ok (.aload 15, 2) := by decide +kernel
theorem own_d13_105 : decode code 105 = .ok (.iload 11, 2) := by decide +kernel
theorem own_d13_107 : decode code 107 = .ok (.aload 14, 2) := by decide +kernel
theorem own_d13_109 : decode code 109 = .ok (.invokevirtual 25, 3) := by decide +kernel
theorem own_pd7 : parseMethodDescriptor "(ILcom/example/throng/throng/engine/Count;)V" = some ⟨[.int, (.object "com/example/throng/throng/engine/Count")], none⟩ := by decide +kernel
theorem own_d13_112 : decode code 112 = .ok (.aload 15, 2) := by decide +kernel
theorem own_d13_114 : decode code 114 = .ok (.iload 10, 2) := by decide +kernel
theorem own_d13_116 : decode code 116 = .ok (.aload 13, 2) := by decide +kernel
theorem own_d13_118 : decode code 118 = .ok (.invokevirtual 25, 3) := by decide +kernel
theorem own_d13_121 : decode code 121 = .ok (.aload 15, 2) := by decide +kernel
theorem own_d13_123 : decode code 123 = .ok (.iload 10, 2) := by decide +kernel
theorem own_d13_125 : decode code 125 = .ok (.invokevirtual 29, 3) := by decide +kernel
theorem own_pd8 : parseMethodDescriptor "(I)Lcom/example/throng/throng/engine/Count;" = some ⟨[.int], some (.object "com/example/throng/throng/engine/Count")⟩ := by decide +kernel
theorem own_d13_128 : decode code 128 = .ok (.aload 13, 2) := by decide +kernel
theorem own_d13_130 : decode code 130 = .ok (.invokevirtual 33, 3) := by decide +kernel
theorem own_pd9 : parseMethodDescriptor "(Ljava/lang/Object;)Z" = some ⟨[(.object "java/lang/Object")], some .boolean⟩ := by decide +kernel
theorem own_d13_133 : decode code 133 = .ok (.istore 16, 2) := by decide +kernel
theorem own_d13_135 : decode code 135 = .ok (.iload 10, 2) := by decide +kernel
theorem own_d13_137 : decode code 137 = .ok (.iload 11, 2) := by decide +kernel
theorem own_d13_139 : decode code 139 = .ok (.if_icmp .eq 30, 3) := by decide +kernel
theorem own_d13_169 : decode code 169 = .ok (.iload 12, 2) := by decide +kernel
theorem own_d13_171 : decode code 171 = .ok (.iload 10, 2) := by decide +kernel
theorem own_d13_173 : decode code 173 = .ok (.if_icmp .eq 38, 3) := by decide +kernel
theorem own_d13_211 : decode code 211 = .ok (.iload 16, 2) := by decide +kernel
theorem own_d13_213 : decode code 213 = .ok (.ireturn, 1) := by decide +kernel
theorem own_d13_176 : decode code 176 = .ok (.iload 12, 2) := by decide +kernel
theorem own_d13_178 : decode code 178 = .ok (.iload 11, 2) := by decide +kernel
theorem own_d13_180 : decode code 180 = .ok (.if_icmp .eq 31, 3) := by decide +kernel
theorem own_d13_183 : decode code 183 = .ok (.iload 16, 2) := by decide +kernel
theorem own_d13_185 : decode code 185 = .ok (.ifCond .eq 23, 3) := by decide +kernel
theorem own_d13_188 : decode code 188 = .ok (.aload 15, 2) := by decide +kernel
theorem own_d13_190 : decode code 190 = .ok (.iload 12, 2) := by decide +kernel
theorem own_d13_192 : decode code 192 = .ok (.invokevirtual 29, 3) := by decide +kernel
theorem own_d13_195 : decode code 195 = .ok (.getstatic 37, 3) := by decide +kernel
theorem own_d13_198 : decode code 198 = .ok (.invokevirtual 33, 3) := by decide +kernel
theorem own_d13_201 : decode code 201 = .ok (.ifCond .eq 7, 3) := by decide +kernel
theorem own_d13_204 : decode code 204 = .ok (.iconst 1, 1) := by decide +kernel
theorem own_d13_205 : decode code 205 = .ok (.goto 4, 3) := by decide +kernel
theorem own_d13_209 : decode code 209 = .ok (.istore 16, 2) := by decide +kernel
theorem own_d13_142 : decode code 142 = .ok (.iload 16, 2) := by decide +kernel
theorem own_d13_144 : decode code 144 = .ok (.ifCond .eq 22, 3) := by decide +kernel
theorem own_d13_147 : decode code 147 = .ok (.aload 15, 2) := by decide +kernel
theorem own_d13_149 : decode code 149 = .ok (.iload 11, 2) := by decide +kernel
theorem own_d13_151 : decode code 151 = .ok (.invokevirtual 29, 3) := by decide +kernel
theorem own_d13_154 : decode code 154 = .ok (.aload 14, 2) := by decide +kernel
theorem own_d13_156 : decode code 156 = .ok (.invokevirtual 33, 3) := by decide +kernel
theorem own_d13_159 : decode code 159 = .ok (.ifCond .eq 7, 3) := by decide +kernel
theorem own_d13_162 : decode code 162 = .ok (.iconst 1, 1) := by decide +kernel
theorem own_d13_163 : decode code 163 = .ok (.goto 4, 3) := by decide +kernel
theorem own_d13_167 : decode code 167 = .ok (.istore 16, 2) := by decide +kernel
theorem own_d13_6 : decode code 6 = .ok (.iconst 1, 1) := by decide +kernel
theorem own_d13_7 : decode code 7 = .ok (.goto 4, 3) := by decide +kernel
theorem own_d13_35 : decode code 35 = .ok (.lload_n 3, 1) := by decide +kernel
theorem own_d13_36 : decode code 36 = .ok (.iconst 2, 1) := by decide +kernel
theorem own_d13_37 : decode code 37 = .ok (.lshr, 1) := by decide +kernel
theorem own_d13_38 : decode code 38 = .ok (.invokestatic 7, 3) := by decide +kernel
theorem own_d13_41 : decode code 41 = .ok (.astore 13, 2) := by decide +kernel
theorem own_d13_43 : decode code 43 = .ok (.lload 5, 2) := by decide +kernel
theorem own_d13_45 : decode code 45 = .ok (.iconst 2, 1) := by decide +kernel
theorem own_d13_46 : decode code 46 = .ok (.lshr, 1) := by decide +kernel
theorem own_d13_47 : decode code 47 = .ok (.invokestatic 7, 3) := by decide +kernel
theorem own_d13_50 : decode code 50 = .ok (.astore 14, 2) := by decide +kernel
theorem own_d13_52 : decode code 52 = .ok (.goto 39, 3) := by decide +kernel
theorem own_ef_law (m : MethodId) (flags : Int32) (idx : Int32) (other : Int32) (a : Int64) (b : Int64) (d : Int64) : entryFrame m #[(.int flags), (.int idx), (.int other), (.long a), (.long b), (.long d)] maxLocals = mkF m 0 #[.val (.int flags), .val (.int idx), .val (.int other), .val (.long a), .second, .val (.long b), .second, .val (.long d), .second, .unset, .unset, .unset, .unset, .unset, .unset, .unset, .unset] [] := by first | (simp [entryFrame, mkF, argsToLocals, Value.category, maxLocals]; done) | rfl
theorem own_pf13 : plainFor (⟨"com/example/throng/throng/engine/ArraySet193PinLaw", "law", "(IIIJJJ)Z"⟩ : MethodName) = true := by first | exact plainFor_of_name (by first | (simp [plainName, overriddenIn]; done) | decide +kernel) | decide +kernel
def own_Q_law (Z : State) (h0 : Heap) (flags : Int32) (idx : Int32) (other : Int32) (a : Int64) (b : Int64) (d : Int64) (zr : Addr) (v : Option Value) (h : Heap) (ms : List Addr) : Prop := (Keep h0 h []) ∧ (ms = []) ∧ (v = some (.int 1))
set_option maxRecDepth 65536 in
set_option maxHeartbeats 40000000 in
theorem own_ct_law (l : Launch) (Z : State) (a0 : Array Value) (hw : ∀ d ∈ tables_1, d.before a0 Z = true) (EL : List (String × Nat)) (hE : EW Z a0 EL) (n0 : Nat) (ws : List Jvm.Cond) (h0 : Heap) (O : Old Z n0 h0) (flags : Int32) (idx : Int32) (other : Int32) (a : Int64) (b : Int64) (d : Int64) (zr : Addr) (S_ZERO : Sta Z Z.heap "com/example/throng/throng/engine/Count" "ZERO" "Lcom/example/throng/throng/engine/Count;" (.ref zr)) (EZ : Exa Z Z.heap zr "com/example/throng/throng/engine/Count") (FZh : Fld Z Z.heap zr "com/example/throng/throng/engine/Count" "high" "J" (.long 0)) (FZl : Fld Z Z.heap zr "com/example/throng/throng/engine/Count" "low" "J" (.long 0)) :
    own_Ct l Z EL n0 x code maxLocals ret ws room_1 #[(.int flags), (.int idx), (.int other), (.long a), (.long b), (.long d)] h0 [] (own_Q_law Z h0 flags idx other a b d zr) := by
  refine own_enter (a0 := a0) own_pf13 hE O fun p e s m below meth c T0 w0 => ?_
  rw [own_ef_law m flags idx other a b d]
  have K : Keep h0 h0 [] := Keep.refl _ _
  refine own_iloadN (pc' := 1) w0 own_d13_0 rfl rfl ?_
  refine own_iconst (pc' := 2) w0 own_d13_1 (x := (1 : Int32)) rfl rfl ?_
  refine own_iand (pc' := 3) w0 own_d13_2 (z := (flags &&& (1 : Int32))) rfl rfl ?_
  refine own_if (pc' := 6) w0 own_d13_3 rfl (by decide) (pcY := 10) rfl (fun (hb3 : (flags &&& (1 : Int32)) = (0 : Int32)) => ?_) (fun (hb3 : ¬ (flags &&& (1 : Int32)) = (0 : Int32)) => ?_)
  · -- t
    refine own_iconst (pc' := 11) w0 own_d13_10 (x := (0 : Int32)) rfl rfl ?_
    refine own_istore (pc' := 13) w0 own_d13_11 (Ls' := #[.val (.int flags), .val (.int idx), .val (.int other), .val (.long a), .second, .val (.long b), .second, .val (.long d), .second, .val (.int (0 : Int32)), .unset, .unset, .unset, .unset, .unset, .unset, .unset]) rfl rfl ?_
    obtain ⟨i, hi, hi4⟩ := own_and3 idx
    refine own_iloadN (pc' := 14) w0 own_d13_13 rfl rfl ?_
    refine own_iconst (pc' := 15) w0 own_d13_14 (x := (3 : Int32)) rfl rfl ?_
    refine own_iand (pc' := 16) w0 own_d13_15 (z := (Int32.ofNat i)) hi rfl ?_
    refine own_istore (pc' := 18) w0 own_d13_16 (Ls' := #[.val (.int flags), .val (.int idx), .val (.int other), .val (.long a), .second, .val (.long b), .second, .val (.long d), .second, .val (.int (0 : Int32)), .val (.int (Int32.ofNat i)), .unset, .unset, .unset, .unset, .unset, .unset]) rfl rfl ?_
    obtain ⟨j, hj, hj4⟩ := own_and3 other
    refine own_iloadN (pc' := 19) w0 own_d13_18 rfl rfl ?_
    refine own_iconst (pc' := 20) w0 own_d13_19 (x := (3 : Int32)) rfl rfl ?_
    refine own_iand (pc' := 21) w0 own_d13_20 (z := (Int32.ofNat j)) hj rfl ?_
    refine own_istore (pc' := 23) w0 own_d13_21 (Ls' := #[.val (.int flags), .val (.int idx), .val (.int other), .val (.long a), .second, .val (.long b), .second, .val (.long d), .second, .val (.int (0 : Int32)), .val (.int (Int32.ofNat i)), .val (.int (Int32.ofNat j)), .unset, .unset, .unset, .unset, .unset]) rfl rfl ?_
    obtain ⟨k, hk, hk4⟩ := own_and3 (XT.ushr flags (1 : Int32))
    refine own_iloadN (pc' := 24) w0 own_d13_23 rfl rfl ?_
    refine own_iconst (pc' := 25) w0 own_d13_24 (x := (1 : Int32)) rfl rfl ?_
    refine own_iushr (pc' := 26) w0 own_d13_25 (z := (XT.ushr flags (1 : Int32))) rfl rfl ?_
    refine own_iconst (pc' := 27) w0 own_d13_26 (x := (3 : Int32)) rfl rfl ?_
    refine own_iand (pc' := 28) w0 own_d13_27 (z := (Int32.ofNat k)) hk rfl ?_
    refine own_istore (pc' := 30) w0 own_d13_28 (Ls' := #[.val (.int flags), .val (.int idx), .val (.int other), .val (.long a), .second, .val (.long b), .second, .val (.long d), .second, .val (.int (0 : Int32)), .val (.int (Int32.ofNat i)), .val (.int (Int32.ofNat j)), .val (.int (Int32.ofNat k)), .unset, .unset, .unset, .unset]) rfl rfl ?_
    refine own_iload (pc' := 32) w0 own_d13_30 rfl rfl ?_
    refine own_if (pc' := 35) w0 own_d13_32 rfl (by decide) (pcY := 55) rfl (fun (hb32 : (0 : Int32) = (0 : Int32)) => ?_) (fun (hb32 : ¬ (0 : Int32) = (0 : Int32)) => absurd hb32 (by decide))
    refine own_lloadN (pc' := 56) w0 own_d13_55 rfl rfl ?_
    refine own_callS (pc' := 59) w0 (hw _ (List.mem_of_getElem? (i := 0) rfl)) (hw _ (List.mem_of_getElem? (i := 1) rfl)) (hw _ (List.mem_of_getElem? (i := 2) rfl)) (hw _ (List.mem_of_getElem? (i := 3) rfl)) (by decide) (own_ct_cOf l Z a0 hw EL hE n0 [] h0 (own_old w0) a ) all0 (argsL := [(.long a)]) (rest := []) rfl rfl own_pd4 rfl own_d13_56 rfl (by decide) (W := 0) rfl (by decide) (by decide) (by decide) fun T1 h3 v4 ms5 w2 q6 => ?_
    obtain ⟨K8, r_7, rfl, rfl, nw_E_r_7, nw_F_r_7_low, nw_F_r_7_high, p56_cOf_0⟩ := q6
    have nw_r_7 : h0.size ≤ r_7 := Nat.le_trans K.1 p56_cOf_0
    replace K := K.trans K8 all0
    have E_r_7 := nw_E_r_7; clear nw_E_r_7
    have F_r_7_low := nw_F_r_7_low; clear nw_F_r_7_low
    have F_r_7_high := nw_F_r_7_high; clear nw_F_r_7_high
    show own_Go Z EL n0 p e below s _ _ _ (T1.setTop (mkF m 59 #[.val (.int flags), .val (.int idx), .val (.int other), .val (.long a), .second, .val (.long b), .second, .val (.long d), .second, .val (.int (0 : Int32)), .val (.int (Int32.ofNat i)), .val (.int (Int32.ofNat j)), .val (.int (Int32.ofNat k)), .unset, .unset, .unset, .unset] [(.ref r_7)]))
    refine own_lload (pc' := 61) w2 own_d13_59 rfl rfl ?_
    refine own_callS (pc' := 64) w2 (hw _ (List.mem_of_getElem? (i := 0) rfl)) (hw _ (List.mem_of_getElem? (i := 1) rfl)) (hw _ (List.mem_of_getElem? (i := 2) rfl)) (hw _ (List.mem_of_getElem? (i := 3) rfl)) (by decide) (own_ct_cOf l Z a0 hw EL hE n0 [] h3 (own_old w2) b ) all0 (argsL := [(.long b)]) (rest := [(.ref r_7)]) rfl rfl own_pd4 rfl own_d13_61 rfl (by decide) (W := 1) rfl (by decide) (by decide) (by decide) fun T9 h11 v12 ms13 w10 q14 => ?_
    obtain ⟨K16, r_15, rfl, rfl, nw_E_r_15, nw_F_r_15_low, nw_F_r_15_high, p61_cOf_0⟩ := q14
    have ne_r_7_r_15 : r_7 ≠ r_15 := Nat.ne_of_lt (Nat.lt_of_lt_of_le E_r_7.lt p61_cOf_0)
    have nw_r_15 : h0.size ≤ r_15 := Nat.le_trans K.1 p61_cOf_0
    replace E_r_7 := E_r_7.keep K16
    replace F_r_7_low := F_r_7_low.keep K16 nin0
    replace F_r_7_high := F_r_7_high.keep K16 nin0
    replace K := K.trans K16 all0
    have E_r_15 := nw_E_r_15; clear nw_E_r_15
    have F_r_15_low := nw_F_r_15_low; clear nw_F_r_15_low
    have F_r_15_high := nw_F_r_15_high; clear nw_F_r_15_high
    show own_Go Z EL n0 p e below s _ _ _ (T9.setTop (mkF m 64 #[.val (.int flags), .val (.int idx), .val (.int other), .val (.long a), .second, .val (.long b), .second, .val (.long d), .second, .val (.int (0 : Int32)), .val (.int (Int32.ofNat i)), .val (.int (Int32.ofNat j)), .val (.int (Int32.ofNat k)), .unset, .unset, .unset, .unset] [(.ref r_15), (.ref r_7)]))
    refine own_callV (pc' := 67) w10 (hw _ (List.mem_of_getElem? (i := 16) rfl)) (hw _ (List.mem_of_getElem? (i := 17) rfl)) (fun s' hZ' => notFace_of_selects (args := #[]) (mvT hZ' (hw _ (List.mem_of_getElem? (i := 19) rfl)))) (hw _ (List.mem_of_getElem? (i := 19) rfl)) (hw _ (List.mem_of_getElem? (i := 18) rfl)) (hw _ (List.mem_of_getElem? (i := 2) rfl)) (hw _ (List.mem_of_getElem? (i := 20) rfl)) (by decide) E_r_7 (own_ct_times l Z a0 hw EL hE n0 [] h11 (own_old w10) r_7 r_15 a b F_r_7_low F_r_7_high F_r_15_low F_r_15_high) all0 (argsL := [(.ref r_15)]) (rest := []) rfl rfl own_pd5 rfl own_d13_64 rfl (by decide) (W := 0) rfl (by decide) (by decide) (by decide) fun T17 h19 v20 ms21 w18 q22 => ?_
    obtain ⟨K24, r_23, rfl, rfl, nw_E_r_23, nw_F_r_23_low, nw_F_r_23_high, p64_times_0⟩ := q22
    have ne_r_15_r_23 : r_15 ≠ r_23 := Nat.ne_of_lt (Nat.lt_of_lt_of_le E_r_15.lt p64_times_0)
    have ne_r_7_r_23 : r_7 ≠ r_23 := Nat.ne_of_lt (Nat.lt_of_lt_of_le E_r_7.lt p64_times_0)
    have nw_r_23 : h0.size ≤ r_23 := Nat.le_trans K.1 p64_times_0
    replace E_r_7 := E_r_7.keep K24
    replace F_r_7_low := F_r_7_low.keep K24 nin0
    replace F_r_7_high := F_r_7_high.keep K24 nin0
    replace E_r_15 := E_r_15.keep K24
    replace F_r_15_low := F_r_15_low.keep K24 nin0
    replace F_r_15_high := F_r_15_high.keep K24 nin0
    replace K := K.trans K24 all0
    have E_r_23 := nw_E_r_23; clear nw_E_r_23
    have F_r_23_low := nw_F_r_23_low; clear nw_F_r_23_low
    have F_r_23_high := nw_F_r_23_high; clear nw_F_r_23_high
    show own_Go Z EL n0 p e below s _ _ _ (T17.setTop (mkF m 67 #[.val (.int flags), .val (.int idx), .val (.int other), .val (.long a), .second, .val (.long b), .second, .val (.long d), .second, .val (.int (0 : Int32)), .val (.int (Int32.ofNat i)), .val (.int (Int32.ofNat j)), .val (.int (Int32.ofNat k)), .unset, .unset, .unset, .unset] [(.ref r_23)]))
    refine own_lload (pc' := 69) w18 own_d13_67 rfl rfl ?_
    refine own_callS (pc' := 72) w18 (hw _ (List.mem_of_getElem? (i := 0) rfl)) (hw _ (List.mem_of_getElem? (i := 1) rfl)) (hw _ (List.mem_of_getElem? (i := 2) rfl)) (hw _ (List.mem_of_getElem? (i := 3) rfl)) (by decide) (own_ct_cOf l Z a0 hw EL hE n0 [] h19 (own_old w18) d ) all0 (argsL := [(.long d)]) (rest := [(.ref r_23)]) rfl rfl own_pd4 rfl own_d13_69 rfl (by decide) (W := 1) rfl (by decide) (by decide) (by decide) fun T25 h27 v28 ms29 w26 q30 => ?_
    obtain ⟨K32, r_31, rfl, rfl, nw_E_r_31, nw_F_r_31_low, nw_F_r_31_high, p69_cOf_0⟩ := q30
    have ne_r_15_r_31 : r_15 ≠ r_31 := Nat.ne_of_lt (Nat.lt_of_lt_of_le E_r_15.lt p69_cOf_0)
    have ne_r_23_r_31 : r_23 ≠ r_31 := Nat.ne_of_lt (Nat.lt_of_lt_of_le E_r_23.lt p69_cOf_0)
    have ne_r_7_r_31 : r_7 ≠ r_31 := Nat.ne_of_lt (Nat.lt_of_lt_of_le E_r_7.lt p69_cOf_0)
    have nw_r_31 : h0.size ≤ r_31 := Nat.le_trans K.1 p69_cOf_0
    replace E_r_7 := E_r_7.keep K32
    replace F_r_7_low := F_r_7_low.keep K32 nin0
    replace F_r_7_high := F_r_7_high.keep K32 nin0
    replace E_r_15 := E_r_15.keep K32
    replace F_r_15_low := F_r_15_low.keep K32 nin0
    replace F_r_15_high := F_r_15_high.keep K32 nin0
    replace E_r_23 := E_r_23.keep K32
    replace F_r_23_low := F_r_23_low.keep K32 nin0
    replace F_r_23_high := F_r_23_high.keep K32 nin0
    replace K := K.trans K32 all0
    have E_r_31 := nw_E_r_31; clear nw_E_r_31
    have F_r_31_low := nw_F_r_31_low; clear nw_F_r_31_low
    have F_r_31_high := nw_F_r_31_high; clear nw_F_r_31_high
    show own_Go Z EL n0 p e below s _ _ _ (T25.setTop (mkF m 72 #[.val (.int flags), .val (.int idx), .val (.int other), .val (.long a), .second, .val (.long b), .second, .val (.long d), .second, .val (.int (0 : Int32)), .val (.int (Int32.ofNat i)), .val (.int (Int32.ofNat j)), .val (.int (Int32.ofNat k)), .unset, .unset, .unset, .unset] [(.ref r_31), (.ref r_23)]))
    refine own_callV (pc' := 75) w26 (hw _ (List.mem_of_getElem? (i := 30) rfl)) (hw _ (List.mem_of_getElem? (i := 31) rfl)) (fun s' hZ' => notFace_of_selects (args := #[]) (mvT hZ' (hw _ (List.mem_of_getElem? (i := 33) rfl)))) (hw _ (List.mem_of_getElem? (i := 33) rfl)) (hw _ (List.mem_of_getElem? (i := 32) rfl)) (hw _ (List.mem_of_getElem? (i := 2) rfl)) (hw _ (List.mem_of_getElem? (i := 34) rfl)) (by decide) E_r_23 (own_ct_plus l Z a0 hw EL hE n0 [] h27 (own_old w26) r_23 r_31 (own_mh a b) (a * b) (own_sgn d) d F_r_23_low F_r_23_high F_r_31_low F_r_31_high ((own_mhb _ _).1) ((own_mhb _ _).2) (own_sgb _)) all0 (argsL := [(.ref r_31)]) (rest := []) rfl rfl own_pd5 rfl own_d13_72 rfl (by decide) (W := 0) rfl (by decide) (by decide) (by decide) fun T33 h35 v36 ms37 w34 q38 => ?_
    obtain ⟨K42, r_39, h2_40, l2_41, rfl, rfl, nw_E_r_39, nw_F_r_39_low, nw_F_r_39_high, p72_plus_0⟩ := q38
    have ne_r_15_r_39 : r_15 ≠ r_39 := Nat.ne_of_lt (Nat.lt_of_lt_of_le E_r_15.lt p72_plus_0)
    have ne_r_23_r_39 : r_23 ≠ r_39 := Nat.ne_of_lt (Nat.lt_of_lt_of_le E_r_23.lt p72_plus_0)
    have ne_r_31_r_39 : r_31 ≠ r_39 := Nat.ne_of_lt (Nat.lt_of_lt_of_le E_r_31.lt p72_plus_0)
    have ne_r_7_r_39 : r_7 ≠ r_39 := Nat.ne_of_lt (Nat.lt_of_lt_of_le E_r_7.lt p72_plus_0)
    have nw_r_39 : h0.size ≤ r_39 := Nat.le_trans K.1 p72_plus_0
    replace E_r_7 := E_r_7.keep K42
    replace F_r_7_low := F_r_7_low.keep K42 nin0
    replace F_r_7_high := F_r_7_high.keep K42 nin0
    replace E_r_15 := E_r_15.keep K42
    replace F_r_15_low := F_r_15_low.keep K42 nin0
    replace F_r_15_high := F_r_15_high.keep K42 nin0
    replace E_r_23 := E_r_23.keep K42
    replace F_r_23_low := F_r_23_low.keep K42 nin0
    replace F_r_23_high := F_r_23_high.keep K42 nin0
    replace E_r_31 := E_r_31.keep K42
    replace F_r_31_low := F_r_31_low.keep K42 nin0
    replace F_r_31_high := F_r_31_high.keep K42 nin0
    replace K := K.trans K42 all0
    have E_r_39 := nw_E_r_39; clear nw_E_r_39
    have F_r_39_low := nw_F_r_39_low; clear nw_F_r_39_low
    have F_r_39_high := nw_F_r_39_high; clear nw_F_r_39_high
    show own_Go Z EL n0 p e below s _ _ _ (T33.setTop (mkF m 75 #[.val (.int flags), .val (.int idx), .val (.int other), .val (.long a), .second, .val (.long b), .second, .val (.long d), .second, .val (.int (0 : Int32)), .val (.int (Int32.ofNat i)), .val (.int (Int32.ofNat j)), .val (.int (Int32.ofNat k)), .unset, .unset, .unset, .unset] [(.ref r_39)]))
    refine own_astore (pc' := 77) w34 own_d13_75 rfl (Ls' := #[.val (.int flags), .val (.int idx), .val (.int other), .val (.long a), .second, .val (.long b), .second, .val (.long d), .second, .val (.int (0 : Int32)), .val (.int (Int32.ofNat i)), .val (.int (Int32.ofNat j)), .val (.int (Int32.ofNat k)), .val (.ref r_39), .unset, .unset, .unset]) rfl rfl ?_
    refine own_lload (pc' := 79) w34 own_d13_77 rfl rfl ?_
    refine own_callS (pc' := 82) w34 (hw _ (List.mem_of_getElem? (i := 0) rfl)) (hw _ (List.mem_of_getElem? (i := 1) rfl)) (hw _ (List.mem_of_getElem? (i := 2) rfl)) (hw _ (List.mem_of_getElem? (i := 3) rfl)) (by decide) (own_ct_cOf l Z a0 hw EL hE n0 [] h35 (own_old w34) d ) all0 (argsL := [(.long d)]) (rest := []) rfl rfl own_pd4 rfl own_d13_79 rfl (by decide) (W := 0) rfl (by decide) (by decide) (by decide) fun T43 h45 v46 ms47 w44 q48 => ?_
    obtain ⟨K50, r_49, rfl, rfl, nw_E_r_49, nw_F_r_49_low, nw_F_r_49_high, p79_cOf_0⟩ := q48
    have ne_r_15_r_49 : r_15 ≠ r_49 := Nat.ne_of_lt (Nat.lt_of_lt_of_le E_r_15.lt p79_cOf_0)
    have ne_r_23_r_49 : r_23 ≠ r_49 := Nat.ne_of_lt (Nat.lt_of_lt_of_le E_r_23.lt p79_cOf_0)
    have ne_r_31_r_49 : r_31 ≠ r_49 := Nat.ne_of_lt (Nat.lt_of_lt_of_le E_r_31.lt p79_cOf_0)
    have ne_r_39_r_49 : r_39 ≠ r_49 := Nat.ne_of_lt (Nat.lt_of_lt_of_le E_r_39.lt p79_cOf_0)
    have ne_r_7_r_49 : r_7 ≠ r_49 := Nat.ne_of_lt (Nat.lt_of_lt_of_le E_r_7.lt p79_cOf_0)
    have nw_r_49 : h0.size ≤ r_49 := Nat.le_trans K.1 p79_cOf_0
    replace E_r_7 := E_r_7.keep K50
    replace F_r_7_low := F_r_7_low.keep K50 nin0
    replace F_r_7_high := F_r_7_high.keep K50 nin0
    replace E_r_15 := E_r_15.keep K50
    replace F_r_15_low := F_r_15_low.keep K50 nin0
    replace F_r_15_high := F_r_15_high.keep K50 nin0
    replace E_r_23 := E_r_23.keep K50
    replace F_r_23_low := F_r_23_low.keep K50 nin0
    replace F_r_23_high := F_r_23_high.keep K50 nin0
    replace E_r_31 := E_r_31.keep K50
    replace F_r_31_low := F_r_31_low.keep K50 nin0
    replace F_r_31_high := F_r_31_high.keep K50 nin0
    replace E_r_39 := E_r_39.keep K50
    replace F_r_39_low := F_r_39_low.keep K50 nin0
    replace F_r_39_high := F_r_39_high.keep K50 nin0
    replace K := K.trans K50 all0
    have E_r_49 := nw_E_r_49; clear nw_E_r_49
    have F_r_49_low := nw_F_r_49_low; clear nw_F_r_49_low
    have F_r_49_high := nw_F_r_49_high; clear nw_F_r_49_high
    show own_Go Z EL n0 p e below s _ _ _ (T43.setTop (mkF m 82 #[.val (.int flags), .val (.int idx), .val (.int other), .val (.long a), .second, .val (.long b), .second, .val (.long d), .second, .val (.int (0 : Int32)), .val (.int (Int32.ofNat i)), .val (.int (Int32.ofNat j)), .val (.int (Int32.ofNat k)), .val (.ref r_39), .unset, .unset, .unset] [(.ref r_49)]))
    refine own_lloadN (pc' := 83) w44 own_d13_82 rfl rfl ?_
    refine own_callS (pc' := 86) w44 (hw _ (List.mem_of_getElem? (i := 0) rfl)) (hw _ (List.mem_of_getElem? (i := 1) rfl)) (hw _ (List.mem_of_getElem? (i := 2) rfl)) (hw _ (List.mem_of_getElem? (i := 3) rfl)) (by decide) (own_ct_cOf l Z a0 hw EL hE n0 [] h45 (own_old w44) a ) all0 (argsL := [(.long a)]) (rest := [(.ref r_49)]) rfl rfl own_pd4 rfl own_d13_83 rfl (by decide) (W := 1) rfl (by decide) (by decide) (by decide) fun T51 h53 v54 ms55 w52 q56 => ?_
    obtain ⟨K58, r_57, rfl, rfl, nw_E_r_57, nw_F_r_57_low, nw_F_r_57_high, p83_cOf_0⟩ := q56
    have ne_r_15_r_57 : r_15 ≠ r_57 := Nat.ne_of_lt (Nat.lt_of_lt_of_le E_r_15.lt p83_cOf_0)
    have ne_r_23_r_57 : r_23 ≠ r_57 := Nat.ne_of_lt (Nat.lt_of_lt_of_le E_r_23.lt p83_cOf_0)
    have ne_r_31_r_57 : r_31 ≠ r_57 := Nat.ne_of_lt (Nat.lt_of_lt_of_le E_r_31.lt p83_cOf_0)
    have ne_r_39_r_57 : r_39 ≠ r_57 := Nat.ne_of_lt (Nat.lt_of_lt_of_le E_r_39.lt p83_cOf_0)
    have ne_r_49_r_57 : r_49 ≠ r_57 := Nat.ne_of_lt (Nat.lt_of_lt_of_le E_r_49.lt p83_cOf_0)
    have ne_r_7_r_57 : r_7 ≠ r_57 := Nat.ne_of_lt (Nat.lt_of_lt_of_le E_r_7.lt p83_cOf_0)
    have nw_r_57 : h0.size ≤ r_57 := Nat.le_trans K.1 p83_cOf_0
    replace E_r_7 := E_r_7.keep K58
    replace F_r_7_low := F_r_7_low.keep K58 nin0
    replace F_r_7_high := F_r_7_high.keep K58 nin0
    replace E_r_15 := E_r_15.keep K58
    replace F_r_15_low := F_r_15_low.keep K58 nin0
    replace F_r_15_high := F_r_15_high.keep K58 nin0
    replace E_r_23 := E_r_23.keep K58
    replace F_r_23_low := F_r_23_low.keep K58 nin0
    replace F_r_23_high := F_r_23_high.keep K58 nin0
    replace E_r_31 := E_r_31.keep K58
    replace F_r_31_low := F_r_31_low.keep K58 nin0
    replace F_r_31_high := F_r_31_high.keep K58 nin0
    replace E_r_39 := E_r_39.keep K58
    replace F_r_39_low := F_r_39_low.keep K58 nin0
    replace F_r_39_high := F_r_39_high.keep K58 nin0
    replace E_r_49 := E_r_49.keep K58
    replace F_r_49_low := F_r_49_low.keep K58 nin0
    replace F_r_49_high := F_r_49_high.keep K58 nin0
    replace K := K.trans K58 all0
    have E_r_57 := nw_E_r_57; clear nw_E_r_57
    have F_r_57_low := nw_F_r_57_low; clear nw_F_r_57_low
    have F_r_57_high := nw_F_r_57_high; clear nw_F_r_57_high
    show own_Go Z EL n0 p e below s _ _ _ (T51.setTop (mkF m 86 #[.val (.int flags), .val (.int idx), .val (.int other), .val (.long a), .second, .val (.long b), .second, .val (.long d), .second, .val (.int (0 : Int32)), .val (.int (Int32.ofNat i)), .val (.int (Int32.ofNat j)), .val (.int (Int32.ofNat k)), .val (.ref r_39), .unset, .unset, .unset] [(.ref r_57), (.ref r_49)]))
    refine own_callV (pc' := 89) w52 (hw _ (List.mem_of_getElem? (i := 16) rfl)) (hw _ (List.mem_of_getElem? (i := 17) rfl)) (fun s' hZ' => notFace_of_selects (args := #[]) (mvT hZ' (hw _ (List.mem_of_getElem? (i := 19) rfl)))) (hw _ (List.mem_of_getElem? (i := 19) rfl)) (hw _ (List.mem_of_getElem? (i := 18) rfl)) (hw _ (List.mem_of_getElem? (i := 2) rfl)) (hw _ (List.mem_of_getElem? (i := 20) rfl)) (by decide) E_r_49 (own_ct_times l Z a0 hw EL hE n0 [] h53 (own_old w52) r_49 r_57 d a F_r_49_low F_r_49_high F_r_57_low F_r_57_high) all0 (argsL := [(.ref r_57)]) (rest := []) rfl rfl own_pd5 rfl own_d13_86 rfl (by decide) (W := 0) rfl (by decide) (by decide) (by decide) fun T59 h61 v62 ms63 w60 q64 => ?_
    obtain ⟨K66, r_65, rfl, rfl, nw_E_r_65, nw_F_r_65_low, nw_F_r_65_high, p86_times_0⟩ := q64
    have ne_r_15_r_65 : r_15 ≠ r_65 := Nat.ne_of_lt (Nat.lt_of_lt_of_le E_r_15.lt p86_times_0)
    have ne_r_23_r_65 : r_23 ≠ r_65 := Nat.ne_of_lt (Nat.lt_of_lt_of_le E_r_23.lt p86_times_0)
    have ne_r_31_r_65 : r_31 ≠ r_65 := Nat.ne_of_lt (Nat.lt_of_lt_of_le E_r_31.lt p86_times_0)
    have ne_r_39_r_65 : r_39 ≠ r_65 := Nat.ne_of_lt (Nat.lt_of_lt_of_le E_r_39.lt p86_times_0)
    have ne_r_49_r_65 : r_49 ≠ r_65 := Nat.ne_of_lt (Nat.lt_of_lt_of_le E_r_49.lt p86_times_0)
    have ne_r_57_r_65 : r_57 ≠ r_65 := Nat.ne_of_lt (Nat.lt_of_lt_of_le E_r_57.lt p86_times_0)
    have ne_r_7_r_65 : r_7 ≠ r_65 := Nat.ne_of_lt (Nat.lt_of_lt_of_le E_r_7.lt p86_times_0)
    have nw_r_65 : h0.size ≤ r_65 := Nat.le_trans K.1 p86_times_0
    replace E_r_7 := E_r_7.keep K66
    replace F_r_7_low := F_r_7_low.keep K66 nin0
    replace F_r_7_high := F_r_7_high.keep K66 nin0
    replace E_r_15 := E_r_15.keep K66
    replace F_r_15_low := F_r_15_low.keep K66 nin0
    replace F_r_15_high := F_r_15_high.keep K66 nin0
    replace E_r_23 := E_r_23.keep K66
    replace F_r_23_low := F_r_23_low.keep K66 nin0
    replace F_r_23_high := F_r_23_high.keep K66 nin0
    replace E_r_31 := E_r_31.keep K66
    replace F_r_31_low := F_r_31_low.keep K66 nin0
    replace F_r_31_high := F_r_31_high.keep K66 nin0
    replace E_r_39 := E_r_39.keep K66
    replace F_r_39_low := F_r_39_low.keep K66 nin0
    replace F_r_39_high := F_r_39_high.keep K66 nin0
    replace E_r_49 := E_r_49.keep K66
    replace F_r_49_low := F_r_49_low.keep K66 nin0
    replace F_r_49_high := F_r_49_high.keep K66 nin0
    replace E_r_57 := E_r_57.keep K66
    replace F_r_57_low := F_r_57_low.keep K66 nin0
    replace F_r_57_high := F_r_57_high.keep K66 nin0
    replace K := K.trans K66 all0
    have E_r_65 := nw_E_r_65; clear nw_E_r_65
    have F_r_65_low := nw_F_r_65_low; clear nw_F_r_65_low
    have F_r_65_high := nw_F_r_65_high; clear nw_F_r_65_high
    show own_Go Z EL n0 p e below s _ _ _ (T59.setTop (mkF m 89 #[.val (.int flags), .val (.int idx), .val (.int other), .val (.long a), .second, .val (.long b), .second, .val (.long d), .second, .val (.int (0 : Int32)), .val (.int (Int32.ofNat i)), .val (.int (Int32.ofNat j)), .val (.int (Int32.ofNat k)), .val (.ref r_39), .unset, .unset, .unset] [(.ref r_65)]))
    refine own_astore (pc' := 91) w60 own_d13_89 rfl (Ls' := #[.val (.int flags), .val (.int idx), .val (.int other), .val (.long a), .second, .val (.long b), .second, .val (.long d), .second, .val (.int (0 : Int32)), .val (.int (Int32.ofNat i)), .val (.int (Int32.ofNat j)), .val (.int (Int32.ofNat k)), .val (.ref r_39), .val (.ref r_65), .unset, .unset]) rfl rfl ?_
    refine own_newO (pc' := 94) w60 (hw _ (List.mem_of_getElem? (i := 47) rfl)) (hw _ (List.mem_of_getElem? (i := 48) rfl)) (hw _ (List.mem_of_getElem? (i := 49) rfl)) own_d13_91 rfl (by decide) (by decide) fun T67 h69 a71 g_a71 w68 E70 ⟨E_a71, D72⟩ => ?_
    have ne_r_15_a71 : r_15 ≠ a71 := Nat.ne_of_lt (Nat.lt_of_lt_of_le E_r_15.lt (Nat.le_of_eq g_a71))
    have ne_r_23_a71 : r_23 ≠ a71 := Nat.ne_of_lt (Nat.lt_of_lt_of_le E_r_23.lt (Nat.le_of_eq g_a71))
    have ne_r_31_a71 : r_31 ≠ a71 := Nat.ne_of_lt (Nat.lt_of_lt_of_le E_r_31.lt (Nat.le_of_eq g_a71))
    have ne_r_39_a71 : r_39 ≠ a71 := Nat.ne_of_lt (Nat.lt_of_lt_of_le E_r_39.lt (Nat.le_of_eq g_a71))
    have ne_r_49_a71 : r_49 ≠ a71 := Nat.ne_of_lt (Nat.lt_of_lt_of_le E_r_49.lt (Nat.le_of_eq g_a71))
    have ne_r_57_a71 : r_57 ≠ a71 := Nat.ne_of_lt (Nat.lt_of_lt_of_le E_r_57.lt (Nat.le_of_eq g_a71))
    have ne_r_65_a71 : r_65 ≠ a71 := Nat.ne_of_lt (Nat.lt_of_lt_of_le E_r_65.lt (Nat.le_of_eq g_a71))
    have ne_r_7_a71 : r_7 ≠ a71 := Nat.ne_of_lt (Nat.lt_of_lt_of_le E_r_7.lt (Nat.le_of_eq g_a71))
    have nw_a71 : h0.size ≤ a71 := Nat.le_trans K.1 (Nat.le_of_eq g_a71)
    replace E_r_7 := E_r_7.ext E70
    replace F_r_7_low := F_r_7_low.ext E70
    replace F_r_7_high := F_r_7_high.ext E70
    replace E_r_15 := E_r_15.ext E70
    replace F_r_15_low := F_r_15_low.ext E70
    replace F_r_15_high := F_r_15_high.ext E70
    replace E_r_23 := E_r_23.ext E70
    replace F_r_23_low := F_r_23_low.ext E70
    replace F_r_23_high := F_r_23_high.ext E70
    replace E_r_31 := E_r_31.ext E70
    replace F_r_31_low := F_r_31_low.ext E70
    replace F_r_31_high := F_r_31_high.ext E70
    replace E_r_39 := E_r_39.ext E70
    replace F_r_39_low := F_r_39_low.ext E70
    replace F_r_39_high := F_r_39_high.ext E70
    replace E_r_49 := E_r_49.ext E70
    replace F_r_49_low := F_r_49_low.ext E70
    replace F_r_49_high := F_r_49_high.ext E70
    replace E_r_57 := E_r_57.ext E70
    replace F_r_57_low := F_r_57_low.ext E70
    replace F_r_57_high := F_r_57_high.ext E70
    replace E_r_65 := E_r_65.ext E70
    replace F_r_65_low := F_r_65_low.ext E70
    replace F_r_65_high := F_r_65_high.ext E70
    replace K := K.ext E70
    have F_a71_product : Fld Z h69 a71 "com/example/throng/throng/engine/Count$Array" "product" "[J" .null := D72 (Or.inr (hw _ (List.mem_of_getElem? (i := 55) rfl))) (ty := (.array .long)) (by decide)
    have F_a71_narrow : Fld Z h69 a71 "com/example/throng/throng/engine/Count$Array" "narrow" "Z" (.int 0) := D72 (Or.inr (hw _ (List.mem_of_getElem? (i := 57) rfl))) (ty := .boolean) (by decide)
    have F_a71_bits : Fld Z h69 a71 "com/example/throng/throng/engine/Count$Array" "bits" "[J" .null := D72 (Or.inr (hw _ (List.mem_of_getElem? (i := 59) rfl))) (ty := (.array .long)) (by decide)
    refine own_dup (pc' := 95) w68 own_d13_94 rfl rfl ?_
    refine own_iconst (pc' := 96) w68 own_d13_95 (x := (4 : Int32)) rfl rfl ?_
    refine own_iload (pc' := 98) w68 own_d13_96 rfl rfl ?_
    refine own_callI (pc' := 101) w68 rfl (hw _ (List.mem_of_getElem? (i := 50) rfl)) (hw _ (List.mem_of_getElem? (i := 51) rfl)) (hw _ (List.mem_of_getElem? (i := 49) rfl)) (hw _ (List.mem_of_getElem? (i := 52) rfl)) (by decide) (own_ct_aInitW l Z a0 hw EL hE n0 [] h69 (own_old w68) a71 .null (.int 0) .null E_a71 F_a71_product F_a71_narrow F_a71_bits) (allS (P := fun x => x ∈ _) (by simp) all0) (argsL := [(.int (4 : Int32)), (.int (0 : Int32))]) (rest := [(.ref a71)]) rfl rfl own_pd6 rfl own_d13_98 rfl (by decide) (W := 1) rfl (by decide) (by decide) (by decide) fun T73 h75 v76 ms77 w74 q78 => ?_
    obtain ⟨K81, t_79, kt_80, rfl, rfl, nw_E_a71, nw_F_a71_narrow, nw_F_a71_bits, nw_A_t_79, p98_aInitW_0⟩ := q78
    have ne_a71_t_79 : a71 ≠ t_79 := Nat.ne_of_lt (Nat.lt_of_lt_of_le E_a71.lt p98_aInitW_0)
    have ne_r_15_t_79 : r_15 ≠ t_79 := Nat.ne_of_lt (Nat.lt_of_lt_of_le E_r_15.lt p98_aInitW_0)
    have ne_r_23_t_79 : r_23 ≠ t_79 := Nat.ne_of_lt (Nat.lt_of_lt_of_le E_r_23.lt p98_aInitW_0)
    have ne_r_31_t_79 : r_31 ≠ t_79 := Nat.ne_of_lt (Nat.lt_of_lt_of_le E_r_31.lt p98_aInitW_0)
    have ne_r_39_t_79 : r_39 ≠ t_79 := Nat.ne_of_lt (Nat.lt_of_lt_of_le E_r_39.lt p98_aInitW_0)
    have ne_r_49_t_79 : r_49 ≠ t_79 := Nat.ne_of_lt (Nat.lt_of_lt_of_le E_r_49.lt p98_aInitW_0)
    have ne_r_57_t_79 : r_57 ≠ t_79 := Nat.ne_of_lt (Nat.lt_of_lt_of_le E_r_57.lt p98_aInitW_0)
    have ne_r_65_t_79 : r_65 ≠ t_79 := Nat.ne_of_lt (Nat.lt_of_lt_of_le E_r_65.lt p98_aInitW_0)
    have ne_r_7_t_79 : r_7 ≠ t_79 := Nat.ne_of_lt (Nat.lt_of_lt_of_le E_r_7.lt p98_aInitW_0)
    have nw_t_79 : h0.size ≤ t_79 := Nat.le_trans K.1 p98_aInitW_0
    replace E_r_7 := E_r_7.keep K81
    replace F_r_7_low := F_r_7_low.keep K81 (ninS ne_r_7_a71 nin0)
    replace F_r_7_high := F_r_7_high.keep K81 (ninS ne_r_7_a71 nin0)
    replace E_r_15 := E_r_15.keep K81
    replace F_r_15_low := F_r_15_low.keep K81 (ninS ne_r_15_a71 nin0)
    replace F_r_15_high := F_r_15_high.keep K81 (ninS ne_r_15_a71 nin0)
    replace E_r_23 := E_r_23.keep K81
    replace F_r_23_low := F_r_23_low.keep K81 (ninS ne_r_23_a71 nin0)
    replace F_r_23_high := F_r_23_high.keep K81 (ninS ne_r_23_a71 nin0)
    replace E_r_31 := E_r_31.keep K81
    replace F_r_31_low := F_r_31_low.keep K81 (ninS ne_r_31_a71 nin0)
    replace F_r_31_high := F_r_31_high.keep K81 (ninS ne_r_31_a71 nin0)
    replace E_r_39 := E_r_39.keep K81
    replace F_r_39_low := F_r_39_low.keep K81 (ninS ne_r_39_a71 nin0)
    replace F_r_39_high := F_r_39_high.keep K81 (ninS ne_r_39_a71 nin0)
    replace E_r_49 := E_r_49.keep K81
    replace F_r_49_low := F_r_49_low.keep K81 (ninS ne_r_49_a71 nin0)
    replace F_r_49_high := F_r_49_high.keep K81 (ninS ne_r_49_a71 nin0)
    replace E_r_57 := E_r_57.keep K81
    replace F_r_57_low := F_r_57_low.keep K81 (ninS ne_r_57_a71 nin0)
    replace F_r_57_high := F_r_57_high.keep K81 (ninS ne_r_57_a71 nin0)
    replace E_r_65 := E_r_65.keep K81
    replace F_r_65_low := F_r_65_low.keep K81 (ninS ne_r_65_a71 nin0)
    replace F_r_65_high := F_r_65_high.keep K81 (ninS ne_r_65_a71 nin0)
    replace K := K.trans K81 (allS (P := fun x => x ∈ ([] : List Addr) ∨ h0.size ≤ x) (Or.inr nw_a71) all0)
    have E_a71 := nw_E_a71; clear nw_E_a71
    have F_a71_narrow := nw_F_a71_narrow; clear nw_F_a71_narrow
    have F_a71_bits := nw_F_a71_bits; clear nw_F_a71_bits
    have A_t_79 := nw_A_t_79; clear nw_A_t_79
    show own_Go Z EL n0 p e below s _ _ _ (T73.setTop (mkF m 101 #[.val (.int flags), .val (.int idx), .val (.int other), .val (.long a), .second, .val (.long b), .second, .val (.long d), .second, .val (.int (0 : Int32)), .val (.int (Int32.ofNat i)), .val (.int (Int32.ofNat j)), .val (.int (Int32.ofNat k)), .val (.ref r_39), .val (.ref r_65), .unset, .unset] [(.ref a71)]))
    refine own_astore (pc' := 103) w74 own_d13_101 rfl (Ls' := #[.val (.int flags), .val (.int idx), .val (.int other), .val (.long a), .second, .val (.long b), .second, .val (.long d), .second, .val (.int (0 : Int32)), .val (.int (Int32.ofNat i)), .val (.int (Int32.ofNat j)), .val (.int (Int32.ofNat k)), .val (.ref r_39), .val (.ref r_65), .val (.ref a71), .unset]) rfl rfl ?_
    refine own_aload (pc' := 105) w74 own_d13_103 rfl rfl rfl ?_
    refine own_iload (pc' := 107) w74 own_d13_105 rfl rfl ?_
    refine own_aload (pc' := 109) w74 own_d13_107 rfl rfl rfl ?_
    refine own_callV (pc' := 112) w74 (hw _ (List.mem_of_getElem? (i := 60) rfl)) (hw _ (List.mem_of_getElem? (i := 61) rfl)) (fun s' hZ' => notFace_of_selects (args := #[]) (mvT hZ' (hw _ (List.mem_of_getElem? (i := 63) rfl)))) (hw _ (List.mem_of_getElem? (i := 63) rfl)) (hw _ (List.mem_of_getElem? (i := 62) rfl)) (hw _ (List.mem_of_getElem? (i := 49) rfl)) (hw _ (List.mem_of_getElem? (i := 64) rfl)) (by decide) E_a71 (own_ct_setCW l Z a0 hw EL hE n0 [] h75 (own_old w74) a71 (Int32.ofNat j) r_65 t_79 kt_80 [(.long 0), (.long 0), (.long 0), (.long 0), (.long 0), (.long 0), (.long 0), (.long 0)] j (own_mh d a) (d * a) F_a71_narrow F_a71_bits A_t_79 F_r_65_low F_r_65_high (rfl) (hj4) (rfl) ne_a71_t_79 ne_r_65_t_79) (allS (P := fun x => x ∈ _) (by simp) all0) (argsL := [(.int (Int32.ofNat j)), (.ref r_65)]) (rest := []) rfl rfl own_pd7 rfl own_d13_109 rfl (by decide) (W := 0) rfl (by decide) (by decide) (by decide) fun T82 h84 v85 ms86 w83 q87 => ?_
    obtain ⟨K88, rfl, rfl, nw_A_t_79⟩ := q87
    replace E_r_7 := E_r_7.keep K88
    replace F_r_7_low := F_r_7_low.keep K88 (ninS ne_r_7_t_79 nin0)
    replace F_r_7_high := F_r_7_high.keep K88 (ninS ne_r_7_t_79 nin0)
    replace E_r_15 := E_r_15.keep K88
    replace F_r_15_low := F_r_15_low.keep K88 (ninS ne_r_15_t_79 nin0)
    replace F_r_15_high := F_r_15_high.keep K88 (ninS ne_r_15_t_79 nin0)
    replace E_r_23 := E_r_23.keep K88
    replace F_r_23_low := F_r_23_low.keep K88 (ninS ne_r_23_t_79 nin0)
    replace F_r_23_high := F_r_23_high.keep K88 (ninS ne_r_23_t_79 nin0)
    replace E_r_31 := E_r_31.keep K88
    replace F_r_31_low := F_r_31_low.keep K88 (ninS ne_r_31_t_79 nin0)
    replace F_r_31_high := F_r_31_high.keep K88 (ninS ne_r_31_t_79 nin0)
    replace E_r_39 := E_r_39.keep K88
    replace F_r_39_low := F_r_39_low.keep K88 (ninS ne_r_39_t_79 nin0)
    replace F_r_39_high := F_r_39_high.keep K88 (ninS ne_r_39_t_79 nin0)
    replace E_r_49 := E_r_49.keep K88
    replace F_r_49_low := F_r_49_low.keep K88 (ninS ne_r_49_t_79 nin0)
    replace F_r_49_high := F_r_49_high.keep K88 (ninS ne_r_49_t_79 nin0)
    replace E_r_57 := E_r_57.keep K88
    replace F_r_57_low := F_r_57_low.keep K88 (ninS ne_r_57_t_79 nin0)
    replace F_r_57_high := F_r_57_high.keep K88 (ninS ne_r_57_t_79 nin0)
    replace E_r_65 := E_r_65.keep K88
    replace F_r_65_low := F_r_65_low.keep K88 (ninS ne_r_65_t_79 nin0)
    replace F_r_65_high := F_r_65_high.keep K88 (ninS ne_r_65_t_79 nin0)
    replace E_a71 := E_a71.keep K88
    replace F_a71_narrow := F_a71_narrow.keep K88 (ninS ne_a71_t_79 nin0)
    replace F_a71_bits := F_a71_bits.keep K88 (ninS ne_a71_t_79 nin0)
    replace K := K.trans K88 (allS (P := fun x => x ∈ ([] : List Addr) ∨ h0.size ≤ x) (Or.inr nw_t_79) all0)
    have A_t_79 := nw_A_t_79; clear nw_A_t_79
    show own_Go Z EL n0 p e below s _ _ _ (T82.setTop (mkF m 112 #[.val (.int flags), .val (.int idx), .val (.int other), .val (.long a), .second, .val (.long b), .second, .val (.long d), .second, .val (.int (0 : Int32)), .val (.int (Int32.ofNat i)), .val (.int (Int32.ofNat j)), .val (.int (Int32.ofNat k)), .val (.ref r_39), .val (.ref r_65), .val (.ref a71), .unset] []))
    refine own_aload (pc' := 114) w83 own_d13_112 rfl rfl rfl ?_
    refine own_iload (pc' := 116) w83 own_d13_114 rfl rfl ?_
    refine own_aload (pc' := 118) w83 own_d13_116 rfl rfl rfl ?_
    refine own_callV (pc' := 121) w83 (hw _ (List.mem_of_getElem? (i := 60) rfl)) (hw _ (List.mem_of_getElem? (i := 61) rfl)) (fun s' hZ' => notFace_of_selects (args := #[]) (mvT hZ' (hw _ (List.mem_of_getElem? (i := 63) rfl)))) (hw _ (List.mem_of_getElem? (i := 63) rfl)) (hw _ (List.mem_of_getElem? (i := 62) rfl)) (hw _ (List.mem_of_getElem? (i := 49) rfl)) (hw _ (List.mem_of_getElem? (i := 64) rfl)) (by decide) E_a71 (own_ct_setCW l Z a0 hw EL hE n0 [] h84 (own_old w83) a71 (Int32.ofNat i) r_39 t_79 kt_80 (own_pW [(.long 0), (.long 0), (.long 0), (.long 0), (.long 0), (.long 0), (.long 0), (.long 0)] j (own_mh d a) (d * a)) i h2_40 l2_41 F_a71_narrow F_a71_bits A_t_79 F_r_39_low F_r_39_high (rfl) (hi4) (by simp only [own_lW]; rfl) ne_a71_t_79 ne_r_39_t_79) (allS (P := fun x => x ∈ _) (by simp) all0) (argsL := [(.int (Int32.ofNat i)), (.ref r_39)]) (rest := []) rfl rfl own_pd7 rfl own_d13_118 rfl (by decide) (W := 0) rfl (by decide) (by decide) (by decide) fun T89 h91 v92 ms93 w90 q94 => ?_
    obtain ⟨K95, rfl, rfl, nw_A_t_79⟩ := q94
    replace E_r_7 := E_r_7.keep K95
    replace F_r_7_low := F_r_7_low.keep K95 (ninS ne_r_7_t_79 nin0)
    replace F_r_7_high := F_r_7_high.keep K95 (ninS ne_r_7_t_79 nin0)
    replace E_r_15 := E_r_15.keep K95
    replace F_r_15_low := F_r_15_low.keep K95 (ninS ne_r_15_t_79 nin0)
    replace F_r_15_high := F_r_15_high.keep K95 (ninS ne_r_15_t_79 nin0)
    replace E_r_23 := E_r_23.keep K95
    replace F_r_23_low := F_r_23_low.keep K95 (ninS ne_r_23_t_79 nin0)
    replace F_r_23_high := F_r_23_high.keep K95 (ninS ne_r_23_t_79 nin0)
    replace E_r_31 := E_r_31.keep K95
    replace F_r_31_low := F_r_31_low.keep K95 (ninS ne_r_31_t_79 nin0)
    replace F_r_31_high := F_r_31_high.keep K95 (ninS ne_r_31_t_79 nin0)
    replace E_r_39 := E_r_39.keep K95
    replace F_r_39_low := F_r_39_low.keep K95 (ninS ne_r_39_t_79 nin0)
    replace F_r_39_high := F_r_39_high.keep K95 (ninS ne_r_39_t_79 nin0)
    replace E_r_49 := E_r_49.keep K95
    replace F_r_49_low := F_r_49_low.keep K95 (ninS ne_r_49_t_79 nin0)
    replace F_r_49_high := F_r_49_high.keep K95 (ninS ne_r_49_t_79 nin0)
    replace E_r_57 := E_r_57.keep K95
    replace F_r_57_low := F_r_57_low.keep K95 (ninS ne_r_57_t_79 nin0)
    replace F_r_57_high := F_r_57_high.keep K95 (ninS ne_r_57_t_79 nin0)
    replace E_r_65 := E_r_65.keep K95
    replace F_r_65_low := F_r_65_low.keep K95 (ninS ne_r_65_t_79 nin0)
    replace F_r_65_high := F_r_65_high.keep K95 (ninS ne_r_65_t_79 nin0)
    replace E_a71 := E_a71.keep K95
    replace F_a71_narrow := F_a71_narrow.keep K95 (ninS ne_a71_t_79 nin0)
    replace F_a71_bits := F_a71_bits.keep K95 (ninS ne_a71_t_79 nin0)
    replace K := K.trans K95 (allS (P := fun x => x ∈ ([] : List Addr) ∨ h0.size ≤ x) (Or.inr nw_t_79) all0)
    have A_t_79 := nw_A_t_79; clear nw_A_t_79
    show own_Go Z EL n0 p e below s _ _ _ (T89.setTop (mkF m 121 #[.val (.int flags), .val (.int idx), .val (.int other), .val (.long a), .second, .val (.long b), .second, .val (.long d), .second, .val (.int (0 : Int32)), .val (.int (Int32.ofNat i)), .val (.int (Int32.ofNat j)), .val (.int (Int32.ofNat k)), .val (.ref r_39), .val (.ref r_65), .val (.ref a71), .unset] []))
    refine own_aload (pc' := 123) w90 own_d13_121 rfl rfl rfl ?_
    refine own_iload (pc' := 125) w90 own_d13_123 rfl rfl ?_
    refine own_callV (pc' := 128) w90 (hw _ (List.mem_of_getElem? (i := 67) rfl)) (hw _ (List.mem_of_getElem? (i := 68) rfl)) (fun s' hZ' => notFace_of_selects (args := #[]) (mvT hZ' (hw _ (List.mem_of_getElem? (i := 70) rfl)))) (hw _ (List.mem_of_getElem? (i := 70) rfl)) (hw _ (List.mem_of_getElem? (i := 69) rfl)) (hw _ (List.mem_of_getElem? (i := 49) rfl)) (hw _ (List.mem_of_getElem? (i := 71) rfl)) (by decide) E_a71 (own_ct_getW l Z a0 hw EL hE n0 [] h91 (own_old w90) a71 (Int32.ofNat i) t_79 kt_80 (own_pW (own_pW [(.long 0), (.long 0), (.long 0), (.long 0), (.long 0), (.long 0), (.long 0), (.long 0)] j (own_mh d a) (d * a)) i h2_40 l2_41) i h2_40 l2_41 F_a71_narrow F_a71_bits A_t_79 (rfl) (hi4) (by simp only [own_lW]; rfl) (own_gW0 _ _ _ _ _ (by first | (simp only [own_lW]; show _ < 8; omega) | (show _ < 8; omega))) (own_gW1 _ _ _ _ _ (by first | (simp only [own_lW]; show _ < 8; omega) | (show _ < 8; omega)))) all0 (argsL := [(.int (Int32.ofNat i))]) (rest := []) rfl rfl own_pd8 rfl own_d13_125 rfl (by decide) (W := 0) rfl (by decide) (by decide) (by decide) fun T96 h98 v99 ms100 w97 q101 => ?_
    obtain ⟨K103, r_102, rfl, rfl, nw_E_r_102, nw_F_r_102_low, nw_F_r_102_high, p125_getW_0⟩ := q101
    have ne_a71_r_102 : a71 ≠ r_102 := Nat.ne_of_lt (Nat.lt_of_lt_of_le E_a71.lt p125_getW_0)
    have ne_r_15_r_102 : r_15 ≠ r_102 := Nat.ne_of_lt (Nat.lt_of_lt_of_le E_r_15.lt p125_getW_0)
    have ne_r_23_r_102 : r_23 ≠ r_102 := Nat.ne_of_lt (Nat.lt_of_lt_of_le E_r_23.lt p125_getW_0)
    have ne_r_31_r_102 : r_31 ≠ r_102 := Nat.ne_of_lt (Nat.lt_of_lt_of_le E_r_31.lt p125_getW_0)
    have ne_r_39_r_102 : r_39 ≠ r_102 := Nat.ne_of_lt (Nat.lt_of_lt_of_le E_r_39.lt p125_getW_0)
    have ne_r_49_r_102 : r_49 ≠ r_102 := Nat.ne_of_lt (Nat.lt_of_lt_of_le E_r_49.lt p125_getW_0)
    have ne_r_57_r_102 : r_57 ≠ r_102 := Nat.ne_of_lt (Nat.lt_of_lt_of_le E_r_57.lt p125_getW_0)
    have ne_r_65_r_102 : r_65 ≠ r_102 := Nat.ne_of_lt (Nat.lt_of_lt_of_le E_r_65.lt p125_getW_0)
    have ne_r_7_r_102 : r_7 ≠ r_102 := Nat.ne_of_lt (Nat.lt_of_lt_of_le E_r_7.lt p125_getW_0)
    have ne_t_79_r_102 : t_79 ≠ r_102 := Nat.ne_of_lt (Nat.lt_of_lt_of_le A_t_79.lt p125_getW_0)
    have nw_r_102 : h0.size ≤ r_102 := Nat.le_trans K.1 p125_getW_0
    replace E_r_7 := E_r_7.keep K103
    replace F_r_7_low := F_r_7_low.keep K103 nin0
    replace F_r_7_high := F_r_7_high.keep K103 nin0
    replace E_r_15 := E_r_15.keep K103
    replace F_r_15_low := F_r_15_low.keep K103 nin0
    replace F_r_15_high := F_r_15_high.keep K103 nin0
    replace E_r_23 := E_r_23.keep K103
    replace F_r_23_low := F_r_23_low.keep K103 nin0
    replace F_r_23_high := F_r_23_high.keep K103 nin0
    replace E_r_31 := E_r_31.keep K103
    replace F_r_31_low := F_r_31_low.keep K103 nin0
    replace F_r_31_high := F_r_31_high.keep K103 nin0
    replace E_r_39 := E_r_39.keep K103
    replace F_r_39_low := F_r_39_low.keep K103 nin0
    replace F_r_39_high := F_r_39_high.keep K103 nin0
    replace E_r_49 := E_r_49.keep K103
    replace F_r_49_low := F_r_49_low.keep K103 nin0
    replace F_r_49_high := F_r_49_high.keep K103 nin0
    replace E_r_57 := E_r_57.keep K103
    replace F_r_57_low := F_r_57_low.keep K103 nin0
    replace F_r_57_high := F_r_57_high.keep K103 nin0
    replace E_r_65 := E_r_65.keep K103
    replace F_r_65_low := F_r_65_low.keep K103 nin0
    replace F_r_65_high := F_r_65_high.keep K103 nin0
    replace E_a71 := E_a71.keep K103
    replace F_a71_narrow := F_a71_narrow.keep K103 nin0
    replace F_a71_bits := F_a71_bits.keep K103 nin0
    replace A_t_79 := A_t_79.keep K103 nin0
    replace K := K.trans K103 all0
    have E_r_102 := nw_E_r_102; clear nw_E_r_102
    have F_r_102_low := nw_F_r_102_low; clear nw_F_r_102_low
    have F_r_102_high := nw_F_r_102_high; clear nw_F_r_102_high
    show own_Go Z EL n0 p e below s _ _ _ (T96.setTop (mkF m 128 #[.val (.int flags), .val (.int idx), .val (.int other), .val (.long a), .second, .val (.long b), .second, .val (.long d), .second, .val (.int (0 : Int32)), .val (.int (Int32.ofNat i)), .val (.int (Int32.ofNat j)), .val (.int (Int32.ofNat k)), .val (.ref r_39), .val (.ref r_65), .val (.ref a71), .unset] [(.ref r_102)]))
    refine own_aload (pc' := 130) w97 own_d13_128 rfl rfl rfl ?_
    refine own_callV (pc' := 133) w97 (hw _ (List.mem_of_getElem? (i := 74) rfl)) (hw _ (List.mem_of_getElem? (i := 75) rfl)) (fun s' hZ' => notFace_of_selects (args := #[]) (mvT hZ' (hw _ (List.mem_of_getElem? (i := 77) rfl)))) (hw _ (List.mem_of_getElem? (i := 77) rfl)) (hw _ (List.mem_of_getElem? (i := 76) rfl)) (hw _ (List.mem_of_getElem? (i := 2) rfl)) (hw _ (List.mem_of_getElem? (i := 78) rfl)) (by decide) E_r_102 (own_ct_ceq l Z a0 hw EL hE n0 [] h98 (own_old w97) r_102 r_39 h2_40 l2_41 F_r_102_low F_r_102_high E_r_39 F_r_39_low F_r_39_high) all0 (argsL := [(.ref r_39)]) (rest := []) rfl rfl own_pd9 rfl own_d13_130 rfl (by decide) (W := 0) rfl (by decide) (by decide) (by decide) fun T104 h106 v107 ms108 w105 q109 => ?_
    obtain ⟨rfl, rfl, rfl⟩ := q109
    show own_Go Z EL n0 p e below s _ _ _ (T104.setTop (mkF m 133 #[.val (.int flags), .val (.int idx), .val (.int other), .val (.long a), .second, .val (.long b), .second, .val (.long d), .second, .val (.int (0 : Int32)), .val (.int (Int32.ofNat i)), .val (.int (Int32.ofNat j)), .val (.int (Int32.ofNat k)), .val (.ref r_39), .val (.ref r_65), .val (.ref a71), .unset] [(.int (1 : Int32))]))
    refine own_istore (pc' := 135) w105 own_d13_133 (Ls' := #[.val (.int flags), .val (.int idx), .val (.int other), .val (.long a), .second, .val (.long b), .second, .val (.long d), .second, .val (.int (0 : Int32)), .val (.int (Int32.ofNat i)), .val (.int (Int32.ofNat j)), .val (.int (Int32.ofNat k)), .val (.ref r_39), .val (.ref r_65), .val (.ref a71), .val (.int (1 : Int32))]) rfl rfl ?_
    refine own_iload (pc' := 137) w105 own_d13_135 rfl rfl ?_
    refine own_iload (pc' := 139) w105 own_d13_137 rfl rfl ?_
    refine own_icmp (pc' := 142) w105 own_d13_139 rfl (by decide) (pcY := 169) rfl (fun (hb139 : (Int32.ofNat i) = (Int32.ofNat j)) => ?_) (fun (hb139 : ¬ (Int32.ofNat i) = (Int32.ofNat j)) => ?_)
    · -- ttt
      refine own_iload (pc' := 171) w105 own_d13_169 rfl rfl ?_
      refine own_iload (pc' := 173) w105 own_d13_171 rfl rfl ?_
      refine own_icmp (pc' := 176) w105 own_d13_173 rfl (by decide) (pcY := 211) rfl (fun (hb173 : (Int32.ofNat k) = (Int32.ofNat i)) => ?_) (fun (hb173 : ¬ (Int32.ofNat k) = (Int32.ofNat i)) => ?_)
      · -- tttt
        refine own_iload (pc' := 213) w105 own_d13_211 rfl rfl ?_
        exact own_retV w105 (t := .boolean) rfl rfl (Or.inl ⟨rfl, by simp, _, rfl⟩) own_d13_213 (by decide) (by decide) (ms' := []) all0 ⟨K, rfl, rfl⟩
      · -- tttf
        refine own_iload (pc' := 178) w105 own_d13_176 rfl rfl ?_
        refine own_iload (pc' := 180) w105 own_d13_178 rfl rfl ?_
        refine own_icmp (pc' := 183) w105 own_d13_180 rfl (by decide) (pcY := 211) rfl (fun (hb180 : (Int32.ofNat k) = (Int32.ofNat j)) => ?_) (fun (hb180 : ¬ (Int32.ofNat k) = (Int32.ofNat j)) => ?_)
        · -- tttft
          refine own_iload (pc' := 213) w105 own_d13_211 rfl rfl ?_
          exact own_retV w105 (t := .boolean) rfl rfl (Or.inl ⟨rfl, by simp, _, rfl⟩) own_d13_213 (by decide) (by decide) (ms' := []) all0 ⟨K, rfl, rfl⟩
        · -- tttff
          have nik : i ≠ k := (own_ofn hk4 hi4 hb173).symm
          have njk : j ≠ k := (own_ofn hk4 hj4 hb180).symm
          refine own_iload (pc' := 185) w105 own_d13_183 rfl rfl ?_
          refine own_if (pc' := 188) w105 own_d13_185 rfl (by decide) (pcY := 208) rfl (fun (hb185 : (1 : Int32) = (0 : Int32)) => absurd hb185 (by decide)) (fun (hb185 : ¬ (1 : Int32) = (0 : Int32)) => ?_)
          refine own_aload (pc' := 190) w105 own_d13_188 rfl rfl rfl ?_
          refine own_iload (pc' := 192) w105 own_d13_190 rfl rfl ?_
          refine own_callV (pc' := 195) w105 (hw _ (List.mem_of_getElem? (i := 67) rfl)) (hw _ (List.mem_of_getElem? (i := 68) rfl)) (fun s' hZ' => notFace_of_selects (args := #[]) (mvT hZ' (hw _ (List.mem_of_getElem? (i := 70) rfl)))) (hw _ (List.mem_of_getElem? (i := 70) rfl)) (hw _ (List.mem_of_getElem? (i := 69) rfl)) (hw _ (List.mem_of_getElem? (i := 49) rfl)) (hw _ (List.mem_of_getElem? (i := 71) rfl)) (by decide) E_a71 (own_ct_getW l Z a0 hw EL hE n0 [] h98 (own_old w105) a71 (Int32.ofNat k) t_79 kt_80 (own_pW (own_pW [(.long 0), (.long 0), (.long 0), (.long 0), (.long 0), (.long 0), (.long 0), (.long 0)] j (own_mh d a) (d * a)) i h2_40 l2_41) k 0 0 F_a71_narrow F_a71_bits A_t_79 (rfl) (hk4) (by simp only [own_lW]; rfl) ((own_oW _ _ _ _ nik (Or.inl rfl)).trans ((own_oW _ _ _ _ njk (Or.inl rfl)).trans (own_z8 hk4 (Or.inl rfl)))) ((own_oW _ _ _ _ nik (Or.inr rfl)).trans ((own_oW _ _ _ _ njk (Or.inr rfl)).trans (own_z8 hk4 (Or.inr rfl))))) all0 (argsL := [(.int (Int32.ofNat k))]) (rest := []) rfl rfl own_pd8 rfl own_d13_192 rfl (by decide) (W := 0) rfl (by decide) (by decide) (by decide) fun T110 h112 v113 ms114 w111 q115 => ?_
          obtain ⟨K117, r_116, rfl, rfl, nw_E_r_116, nw_F_r_116_low, nw_F_r_116_high, p192_getW_0⟩ := q115
          have ne_a71_r_116 : a71 ≠ r_116 := Nat.ne_of_lt (Nat.lt_of_lt_of_le E_a71.lt p192_getW_0)
          have ne_r_102_r_116 : r_102 ≠ r_116 := Nat.ne_of_lt (Nat.lt_of_lt_of_le E_r_102.lt p192_getW_0)
          have ne_r_15_r_116 : r_15 ≠ r_116 := Nat.ne_of_lt (Nat.lt_of_lt_of_le E_r_15.lt p192_getW_0)
          have ne_r_23_r_116 : r_23 ≠ r_116 := Nat.ne_of_lt (Nat.lt_of_lt_of_le E_r_23.lt p192_getW_0)
          have ne_r_31_r_116 : r_31 ≠ r_116 := Nat.ne_of_lt (Nat.lt_of_lt_of_le E_r_31.lt p192_getW_0)
          have ne_r_39_r_116 : r_39 ≠ r_116 := Nat.ne_of_lt (Nat.lt_of_lt_of_le E_r_39.lt p192_getW_0)
          have ne_r_49_r_116 : r_49 ≠ r_116 := Nat.ne_of_lt (Nat.lt_of_lt_of_le E_r_49.lt p192_getW_0)
          have ne_r_57_r_116 : r_57 ≠ r_116 := Nat.ne_of_lt (Nat.lt_of_lt_of_le E_r_57.lt p192_getW_0)
          have ne_r_65_r_116 : r_65 ≠ r_116 := Nat.ne_of_lt (Nat.lt_of_lt_of_le E_r_65.lt p192_getW_0)
          have ne_r_7_r_116 : r_7 ≠ r_116 := Nat.ne_of_lt (Nat.lt_of_lt_of_le E_r_7.lt p192_getW_0)
          have ne_t_79_r_116 : t_79 ≠ r_116 := Nat.ne_of_lt (Nat.lt_of_lt_of_le A_t_79.lt p192_getW_0)
          have nw_r_116 : h0.size ≤ r_116 := Nat.le_trans K.1 p192_getW_0
          replace E_r_7 := E_r_7.keep K117
          replace F_r_7_low := F_r_7_low.keep K117 nin0
          replace F_r_7_high := F_r_7_high.keep K117 nin0
          replace E_r_15 := E_r_15.keep K117
          replace F_r_15_low := F_r_15_low.keep K117 nin0
          replace F_r_15_high := F_r_15_high.keep K117 nin0
          replace E_r_23 := E_r_23.keep K117
          replace F_r_23_low := F_r_23_low.keep K117 nin0
          replace F_r_23_high := F_r_23_high.keep K117 nin0
          replace E_r_31 := E_r_31.keep K117
          replace F_r_31_low := F_r_31_low.keep K117 nin0
          replace F_r_31_high := F_r_31_high.keep K117 nin0
          replace E_r_39 := E_r_39.keep K117
          replace F_r_39_low := F_r_39_low.keep K117 nin0
          replace F_r_39_high := F_r_39_high.keep K117 nin0
          replace E_r_49 := E_r_49.keep K117
          replace F_r_49_low := F_r_49_low.keep K117 nin0
          replace F_r_49_high := F_r_49_high.keep K117 nin0
          replace E_r_57 := E_r_57.keep K117
          replace F_r_57_low := F_r_57_low.keep K117 nin0
          replace F_r_57_high := F_r_57_high.keep K117 nin0
          replace E_r_65 := E_r_65.keep K117
          replace F_r_65_low := F_r_65_low.keep K117 nin0
          replace F_r_65_high := F_r_65_high.keep K117 nin0
          replace E_a71 := E_a71.keep K117
          replace F_a71_narrow := F_a71_narrow.keep K117 nin0
          replace F_a71_bits := F_a71_bits.keep K117 nin0
          replace A_t_79 := A_t_79.keep K117 nin0
          replace E_r_102 := E_r_102.keep K117
          replace F_r_102_low := F_r_102_low.keep K117 nin0
          replace F_r_102_high := F_r_102_high.keep K117 nin0
          replace K := K.trans K117 all0
          have E_r_116 := nw_E_r_116; clear nw_E_r_116
          have F_r_116_low := nw_F_r_116_low; clear nw_F_r_116_low
          have F_r_116_high := nw_F_r_116_high; clear nw_F_r_116_high
          show own_Go Z EL n0 p e below s _ _ _ (T110.setTop (mkF m 195 #[.val (.int flags), .val (.int idx), .val (.int other), .val (.long a), .second, .val (.long b), .second, .val (.long d), .second, .val (.int (0 : Int32)), .val (.int (Int32.ofNat i)), .val (.int (Int32.ofNat j)), .val (.int (Int32.ofNat k)), .val (.ref r_39), .val (.ref r_65), .val (.ref a71), .val (.int (1 : Int32))] [(.ref r_116)]))
          refine own_getS (pc' := 198) w111 (host := "") (Or.inl (hw _ (List.mem_of_getElem? (i := 80) rfl))) Via.refl (S_ZERO.ext (own_old w111).2) own_d13_195 rfl fun T118 w119 => ?_
          have EZ1 := EZ.ext (own_old w119).2; have FZh1 := FZh.ext (own_old w119).2; have FZl1 := FZl.ext (own_old w119).2
          refine own_callV (pc' := 201) w119 (hw _ (List.mem_of_getElem? (i := 74) rfl)) (hw _ (List.mem_of_getElem? (i := 75) rfl)) (fun s' hZ' => notFace_of_selects (args := #[]) (mvT hZ' (hw _ (List.mem_of_getElem? (i := 77) rfl)))) (hw _ (List.mem_of_getElem? (i := 77) rfl)) (hw _ (List.mem_of_getElem? (i := 76) rfl)) (hw _ (List.mem_of_getElem? (i := 2) rfl)) (hw _ (List.mem_of_getElem? (i := 78) rfl)) (by decide) E_r_116 (own_ct_ceq l Z a0 hw EL hE n0 [] h112 (own_old w119) r_116 zr 0 0 F_r_116_low F_r_116_high EZ1 FZl1 FZh1) all0 (argsL := [(.ref zr)]) (rest := []) rfl rfl own_pd9 rfl own_d13_198 rfl (by decide) (W := 0) rfl (by decide) (by decide) (by decide) fun T120 h122 v123 ms124 w121 q125 => ?_
          obtain ⟨rfl, rfl, rfl⟩ := q125
          show own_Go Z EL n0 p e below s _ _ _ (T120.setTop (mkF m 201 #[.val (.int flags), .val (.int idx), .val (.int other), .val (.long a), .second, .val (.long b), .second, .val (.long d), .second, .val (.int (0 : Int32)), .val (.int (Int32.ofNat i)), .val (.int (Int32.ofNat j)), .val (.int (Int32.ofNat k)), .val (.ref r_39), .val (.ref r_65), .val (.ref a71), .val (.int (1 : Int32))] [(.int (1 : Int32))]))
          refine own_if (pc' := 204) w121 own_d13_201 rfl (by decide) (pcY := 208) rfl (fun (hb201 : (1 : Int32) = (0 : Int32)) => absurd hb201 (by decide)) (fun (hb201 : ¬ (1 : Int32) = (0 : Int32)) => ?_)
          refine own_iconst (pc' := 205) w121 own_d13_204 (x := (1 : Int32)) rfl rfl ?_
          refine own_goto w121 own_d13_205 (by decide) (pc' := 209) rfl ?_
          refine own_istore (pc' := 211) w121 own_d13_209 (Ls' := #[.val (.int flags), .val (.int idx), .val (.int other), .val (.long a), .second, .val (.long b), .second, .val (.long d), .second, .val (.int (0 : Int32)), .val (.int (Int32.ofNat i)), .val (.int (Int32.ofNat j)), .val (.int (Int32.ofNat k)), .val (.ref r_39), .val (.ref r_65), .val (.ref a71), .val (.int (1 : Int32))]) rfl rfl ?_
          refine own_iload (pc' := 213) w121 own_d13_211 rfl rfl ?_
          exact own_retV w121 (t := .boolean) rfl rfl (Or.inl ⟨rfl, by simp, _, rfl⟩) own_d13_213 (by decide) (by decide) (ms' := []) all0 ⟨K, rfl, rfl⟩
    · -- ttf
      have nij : i ≠ j := own_ofn hi4 hj4 hb139
      refine own_iload (pc' := 144) w105 own_d13_142 rfl rfl ?_
      refine own_if (pc' := 147) w105 own_d13_144 rfl (by decide) (pcY := 166) rfl (fun (hb144 : (1 : Int32) = (0 : Int32)) => absurd hb144 (by decide)) (fun (hb144 : ¬ (1 : Int32) = (0 : Int32)) => ?_)
      refine own_aload (pc' := 149) w105 own_d13_147 rfl rfl rfl ?_
      refine own_iload (pc' := 151) w105 own_d13_149 rfl rfl ?_
      refine own_callV (pc' := 154) w105 (hw _ (List.mem_of_getElem? (i := 67) rfl)) (hw _ (List.mem_of_getElem? (i := 68) rfl)) (fun s' hZ' => notFace_of_selects (args := #[]) (mvT hZ' (hw _ (List.mem_of_getElem? (i := 70) rfl)))) (hw _ (List.mem_of_getElem? (i := 70) rfl)) (hw _ (List.mem_of_getElem? (i := 69) rfl)) (hw _ (List.mem_of_getElem? (i := 49) rfl)) (hw _ (List.mem_of_getElem? (i := 71) rfl)) (by decide) E_a71 (own_ct_getW l Z a0 hw EL hE n0 [] h98 (own_old w105) a71 (Int32.ofNat j) t_79 kt_80 (own_pW (own_pW [(.long 0), (.long 0), (.long 0), (.long 0), (.long 0), (.long 0), (.long 0), (.long 0)] j (own_mh d a) (d * a)) i h2_40 l2_41) j (own_mh d a) (d * a) F_a71_narrow F_a71_bits A_t_79 (rfl) (hj4) (by simp only [own_lW]; rfl) ((own_oW _ _ _ _ nij (Or.inl rfl)).trans (own_gW0 _ _ _ _ _ (by first | (simp only [own_lW]; show _ < 8; omega) | (show _ < 8; omega)))) ((own_oW _ _ _ _ nij (Or.inr rfl)).trans (own_gW1 _ _ _ _ _ (by first | (simp only [own_lW]; show _ < 8; omega) | (show _ < 8; omega))))) all0 (argsL := [(.int (Int32.ofNat j))]) (rest := []) rfl rfl own_pd8 rfl own_d13_151 rfl (by decide) (W := 0) rfl (by decide) (by decide) (by decide) fun T126 h128 v129 ms130 w127 q131 => ?_
      obtain ⟨K133, r_132, rfl, rfl, nw_E_r_132, nw_F_r_132_low, nw_F_r_132_high, p151_getW_0⟩ := q131
      have ne_a71_r_132 : a71 ≠ r_132 := Nat.ne_of_lt (Nat.lt_of_lt_of_le E_a71.lt p151_getW_0)
      have ne_r_102_r_132 : r_102 ≠ r_132 := Nat.ne_of_lt (Nat.lt_of_lt_of_le E_r_102.lt p151_getW_0)
      have ne_r_15_r_132 : r_15 ≠ r_132 := Nat.ne_of_lt (Nat.lt_of_lt_of_le E_r_15.lt p151_getW_0)
      have ne_r_23_r_132 : r_23 ≠ r_132 := Nat.ne_of_lt (Nat.lt_of_lt_of_le E_r_23.lt p151_getW_0)
      have ne_r_31_r_132 : r_31 ≠ r_132 := Nat.ne_of_lt (Nat.lt_of_lt_of_le E_r_31.lt p151_getW_0)
      have ne_r_39_r_132 : r_39 ≠ r_132 := Nat.ne_of_lt (Nat.lt_of_lt_of_le E_r_39.lt p151_getW_0)
      have ne_r_49_r_132 : r_49 ≠ r_132 := Nat.ne_of_lt (Nat.lt_of_lt_of_le E_r_49.lt p151_getW_0)
      have ne_r_57_r_132 : r_57 ≠ r_132 := Nat.ne_of_lt (Nat.lt_of_lt_of_le E_r_57.lt p151_getW_0)
      have ne_r_65_r_132 : r_65 ≠ r_132 := Nat.ne_of_lt (Nat.lt_of_lt_of_le E_r_65.lt p151_getW_0)
      have ne_r_7_r_132 : r_7 ≠ r_132 := Nat.ne_of_lt (Nat.lt_of_lt_of_le E_r_7.lt p151_getW_0)
      have ne_t_79_r_132 : t_79 ≠ r_132 := Nat.ne_of_lt (Nat.lt_of_lt_of_le A_t_79.lt p151_getW_0)
      have nw_r_132 : h0.size ≤ r_132 := Nat.le_trans K.1 p151_getW_0
      replace E_r_7 := E_r_7.keep K133
      replace F_r_7_low := F_r_7_low.keep K133 nin0
      replace F_r_7_high := F_r_7_high.keep K133 nin0
      replace E_r_15 := E_r_15.keep K133
      replace F_r_15_low := F_r_15_low.keep K133 nin0
      replace F_r_15_high := F_r_15_high.keep K133 nin0
      replace E_r_23 := E_r_23.keep K133
      replace F_r_23_low := F_r_23_low.keep K133 nin0
      replace F_r_23_high := F_r_23_high.keep K133 nin0
      replace E_r_31 := E_r_31.keep K133
      replace F_r_31_low := F_r_31_low.keep K133 nin0
      replace F_r_31_high := F_r_31_high.keep K133 nin0
      replace E_r_39 := E_r_39.keep K133
      replace F_r_39_low := F_r_39_low.keep K133 nin0
      replace F_r_39_high := F_r_39_high.keep K133 nin0
      replace E_r_49 := E_r_49.keep K133
      replace F_r_49_low := F_r_49_low.keep K133 nin0
      replace F_r_49_high := F_r_49_high.keep K133 nin0
      replace E_r_57 := E_r_57.keep K133
      replace F_r_57_low := F_r_57_low.keep K133 nin0
      replace F_r_57_high := F_r_57_high.keep K133 nin0
      replace E_r_65 := E_r_65.keep K133
      replace F_r_65_low := F_r_65_low.keep K133 nin0
      replace F_r_65_high := F_r_65_high.keep K133 nin0
      replace E_a71 := E_a71.keep K133
      replace F_a71_narrow := F_a71_narrow.keep K133 nin0
      replace F_a71_bits := F_a71_bits.keep K133 nin0
      replace A_t_79 := A_t_79.keep K133 nin0
      replace E_r_102 := E_r_102.keep K133
      replace F_r_102_low := F_r_102_low.keep K133 nin0
      replace F_r_102_high := F_r_102_high.keep K133 nin0
      replace K := K.trans K133 all0
      have E_r_132 := nw_E_r_132; clear nw_E_r_132
      have F_r_132_low := nw_F_r_132_low; clear nw_F_r_132_low
      have F_r_132_high := nw_F_r_132_high; clear nw_F_r_132_high
      show own_Go Z EL n0 p e below s _ _ _ (T126.setTop (mkF m 154 #[.val (.int flags), .val (.int idx), .val (.int other), .val (.long a), .second, .val (.long b), .second, .val (.long d), .second, .val (.int (0 : Int32)), .val (.int (Int32.ofNat i)), .val (.int (Int32.ofNat j)), .val (.int (Int32.ofNat k)), .val (.ref r_39), .val (.ref r_65), .val (.ref a71), .val (.int (1 : Int32))] [(.ref r_132)]))
      refine own_aload (pc' := 156) w127 own_d13_154 rfl rfl rfl ?_
      refine own_callV (pc' := 159) w127 (hw _ (List.mem_of_getElem? (i := 74) rfl)) (hw _ (List.mem_of_getElem? (i := 75) rfl)) (fun s' hZ' => notFace_of_selects (args := #[]) (mvT hZ' (hw _ (List.mem_of_getElem? (i := 77) rfl)))) (hw _ (List.mem_of_getElem? (i := 77) rfl)) (hw _ (List.mem_of_getElem? (i := 76) rfl)) (hw _ (List.mem_of_getElem? (i := 2) rfl)) (hw _ (List.mem_of_getElem? (i := 78) rfl)) (by decide) E_r_132 (own_ct_ceq l Z a0 hw EL hE n0 [] h128 (own_old w127) r_132 r_65 (own_mh d a) (d * a) F_r_132_low F_r_132_high E_r_65 F_r_65_low F_r_65_high) all0 (argsL := [(.ref r_65)]) (rest := []) rfl rfl own_pd9 rfl own_d13_156 rfl (by decide) (W := 0) rfl (by decide) (by decide) (by decide) fun T134 h136 v137 ms138 w135 q139 => ?_
      obtain ⟨rfl, rfl, rfl⟩ := q139
      show own_Go Z EL n0 p e below s _ _ _ (T134.setTop (mkF m 159 #[.val (.int flags), .val (.int idx), .val (.int other), .val (.long a), .second, .val (.long b), .second, .val (.long d), .second, .val (.int (0 : Int32)), .val (.int (Int32.ofNat i)), .val (.int (Int32.ofNat j)), .val (.int (Int32.ofNat k)), .val (.ref r_39), .val (.ref r_65), .val (.ref a71), .val (.int (1 : Int32))] [(.int (1 : Int32))]))
      refine own_if (pc' := 162) w135 own_d13_159 rfl (by decide) (pcY := 166) rfl (fun (hb159 : (1 : Int32) = (0 : Int32)) => absurd hb159 (by decide)) (fun (hb159 : ¬ (1 : Int32) = (0 : Int32)) => ?_)
      refine own_iconst (pc' := 163) w135 own_d13_162 (x := (1 : Int32)) rfl rfl ?_
      refine own_goto w135 own_d13_163 (by decide) (pc' := 167) rfl ?_
      refine own_istore (pc' := 169) w135 own_d13_167 (Ls' := #[.val (.int flags), .val (.int idx), .val (.int other), .val (.long a), .second, .val (.long b), .second, .val (.long d), .second, .val (.int (0 : Int32)), .val (.int (Int32.ofNat i)), .val (.int (Int32.ofNat j)), .val (.int (Int32.ofNat k)), .val (.ref r_39), .val (.ref r_65), .val (.ref a71), .val (.int (1 : Int32))]) rfl rfl ?_
      refine own_iload (pc' := 171) w135 own_d13_169 rfl rfl ?_
      refine own_iload (pc' := 173) w135 own_d13_171 rfl rfl ?_
      refine own_icmp (pc' := 176) w135 own_d13_173 rfl (by decide) (pcY := 211) rfl (fun (hb173 : (Int32.ofNat k) = (Int32.ofNat i)) => ?_) (fun (hb173 : ¬ (Int32.ofNat k) = (Int32.ofNat i)) => ?_)
      · -- ttffft
        refine own_iload (pc' := 213) w135 own_d13_211 rfl rfl ?_
        exact own_retV w135 (t := .boolean) rfl rfl (Or.inl ⟨rfl, by simp, _, rfl⟩) own_d13_213 (by decide) (by decide) (ms' := []) all0 ⟨K, rfl, rfl⟩
      · -- ttffff
        refine own_iload (pc' := 178) w135 own_d13_176 rfl rfl ?_
        refine own_iload (pc' := 180) w135 own_d13_178 rfl rfl ?_
        refine own_icmp (pc' := 183) w135 own_d13_180 rfl (by decide) (pcY := 211) rfl (fun (hb180 : (Int32.ofNat k) = (Int32.ofNat j)) => ?_) (fun (hb180 : ¬ (Int32.ofNat k) = (Int32.ofNat j)) => ?_)
        · -- ttfffft
          refine own_iload (pc' := 213) w135 own_d13_211 rfl rfl ?_
          exact own_retV w135 (t := .boolean) rfl rfl (Or.inl ⟨rfl, by simp, _, rfl⟩) own_d13_213 (by decide) (by decide) (ms' := []) all0 ⟨K, rfl, rfl⟩
        · -- ttfffff
          have nik : i ≠ k := (own_ofn hk4 hi4 hb173).symm
          have njk : j ≠ k := (own_ofn hk4 hj4 hb180).symm
          refine own_iload (pc' := 185) w135 own_d13_183 rfl rfl ?_
          refine own_if (pc' := 188) w135 own_d13_185 rfl (by decide) (pcY := 208) rfl (fun (hb185 : (1 : Int32) = (0 : Int32)) => absurd hb185 (by decide)) (fun (hb185 : ¬ (1 : Int32) = (0 : Int32)) => ?_)
          refine own_aload (pc' := 190) w135 own_d13_188 rfl rfl rfl ?_
          refine own_iload (pc' := 192) w135 own_d13_190 rfl rfl ?_
          refine own_callV (pc' := 195) w135 (hw _ (List.mem_of_getElem? (i := 67) rfl)) (hw _ (List.mem_of_getElem? (i := 68) rfl)) (fun s' hZ' => notFace_of_selects (args := #[]) (mvT hZ' (hw _ (List.mem_of_getElem? (i := 70) rfl)))) (hw _ (List.mem_of_getElem? (i := 70) rfl)) (hw _ (List.mem_of_getElem? (i := 69) rfl)) (hw _ (List.mem_of_getElem? (i := 49) rfl)) (hw _ (List.mem_of_getElem? (i := 71) rfl)) (by decide) E_a71 (own_ct_getW l Z a0 hw EL hE n0 [] h128 (own_old w135) a71 (Int32.ofNat k) t_79 kt_80 (own_pW (own_pW [(.long 0), (.long 0), (.long 0), (.long 0), (.long 0), (.long 0), (.long 0), (.long 0)] j (own_mh d a) (d * a)) i h2_40 l2_41) k 0 0 F_a71_narrow F_a71_bits A_t_79 (rfl) (hk4) (by simp only [own_lW]; rfl) ((own_oW _ _ _ _ nik (Or.inl rfl)).trans ((own_oW _ _ _ _ njk (Or.inl rfl)).trans (own_z8 hk4 (Or.inl rfl)))) ((own_oW _ _ _ _ nik (Or.inr rfl)).trans ((own_oW _ _ _ _ njk (Or.inr rfl)).trans (own_z8 hk4 (Or.inr rfl))))) all0 (argsL := [(.int (Int32.ofNat k))]) (rest := []) rfl rfl own_pd8 rfl own_d13_192 rfl (by decide) (W := 0) rfl (by decide) (by decide) (by decide) fun T140 h142 v143 ms144 w141 q145 => ?_
          obtain ⟨K147, r_146, rfl, rfl, nw_E_r_146, nw_F_r_146_low, nw_F_r_146_high, p192_getW_0⟩ := q145
          have ne_a71_r_146 : a71 ≠ r_146 := Nat.ne_of_lt (Nat.lt_of_lt_of_le E_a71.lt p192_getW_0)
          have ne_r_102_r_146 : r_102 ≠ r_146 := Nat.ne_of_lt (Nat.lt_of_lt_of_le E_r_102.lt p192_getW_0)
          have ne_r_132_r_146 : r_132 ≠ r_146 := Nat.ne_of_lt (Nat.lt_of_lt_of_le E_r_132.lt p192_getW_0)
          have ne_r_15_r_146 : r_15 ≠ r_146 := Nat.ne_of_lt (Nat.lt_of_lt_of_le E_r_15.lt p192_getW_0)
          have ne_r_23_r_146 : r_23 ≠ r_146 := Nat.ne_of_lt (Nat.lt_of_lt_of_le E_r_23.lt p192_getW_0)
          have ne_r_31_r_146 : r_31 ≠ r_146 := Nat.ne_of_lt (Nat.lt_of_lt_of_le E_r_31.lt p192_getW_0)
          have ne_r_39_r_146 : r_39 ≠ r_146 := Nat.ne_of_lt (Nat.lt_of_lt_of_le E_r_39.lt p192_getW_0)
          have ne_r_49_r_146 : r_49 ≠ r_146 := Nat.ne_of_lt (Nat.lt_of_lt_of_le E_r_49.lt p192_getW_0)
          have ne_r_57_r_146 : r_57 ≠ r_146 := Nat.ne_of_lt (Nat.lt_of_lt_of_le E_r_57.lt p192_getW_0)
          have ne_r_65_r_146 : r_65 ≠ r_146 := Nat.ne_of_lt (Nat.lt_of_lt_of_le E_r_65.lt p192_getW_0)
          have ne_r_7_r_146 : r_7 ≠ r_146 := Nat.ne_of_lt (Nat.lt_of_lt_of_le E_r_7.lt p192_getW_0)
          have ne_t_79_r_146 : t_79 ≠ r_146 := Nat.ne_of_lt (Nat.lt_of_lt_of_le A_t_79.lt p192_getW_0)
          have nw_r_146 : h0.size ≤ r_146 := Nat.le_trans K.1 p192_getW_0
          replace E_r_7 := E_r_7.keep K147
          replace F_r_7_low := F_r_7_low.keep K147 nin0
          replace F_r_7_high := F_r_7_high.keep K147 nin0
          replace E_r_15 := E_r_15.keep K147
          replace F_r_15_low := F_r_15_low.keep K147 nin0
          replace F_r_15_high := F_r_15_high.keep K147 nin0
          replace E_r_23 := E_r_23.keep K147
          replace F_r_23_low := F_r_23_low.keep K147 nin0
          replace F_r_23_high := F_r_23_high.keep K147 nin0
          replace E_r_31 := E_r_31.keep K147
          replace F_r_31_low := F_r_31_low.keep K147 nin0
          replace F_r_31_high := F_r_31_high.keep K147 nin0
          replace E_r_39 := E_r_39.keep K147
          replace F_r_39_low := F_r_39_low.keep K147 nin0
          replace F_r_39_high := F_r_39_high.keep K147 nin0
          replace E_r_49 := E_r_49.keep K147
          replace F_r_49_low := F_r_49_low.keep K147 nin0
          replace F_r_49_high := F_r_49_high.keep K147 nin0
          replace E_r_57 := E_r_57.keep K147
          replace F_r_57_low := F_r_57_low.keep K147 nin0
          replace F_r_57_high := F_r_57_high.keep K147 nin0
          replace E_r_65 := E_r_65.keep K147
          replace F_r_65_low := F_r_65_low.keep K147 nin0
          replace F_r_65_high := F_r_65_high.keep K147 nin0
          replace E_a71 := E_a71.keep K147
          replace F_a71_narrow := F_a71_narrow.keep K147 nin0
          replace F_a71_bits := F_a71_bits.keep K147 nin0
          replace A_t_79 := A_t_79.keep K147 nin0
          replace E_r_102 := E_r_102.keep K147
          replace F_r_102_low := F_r_102_low.keep K147 nin0
          replace F_r_102_high := F_r_102_high.keep K147 nin0
          replace E_r_132 := E_r_132.keep K147
          replace F_r_132_low := F_r_132_low.keep K147 nin0
          replace F_r_132_high := F_r_132_high.keep K147 nin0
          replace K := K.trans K147 all0
          have E_r_146 := nw_E_r_146; clear nw_E_r_146
          have F_r_146_low := nw_F_r_146_low; clear nw_F_r_146_low
          have F_r_146_high := nw_F_r_146_high; clear nw_F_r_146_high
          show own_Go Z EL n0 p e below s _ _ _ (T140.setTop (mkF m 195 #[.val (.int flags), .val (.int idx), .val (.int other), .val (.long a), .second, .val (.long b), .second, .val (.long d), .second, .val (.int (0 : Int32)), .val (.int (Int32.ofNat i)), .val (.int (Int32.ofNat j)), .val (.int (Int32.ofNat k)), .val (.ref r_39), .val (.ref r_65), .val (.ref a71), .val (.int (1 : Int32))] [(.ref r_146)]))
          refine own_getS (pc' := 198) w141 (host := "") (Or.inl (hw _ (List.mem_of_getElem? (i := 80) rfl))) Via.refl (S_ZERO.ext (own_old w141).2) own_d13_195 rfl fun T148 w149 => ?_
          have EZ1 := EZ.ext (own_old w149).2; have FZh1 := FZh.ext (own_old w149).2; have FZl1 := FZl.ext (own_old w149).2
          refine own_callV (pc' := 201) w149 (hw _ (List.mem_of_getElem? (i := 74) rfl)) (hw _ (List.mem_of_getElem? (i := 75) rfl)) (fun s' hZ' => notFace_of_selects (args := #[]) (mvT hZ' (hw _ (List.mem_of_getElem? (i := 77) rfl)))) (hw _ (List.mem_of_getElem? (i := 77) rfl)) (hw _ (List.mem_of_getElem? (i := 76) rfl)) (hw _ (List.mem_of_getElem? (i := 2) rfl)) (hw _ (List.mem_of_getElem? (i := 78) rfl)) (by decide) E_r_146 (own_ct_ceq l Z a0 hw EL hE n0 [] h142 (own_old w149) r_146 zr 0 0 F_r_146_low F_r_146_high EZ1 FZl1 FZh1) all0 (argsL := [(.ref zr)]) (rest := []) rfl rfl own_pd9 rfl own_d13_198 rfl (by decide) (W := 0) rfl (by decide) (by decide) (by decide) fun T150 h152 v153 ms154 w151 q155 => ?_
          obtain ⟨rfl, rfl, rfl⟩ := q155
          show own_Go Z EL n0 p e below s _ _ _ (T150.setTop (mkF m 201 #[.val (.int flags), .val (.int idx), .val (.int other), .val (.long a), .second, .val (.long b), .second, .val (.long d), .second, .val (.int (0 : Int32)), .val (.int (Int32.ofNat i)), .val (.int (Int32.ofNat j)), .val (.int (Int32.ofNat k)), .val (.ref r_39), .val (.ref r_65), .val (.ref a71), .val (.int (1 : Int32))] [(.int (1 : Int32))]))
          refine own_if (pc' := 204) w151 own_d13_201 rfl (by decide) (pcY := 208) rfl (fun (hb201 : (1 : Int32) = (0 : Int32)) => absurd hb201 (by decide)) (fun (hb201 : ¬ (1 : Int32) = (0 : Int32)) => ?_)
          refine own_iconst (pc' := 205) w151 own_d13_204 (x := (1 : Int32)) rfl rfl ?_
          refine own_goto w151 own_d13_205 (by decide) (pc' := 209) rfl ?_
          refine own_istore (pc' := 211) w151 own_d13_209 (Ls' := #[.val (.int flags), .val (.int idx), .val (.int other), .val (.long a), .second, .val (.long b), .second, .val (.long d), .second, .val (.int (0 : Int32)), .val (.int (Int32.ofNat i)), .val (.int (Int32.ofNat j)), .val (.int (Int32.ofNat k)), .val (.ref r_39), .val (.ref r_65), .val (.ref a71), .val (.int (1 : Int32))]) rfl rfl ?_
          refine own_iload (pc' := 213) w151 own_d13_211 rfl rfl ?_
          exact own_retV w151 (t := .boolean) rfl rfl (Or.inl ⟨rfl, by simp, _, rfl⟩) own_d13_213 (by decide) (by decide) (ms' := []) all0 ⟨K, rfl, rfl⟩
  · -- f
    refine own_iconst (pc' := 7) w0 own_d13_6 (x := (1 : Int32)) rfl rfl ?_
    refine own_goto w0 own_d13_7 (by decide) (pc' := 11) rfl ?_
    refine own_istore (pc' := 13) w0 own_d13_11 (Ls' := #[.val (.int flags), .val (.int idx), .val (.int other), .val (.long a), .second, .val (.long b), .second, .val (.long d), .second, .val (.int (1 : Int32)), .unset, .unset, .unset, .unset, .unset, .unset, .unset]) rfl rfl ?_
    obtain ⟨i, hi, hi4⟩ := own_and3 idx
    refine own_iloadN (pc' := 14) w0 own_d13_13 rfl rfl ?_
    refine own_iconst (pc' := 15) w0 own_d13_14 (x := (3 : Int32)) rfl rfl ?_
    refine own_iand (pc' := 16) w0 own_d13_15 (z := (Int32.ofNat i)) hi rfl ?_
    refine own_istore (pc' := 18) w0 own_d13_16 (Ls' := #[.val (.int flags), .val (.int idx), .val (.int other), .val (.long a), .second, .val (.long b), .second, .val (.long d), .second, .val (.int (1 : Int32)), .val (.int (Int32.ofNat i)), .unset, .unset, .unset, .unset, .unset, .unset]) rfl rfl ?_
    obtain ⟨j, hj, hj4⟩ := own_and3 other
    refine own_iloadN (pc' := 19) w0 own_d13_18 rfl rfl ?_
    refine own_iconst (pc' := 20) w0 own_d13_19 (x := (3 : Int32)) rfl rfl ?_
    refine own_iand (pc' := 21) w0 own_d13_20 (z := (Int32.ofNat j)) hj rfl ?_
    refine own_istore (pc' := 23) w0 own_d13_21 (Ls' := #[.val (.int flags), .val (.int idx), .val (.int other), .val (.long a), .second, .val (.long b), .second, .val (.long d), .second, .val (.int (1 : Int32)), .val (.int (Int32.ofNat i)), .val (.int (Int32.ofNat j)), .unset, .unset, .unset, .unset, .unset]) rfl rfl ?_
    obtain ⟨k, hk, hk4⟩ := own_and3 (XT.ushr flags (1 : Int32))
    refine own_iloadN (pc' := 24) w0 own_d13_23 rfl rfl ?_
    refine own_iconst (pc' := 25) w0 own_d13_24 (x := (1 : Int32)) rfl rfl ?_
    refine own_iushr (pc' := 26) w0 own_d13_25 (z := (XT.ushr flags (1 : Int32))) rfl rfl ?_
    refine own_iconst (pc' := 27) w0 own_d13_26 (x := (3 : Int32)) rfl rfl ?_
    refine own_iand (pc' := 28) w0 own_d13_27 (z := (Int32.ofNat k)) hk rfl ?_
    refine own_istore (pc' := 30) w0 own_d13_28 (Ls' := #[.val (.int flags), .val (.int idx), .val (.int other), .val (.long a), .second, .val (.long b), .second, .val (.long d), .second, .val (.int (1 : Int32)), .val (.int (Int32.ofNat i)), .val (.int (Int32.ofNat j)), .val (.int (Int32.ofNat k)), .unset, .unset, .unset, .unset]) rfl rfl ?_
    refine own_iload (pc' := 32) w0 own_d13_30 rfl rfl ?_
    refine own_if (pc' := 35) w0 own_d13_32 rfl (by decide) (pcY := 55) rfl (fun (hb32 : (1 : Int32) = (0 : Int32)) => absurd hb32 (by decide)) (fun (hb32 : ¬ (1 : Int32) = (0 : Int32)) => ?_)
    refine own_lloadN (pc' := 36) w0 own_d13_35 rfl rfl ?_
    refine own_iconst (pc' := 37) w0 own_d13_36 (x := (2 : Int32)) rfl rfl ?_
    refine own_lshr (pc' := 38) w0 own_d13_37 (z := (a >>> ((2 : Int32).toInt64 &&& 63))) rfl rfl ?_
    refine own_callS (pc' := 41) w0 (hw _ (List.mem_of_getElem? (i := 0) rfl)) (hw _ (List.mem_of_getElem? (i := 1) rfl)) (hw _ (List.mem_of_getElem? (i := 2) rfl)) (hw _ (List.mem_of_getElem? (i := 3) rfl)) (by decide) (own_ct_cOf l Z a0 hw EL hE n0 [] h0 (own_old w0) (a >>> ((2 : Int32).toInt64 &&& 63)) ) all0 (argsL := [(.long (a >>> ((2 : Int32).toInt64 &&& 63)))]) (rest := []) rfl rfl own_pd4 rfl own_d13_38 rfl (by decide) (W := 0) rfl (by decide) (by decide) (by decide) fun T156 h158 v159 ms160 w157 q161 => ?_
    obtain ⟨K163, r_162, rfl, rfl, nw_E_r_162, nw_F_r_162_low, nw_F_r_162_high, p38_cOf_0⟩ := q161
    have nw_r_162 : h0.size ≤ r_162 := Nat.le_trans K.1 p38_cOf_0
    replace K := K.trans K163 all0
    have E_r_162 := nw_E_r_162; clear nw_E_r_162
    have F_r_162_low := nw_F_r_162_low; clear nw_F_r_162_low
    have F_r_162_high := nw_F_r_162_high; clear nw_F_r_162_high
    show own_Go Z EL n0 p e below s _ _ _ (T156.setTop (mkF m 41 #[.val (.int flags), .val (.int idx), .val (.int other), .val (.long a), .second, .val (.long b), .second, .val (.long d), .second, .val (.int (1 : Int32)), .val (.int (Int32.ofNat i)), .val (.int (Int32.ofNat j)), .val (.int (Int32.ofNat k)), .unset, .unset, .unset, .unset] [(.ref r_162)]))
    refine own_astore (pc' := 43) w157 own_d13_41 rfl (Ls' := #[.val (.int flags), .val (.int idx), .val (.int other), .val (.long a), .second, .val (.long b), .second, .val (.long d), .second, .val (.int (1 : Int32)), .val (.int (Int32.ofNat i)), .val (.int (Int32.ofNat j)), .val (.int (Int32.ofNat k)), .val (.ref r_162), .unset, .unset, .unset]) rfl rfl ?_
    refine own_lload (pc' := 45) w157 own_d13_43 rfl rfl ?_
    refine own_iconst (pc' := 46) w157 own_d13_45 (x := (2 : Int32)) rfl rfl ?_
    refine own_lshr (pc' := 47) w157 own_d13_46 (z := (b >>> ((2 : Int32).toInt64 &&& 63))) rfl rfl ?_
    refine own_callS (pc' := 50) w157 (hw _ (List.mem_of_getElem? (i := 0) rfl)) (hw _ (List.mem_of_getElem? (i := 1) rfl)) (hw _ (List.mem_of_getElem? (i := 2) rfl)) (hw _ (List.mem_of_getElem? (i := 3) rfl)) (by decide) (own_ct_cOf l Z a0 hw EL hE n0 [] h158 (own_old w157) (b >>> ((2 : Int32).toInt64 &&& 63)) ) all0 (argsL := [(.long (b >>> ((2 : Int32).toInt64 &&& 63)))]) (rest := []) rfl rfl own_pd4 rfl own_d13_47 rfl (by decide) (W := 0) rfl (by decide) (by decide) (by decide) fun T164 h166 v167 ms168 w165 q169 => ?_
    obtain ⟨K171, r_170, rfl, rfl, nw_E_r_170, nw_F_r_170_low, nw_F_r_170_high, p47_cOf_0⟩ := q169
    have ne_r_162_r_170 : r_162 ≠ r_170 := Nat.ne_of_lt (Nat.lt_of_lt_of_le E_r_162.lt p47_cOf_0)
    have nw_r_170 : h0.size ≤ r_170 := Nat.le_trans K.1 p47_cOf_0
    replace E_r_162 := E_r_162.keep K171
    replace F_r_162_low := F_r_162_low.keep K171 nin0
    replace F_r_162_high := F_r_162_high.keep K171 nin0
    replace K := K.trans K171 all0
    have E_r_170 := nw_E_r_170; clear nw_E_r_170
    have F_r_170_low := nw_F_r_170_low; clear nw_F_r_170_low
    have F_r_170_high := nw_F_r_170_high; clear nw_F_r_170_high
    show own_Go Z EL n0 p e below s _ _ _ (T164.setTop (mkF m 50 #[.val (.int flags), .val (.int idx), .val (.int other), .val (.long a), .second, .val (.long b), .second, .val (.long d), .second, .val (.int (1 : Int32)), .val (.int (Int32.ofNat i)), .val (.int (Int32.ofNat j)), .val (.int (Int32.ofNat k)), .val (.ref r_162), .unset, .unset, .unset] [(.ref r_170)]))
    refine own_astore (pc' := 52) w165 own_d13_50 rfl (Ls' := #[.val (.int flags), .val (.int idx), .val (.int other), .val (.long a), .second, .val (.long b), .second, .val (.long d), .second, .val (.int (1 : Int32)), .val (.int (Int32.ofNat i)), .val (.int (Int32.ofNat j)), .val (.int (Int32.ofNat k)), .val (.ref r_162), .val (.ref r_170), .unset, .unset]) rfl rfl ?_
    refine own_goto w165 own_d13_52 (by decide) (pc' := 91) rfl ?_
    refine own_newO (pc' := 94) w165 (hw _ (List.mem_of_getElem? (i := 47) rfl)) (hw _ (List.mem_of_getElem? (i := 48) rfl)) (hw _ (List.mem_of_getElem? (i := 49) rfl)) own_d13_91 rfl (by decide) (by decide) fun T172 h174 a176 g_a176 w173 E175 ⟨E_a176, D177⟩ => ?_
    have ne_r_162_a176 : r_162 ≠ a176 := Nat.ne_of_lt (Nat.lt_of_lt_of_le E_r_162.lt (Nat.le_of_eq g_a176))
    have ne_r_170_a176 : r_170 ≠ a176 := Nat.ne_of_lt (Nat.lt_of_lt_of_le E_r_170.lt (Nat.le_of_eq g_a176))
    have nw_a176 : h0.size ≤ a176 := Nat.le_trans K.1 (Nat.le_of_eq g_a176)
    replace E_r_162 := E_r_162.ext E175
    replace F_r_162_low := F_r_162_low.ext E175
    replace F_r_162_high := F_r_162_high.ext E175
    replace E_r_170 := E_r_170.ext E175
    replace F_r_170_low := F_r_170_low.ext E175
    replace F_r_170_high := F_r_170_high.ext E175
    replace K := K.ext E175
    have F_a176_product : Fld Z h174 a176 "com/example/throng/throng/engine/Count$Array" "product" "[J" .null := D177 (Or.inr (hw _ (List.mem_of_getElem? (i := 55) rfl))) (ty := (.array .long)) (by decide)
    have F_a176_narrow : Fld Z h174 a176 "com/example/throng/throng/engine/Count$Array" "narrow" "Z" (.int 0) := D177 (Or.inr (hw _ (List.mem_of_getElem? (i := 57) rfl))) (ty := .boolean) (by decide)
    have F_a176_bits : Fld Z h174 a176 "com/example/throng/throng/engine/Count$Array" "bits" "[J" .null := D177 (Or.inr (hw _ (List.mem_of_getElem? (i := 59) rfl))) (ty := (.array .long)) (by decide)
    refine own_dup (pc' := 95) w173 own_d13_94 rfl rfl ?_
    refine own_iconst (pc' := 96) w173 own_d13_95 (x := (4 : Int32)) rfl rfl ?_
    refine own_iload (pc' := 98) w173 own_d13_96 rfl rfl ?_
    refine own_callI (pc' := 101) w173 rfl (hw _ (List.mem_of_getElem? (i := 50) rfl)) (hw _ (List.mem_of_getElem? (i := 51) rfl)) (hw _ (List.mem_of_getElem? (i := 49) rfl)) (hw _ (List.mem_of_getElem? (i := 52) rfl)) (by decide) (own_ct_aInitN l Z a0 hw EL hE n0 [] h174 (own_old w173) a176 .null (.int 0) .null E_a176 F_a176_product F_a176_narrow F_a176_bits) (allS (P := fun x => x ∈ _) (by simp) all0) (argsL := [(.int (4 : Int32)), (.int (1 : Int32))]) (rest := [(.ref a176)]) rfl rfl own_pd6 rfl own_d13_98 rfl (by decide) (W := 1) rfl (by decide) (by decide) (by decide) fun T178 h180 v181 ms182 w179 q183 => ?_
    obtain ⟨K186, t_184, kt_185, rfl, rfl, nw_E_a176, nw_F_a176_narrow, nw_F_a176_bits, nw_A_t_184, p98_aInitN_0⟩ := q183
    have ne_a176_t_184 : a176 ≠ t_184 := Nat.ne_of_lt (Nat.lt_of_lt_of_le E_a176.lt p98_aInitN_0)
    have ne_r_162_t_184 : r_162 ≠ t_184 := Nat.ne_of_lt (Nat.lt_of_lt_of_le E_r_162.lt p98_aInitN_0)
    have ne_r_170_t_184 : r_170 ≠ t_184 := Nat.ne_of_lt (Nat.lt_of_lt_of_le E_r_170.lt p98_aInitN_0)
    have nw_t_184 : h0.size ≤ t_184 := Nat.le_trans K.1 p98_aInitN_0
    replace E_r_162 := E_r_162.keep K186
    replace F_r_162_low := F_r_162_low.keep K186 (ninS ne_r_162_a176 nin0)
    replace F_r_162_high := F_r_162_high.keep K186 (ninS ne_r_162_a176 nin0)
    replace E_r_170 := E_r_170.keep K186
    replace F_r_170_low := F_r_170_low.keep K186 (ninS ne_r_170_a176 nin0)
    replace F_r_170_high := F_r_170_high.keep K186 (ninS ne_r_170_a176 nin0)
    replace K := K.trans K186 (allS (P := fun x => x ∈ ([] : List Addr) ∨ h0.size ≤ x) (Or.inr nw_a176) all0)
    have E_a176 := nw_E_a176; clear nw_E_a176
    have F_a176_narrow := nw_F_a176_narrow; clear nw_F_a176_narrow
    have F_a176_bits := nw_F_a176_bits; clear nw_F_a176_bits
    have A_t_184 := nw_A_t_184; clear nw_A_t_184
    show own_Go Z EL n0 p e below s _ _ _ (T178.setTop (mkF m 101 #[.val (.int flags), .val (.int idx), .val (.int other), .val (.long a), .second, .val (.long b), .second, .val (.long d), .second, .val (.int (1 : Int32)), .val (.int (Int32.ofNat i)), .val (.int (Int32.ofNat j)), .val (.int (Int32.ofNat k)), .val (.ref r_162), .val (.ref r_170), .unset, .unset] [(.ref a176)]))
    refine own_astore (pc' := 103) w179 own_d13_101 rfl (Ls' := #[.val (.int flags), .val (.int idx), .val (.int other), .val (.long a), .second, .val (.long b), .second, .val (.long d), .second, .val (.int (1 : Int32)), .val (.int (Int32.ofNat i)), .val (.int (Int32.ofNat j)), .val (.int (Int32.ofNat k)), .val (.ref r_162), .val (.ref r_170), .val (.ref a176), .unset]) rfl rfl ?_
    refine own_aload (pc' := 105) w179 own_d13_103 rfl rfl rfl ?_
    refine own_iload (pc' := 107) w179 own_d13_105 rfl rfl ?_
    refine own_aload (pc' := 109) w179 own_d13_107 rfl rfl rfl ?_
    refine own_callV (pc' := 112) w179 (hw _ (List.mem_of_getElem? (i := 60) rfl)) (hw _ (List.mem_of_getElem? (i := 61) rfl)) (fun s' hZ' => notFace_of_selects (args := #[]) (mvT hZ' (hw _ (List.mem_of_getElem? (i := 63) rfl)))) (hw _ (List.mem_of_getElem? (i := 63) rfl)) (hw _ (List.mem_of_getElem? (i := 62) rfl)) (hw _ (List.mem_of_getElem? (i := 49) rfl)) (hw _ (List.mem_of_getElem? (i := 64) rfl)) (by decide) E_a176 (own_ct_setCN l Z a0 hw EL hE n0 [] h180 (own_old w179) a176 (Int32.ofNat j) r_170 t_184 kt_185 [(.long 0), (.long 0), (.long 0), (.long 0)] j (own_sgn (b >>> ((2 : Int32).toInt64 &&& 63))) (b >>> ((2 : Int32).toInt64 &&& 63)) F_a176_narrow F_a176_bits A_t_184 F_r_170_low F_r_170_high (rfl) (hj4) (rfl) ne_a176_t_184 ne_r_170_t_184) (allS (P := fun x => x ∈ _) (by simp) all0) (argsL := [(.int (Int32.ofNat j)), (.ref r_170)]) (rest := []) rfl rfl own_pd7 rfl own_d13_109 rfl (by decide) (W := 0) rfl (by decide) (by decide) (by decide) fun T187 h189 v190 ms191 w188 q192 => ?_
    obtain ⟨K193, rfl, rfl, nw_A_t_184⟩ := q192
    replace E_r_162 := E_r_162.keep K193
    replace F_r_162_low := F_r_162_low.keep K193 (ninS ne_r_162_t_184 nin0)
    replace F_r_162_high := F_r_162_high.keep K193 (ninS ne_r_162_t_184 nin0)
    replace E_r_170 := E_r_170.keep K193
    replace F_r_170_low := F_r_170_low.keep K193 (ninS ne_r_170_t_184 nin0)
    replace F_r_170_high := F_r_170_high.keep K193 (ninS ne_r_170_t_184 nin0)
    replace E_a176 := E_a176.keep K193
    replace F_a176_narrow := F_a176_narrow.keep K193 (ninS ne_a176_t_184 nin0)
    replace F_a176_bits := F_a176_bits.keep K193 (ninS ne_a176_t_184 nin0)
    replace K := K.trans K193 (allS (P := fun x => x ∈ ([] : List Addr) ∨ h0.size ≤ x) (Or.inr nw_t_184) all0)
    have A_t_184 := nw_A_t_184; clear nw_A_t_184
    show own_Go Z EL n0 p e below s _ _ _ (T187.setTop (mkF m 112 #[.val (.int flags), .val (.int idx), .val (.int other), .val (.long a), .second, .val (.long b), .second, .val (.long d), .second, .val (.int (1 : Int32)), .val (.int (Int32.ofNat i)), .val (.int (Int32.ofNat j)), .val (.int (Int32.ofNat k)), .val (.ref r_162), .val (.ref r_170), .val (.ref a176), .unset] []))
    refine own_aload (pc' := 114) w188 own_d13_112 rfl rfl rfl ?_
    refine own_iload (pc' := 116) w188 own_d13_114 rfl rfl ?_
    refine own_aload (pc' := 118) w188 own_d13_116 rfl rfl rfl ?_
    refine own_callV (pc' := 121) w188 (hw _ (List.mem_of_getElem? (i := 60) rfl)) (hw _ (List.mem_of_getElem? (i := 61) rfl)) (fun s' hZ' => notFace_of_selects (args := #[]) (mvT hZ' (hw _ (List.mem_of_getElem? (i := 63) rfl)))) (hw _ (List.mem_of_getElem? (i := 63) rfl)) (hw _ (List.mem_of_getElem? (i := 62) rfl)) (hw _ (List.mem_of_getElem? (i := 49) rfl)) (hw _ (List.mem_of_getElem? (i := 64) rfl)) (by decide) E_a176 (own_ct_setCN l Z a0 hw EL hE n0 [] h189 (own_old w188) a176 (Int32.ofNat i) r_162 t_184 kt_185 (own_pN [(.long 0), (.long 0), (.long 0), (.long 0)] j (b >>> ((2 : Int32).toInt64 &&& 63))) i (own_sgn (a >>> ((2 : Int32).toInt64 &&& 63))) (a >>> ((2 : Int32).toInt64 &&& 63)) F_a176_narrow F_a176_bits A_t_184 F_r_162_low F_r_162_high (rfl) (hi4) (by simp only [own_lN]; rfl) ne_a176_t_184 ne_r_162_t_184) (allS (P := fun x => x ∈ _) (by simp) all0) (argsL := [(.int (Int32.ofNat i)), (.ref r_162)]) (rest := []) rfl rfl own_pd7 rfl own_d13_118 rfl (by decide) (W := 0) rfl (by decide) (by decide) (by decide) fun T194 h196 v197 ms198 w195 q199 => ?_
    obtain ⟨K200, rfl, rfl, nw_A_t_184⟩ := q199
    replace E_r_162 := E_r_162.keep K200
    replace F_r_162_low := F_r_162_low.keep K200 (ninS ne_r_162_t_184 nin0)
    replace F_r_162_high := F_r_162_high.keep K200 (ninS ne_r_162_t_184 nin0)
    replace E_r_170 := E_r_170.keep K200
    replace F_r_170_low := F_r_170_low.keep K200 (ninS ne_r_170_t_184 nin0)
    replace F_r_170_high := F_r_170_high.keep K200 (ninS ne_r_170_t_184 nin0)
    replace E_a176 := E_a176.keep K200
    replace F_a176_narrow := F_a176_narrow.keep K200 (ninS ne_a176_t_184 nin0)
    replace F_a176_bits := F_a176_bits.keep K200 (ninS ne_a176_t_184 nin0)
    replace K := K.trans K200 (allS (P := fun x => x ∈ ([] : List Addr) ∨ h0.size ≤ x) (Or.inr nw_t_184) all0)
    have A_t_184 := nw_A_t_184; clear nw_A_t_184
    show own_Go Z EL n0 p e below s _ _ _ (T194.setTop (mkF m 121 #[.val (.int flags), .val (.int idx), .val (.int other), .val (.long a), .second, .val (.long b), .second, .val (.long d), .second, .val (.int (1 : Int32)), .val (.int (Int32.ofNat i)), .val (.int (Int32.ofNat j)), .val (.int (Int32.ofNat k)), .val (.ref r_162), .val (.ref r_170), .val (.ref a176), .unset] []))
    refine own_aload (pc' := 123) w195 own_d13_121 rfl rfl rfl ?_
    refine own_iload (pc' := 125) w195 own_d13_123 rfl rfl ?_
    refine own_callV (pc' := 128) w195 (hw _ (List.mem_of_getElem? (i := 67) rfl)) (hw _ (List.mem_of_getElem? (i := 68) rfl)) (fun s' hZ' => notFace_of_selects (args := #[]) (mvT hZ' (hw _ (List.mem_of_getElem? (i := 70) rfl)))) (hw _ (List.mem_of_getElem? (i := 70) rfl)) (hw _ (List.mem_of_getElem? (i := 69) rfl)) (hw _ (List.mem_of_getElem? (i := 49) rfl)) (hw _ (List.mem_of_getElem? (i := 71) rfl)) (by decide) E_a176 (own_ct_getN l Z a0 hw EL hE n0 [] h196 (own_old w195) a176 (Int32.ofNat i) t_184 kt_185 (own_pN (own_pN [(.long 0), (.long 0), (.long 0), (.long 0)] j (b >>> ((2 : Int32).toInt64 &&& 63))) i (a >>> ((2 : Int32).toInt64 &&& 63))) i (a >>> ((2 : Int32).toInt64 &&& 63)) F_a176_narrow F_a176_bits A_t_184 (rfl) (hi4) (by simp only [own_lN]; rfl) (own_gN _ _ _ _ (by first | (simp only [own_lN]; show _ < 4; omega) | (show _ < 4; omega)))) all0 (argsL := [(.int (Int32.ofNat i))]) (rest := []) rfl rfl own_pd8 rfl own_d13_125 rfl (by decide) (W := 0) rfl (by decide) (by decide) (by decide) fun T201 h203 v204 ms205 w202 q206 => ?_
    obtain ⟨K208, r_207, rfl, rfl, nw_E_r_207, nw_F_r_207_low, nw_F_r_207_high, p125_getN_0⟩ := q206
    have ne_a176_r_207 : a176 ≠ r_207 := Nat.ne_of_lt (Nat.lt_of_lt_of_le E_a176.lt p125_getN_0)
    have ne_r_162_r_207 : r_162 ≠ r_207 := Nat.ne_of_lt (Nat.lt_of_lt_of_le E_r_162.lt p125_getN_0)
    have ne_r_170_r_207 : r_170 ≠ r_207 := Nat.ne_of_lt (Nat.lt_of_lt_of_le E_r_170.lt p125_getN_0)
    have ne_t_184_r_207 : t_184 ≠ r_207 := Nat.ne_of_lt (Nat.lt_of_lt_of_le A_t_184.lt p125_getN_0)
    have nw_r_207 : h0.size ≤ r_207 := Nat.le_trans K.1 p125_getN_0
    replace E_r_162 := E_r_162.keep K208
    replace F_r_162_low := F_r_162_low.keep K208 nin0
    replace F_r_162_high := F_r_162_high.keep K208 nin0
    replace E_r_170 := E_r_170.keep K208
    replace F_r_170_low := F_r_170_low.keep K208 nin0
    replace F_r_170_high := F_r_170_high.keep K208 nin0
    replace E_a176 := E_a176.keep K208
    replace F_a176_narrow := F_a176_narrow.keep K208 nin0
    replace F_a176_bits := F_a176_bits.keep K208 nin0
    replace A_t_184 := A_t_184.keep K208 nin0
    replace K := K.trans K208 all0
    have E_r_207 := nw_E_r_207; clear nw_E_r_207
    have F_r_207_low := nw_F_r_207_low; clear nw_F_r_207_low
    have F_r_207_high := nw_F_r_207_high; clear nw_F_r_207_high
    show own_Go Z EL n0 p e below s _ _ _ (T201.setTop (mkF m 128 #[.val (.int flags), .val (.int idx), .val (.int other), .val (.long a), .second, .val (.long b), .second, .val (.long d), .second, .val (.int (1 : Int32)), .val (.int (Int32.ofNat i)), .val (.int (Int32.ofNat j)), .val (.int (Int32.ofNat k)), .val (.ref r_162), .val (.ref r_170), .val (.ref a176), .unset] [(.ref r_207)]))
    refine own_aload (pc' := 130) w202 own_d13_128 rfl rfl rfl ?_
    refine own_callV (pc' := 133) w202 (hw _ (List.mem_of_getElem? (i := 74) rfl)) (hw _ (List.mem_of_getElem? (i := 75) rfl)) (fun s' hZ' => notFace_of_selects (args := #[]) (mvT hZ' (hw _ (List.mem_of_getElem? (i := 77) rfl)))) (hw _ (List.mem_of_getElem? (i := 77) rfl)) (hw _ (List.mem_of_getElem? (i := 76) rfl)) (hw _ (List.mem_of_getElem? (i := 2) rfl)) (hw _ (List.mem_of_getElem? (i := 78) rfl)) (by decide) E_r_207 (own_ct_ceq l Z a0 hw EL hE n0 [] h203 (own_old w202) r_207 r_162 (own_sgn (a >>> ((2 : Int32).toInt64 &&& 63))) (a >>> ((2 : Int32).toInt64 &&& 63)) F_r_207_low F_r_207_high E_r_162 F_r_162_low F_r_162_high) all0 (argsL := [(.ref r_162)]) (rest := []) rfl rfl own_pd9 rfl own_d13_130 rfl (by decide) (W := 0) rfl (by decide) (by decide) (by decide) fun T209 h211 v212 ms213 w210 q214 => ?_
    obtain ⟨rfl, rfl, rfl⟩ := q214
    show own_Go Z EL n0 p e below s _ _ _ (T209.setTop (mkF m 133 #[.val (.int flags), .val (.int idx), .val (.int other), .val (.long a), .second, .val (.long b), .second, .val (.long d), .second, .val (.int (1 : Int32)), .val (.int (Int32.ofNat i)), .val (.int (Int32.ofNat j)), .val (.int (Int32.ofNat k)), .val (.ref r_162), .val (.ref r_170), .val (.ref a176), .unset] [(.int (1 : Int32))]))
    refine own_istore (pc' := 135) w210 own_d13_133 (Ls' := #[.val (.int flags), .val (.int idx), .val (.int other), .val (.long a), .second, .val (.long b), .second, .val (.long d), .second, .val (.int (1 : Int32)), .val (.int (Int32.ofNat i)), .val (.int (Int32.ofNat j)), .val (.int (Int32.ofNat k)), .val (.ref r_162), .val (.ref r_170), .val (.ref a176), .val (.int (1 : Int32))]) rfl rfl ?_
    refine own_iload (pc' := 137) w210 own_d13_135 rfl rfl ?_
    refine own_iload (pc' := 139) w210 own_d13_137 rfl rfl ?_
    refine own_icmp (pc' := 142) w210 own_d13_139 rfl (by decide) (pcY := 169) rfl (fun (hb139 : (Int32.ofNat i) = (Int32.ofNat j)) => ?_) (fun (hb139 : ¬ (Int32.ofNat i) = (Int32.ofNat j)) => ?_)
    · -- fft
      refine own_iload (pc' := 171) w210 own_d13_169 rfl rfl ?_
      refine own_iload (pc' := 173) w210 own_d13_171 rfl rfl ?_
      refine own_icmp (pc' := 176) w210 own_d13_173 rfl (by decide) (pcY := 211) rfl (fun (hb173 : (Int32.ofNat k) = (Int32.ofNat i)) => ?_) (fun (hb173 : ¬ (Int32.ofNat k) = (Int32.ofNat i)) => ?_)
      · -- fftt
        refine own_iload (pc' := 213) w210 own_d13_211 rfl rfl ?_
        exact own_retV w210 (t := .boolean) rfl rfl (Or.inl ⟨rfl, by simp, _, rfl⟩) own_d13_213 (by decide) (by decide) (ms' := []) all0 ⟨K, rfl, rfl⟩
      · -- fftf
        refine own_iload (pc' := 178) w210 own_d13_176 rfl rfl ?_
        refine own_iload (pc' := 180) w210 own_d13_178 rfl rfl ?_
        refine own_icmp (pc' := 183) w210 own_d13_180 rfl (by decide) (pcY := 211) rfl (fun (hb180 : (Int32.ofNat k) = (Int32.ofNat j)) => ?_) (fun (hb180 : ¬ (Int32.ofNat k) = (Int32.ofNat j)) => ?_)
        · -- fftft
          refine own_iload (pc' := 213) w210 own_d13_211 rfl rfl ?_
          exact own_retV w210 (t := .boolean) rfl rfl (Or.inl ⟨rfl, by simp, _, rfl⟩) own_d13_213 (by decide) (by decide) (ms' := []) all0 ⟨K, rfl, rfl⟩
        · -- fftff
          have nik : i ≠ k := (own_ofn hk4 hi4 hb173).symm
          have njk : j ≠ k := (own_ofn hk4 hj4 hb180).symm
          refine own_iload (pc' := 185) w210 own_d13_183 rfl rfl ?_
          refine own_if (pc' := 188) w210 own_d13_185 rfl (by decide) (pcY := 208) rfl (fun (hb185 : (1 : Int32) = (0 : Int32)) => absurd hb185 (by decide)) (fun (hb185 : ¬ (1 : Int32) = (0 : Int32)) => ?_)
          refine own_aload (pc' := 190) w210 own_d13_188 rfl rfl rfl ?_
          refine own_iload (pc' := 192) w210 own_d13_190 rfl rfl ?_
          refine own_callV (pc' := 195) w210 (hw _ (List.mem_of_getElem? (i := 67) rfl)) (hw _ (List.mem_of_getElem? (i := 68) rfl)) (fun s' hZ' => notFace_of_selects (args := #[]) (mvT hZ' (hw _ (List.mem_of_getElem? (i := 70) rfl)))) (hw _ (List.mem_of_getElem? (i := 70) rfl)) (hw _ (List.mem_of_getElem? (i := 69) rfl)) (hw _ (List.mem_of_getElem? (i := 49) rfl)) (hw _ (List.mem_of_getElem? (i := 71) rfl)) (by decide) E_a176 (own_ct_getN l Z a0 hw EL hE n0 [] h203 (own_old w210) a176 (Int32.ofNat k) t_184 kt_185 (own_pN (own_pN [(.long 0), (.long 0), (.long 0), (.long 0)] j (b >>> ((2 : Int32).toInt64 &&& 63))) i (a >>> ((2 : Int32).toInt64 &&& 63))) k 0 F_a176_narrow F_a176_bits A_t_184 (rfl) (hk4) (by simp only [own_lN]; rfl) ((own_oN _ _ _ nik).trans ((own_oN _ _ _ njk).trans (own_z4 hk4)))) all0 (argsL := [(.int (Int32.ofNat k))]) (rest := []) rfl rfl own_pd8 rfl own_d13_192 rfl (by decide) (W := 0) rfl (by decide) (by decide) (by decide) fun T215 h217 v218 ms219 w216 q220 => ?_
          obtain ⟨K222, r_221, rfl, rfl, nw_E_r_221, nw_F_r_221_low, nw_F_r_221_high, p192_getN_0⟩ := q220
          have ne_a176_r_221 : a176 ≠ r_221 := Nat.ne_of_lt (Nat.lt_of_lt_of_le E_a176.lt p192_getN_0)
          have ne_r_162_r_221 : r_162 ≠ r_221 := Nat.ne_of_lt (Nat.lt_of_lt_of_le E_r_162.lt p192_getN_0)
          have ne_r_170_r_221 : r_170 ≠ r_221 := Nat.ne_of_lt (Nat.lt_of_lt_of_le E_r_170.lt p192_getN_0)
          have ne_r_207_r_221 : r_207 ≠ r_221 := Nat.ne_of_lt (Nat.lt_of_lt_of_le E_r_207.lt p192_getN_0)
          have ne_t_184_r_221 : t_184 ≠ r_221 := Nat.ne_of_lt (Nat.lt_of_lt_of_le A_t_184.lt p192_getN_0)
          have nw_r_221 : h0.size ≤ r_221 := Nat.le_trans K.1 p192_getN_0
          replace E_r_162 := E_r_162.keep K222
          replace F_r_162_low := F_r_162_low.keep K222 nin0
          replace F_r_162_high := F_r_162_high.keep K222 nin0
          replace E_r_170 := E_r_170.keep K222
          replace F_r_170_low := F_r_170_low.keep K222 nin0
          replace F_r_170_high := F_r_170_high.keep K222 nin0
          replace E_a176 := E_a176.keep K222
          replace F_a176_narrow := F_a176_narrow.keep K222 nin0
          replace F_a176_bits := F_a176_bits.keep K222 nin0
          replace A_t_184 := A_t_184.keep K222 nin0
          replace E_r_207 := E_r_207.keep K222
          replace F_r_207_low := F_r_207_low.keep K222 nin0
          replace F_r_207_high := F_r_207_high.keep K222 nin0
          replace K := K.trans K222 all0
          have E_r_221 := nw_E_r_221; clear nw_E_r_221
          have F_r_221_low := nw_F_r_221_low; clear nw_F_r_221_low
          have F_r_221_high := nw_F_r_221_high; clear nw_F_r_221_high
          show own_Go Z EL n0 p e below s _ _ _ (T215.setTop (mkF m 195 #[.val (.int flags), .val (.int idx), .val (.int other), .val (.long a), .second, .val (.long b), .second, .val (.long d), .second, .val (.int (1 : Int32)), .val (.int (Int32.ofNat i)), .val (.int (Int32.ofNat j)), .val (.int (Int32.ofNat k)), .val (.ref r_162), .val (.ref r_170), .val (.ref a176), .val (.int (1 : Int32))] [(.ref r_221)]))
          refine own_getS (pc' := 198) w216 (host := "") (Or.inl (hw _ (List.mem_of_getElem? (i := 80) rfl))) Via.refl (S_ZERO.ext (own_old w216).2) own_d13_195 rfl fun T223 w224 => ?_
          have EZ1 := EZ.ext (own_old w224).2; have FZh1 := FZh.ext (own_old w224).2; have FZl1 := FZl.ext (own_old w224).2
          replace F_r_221_high : Fld Z h217 r_221 "com/example/throng/throng/engine/Count" "high" "J" (.long 0) := F_r_221_high
          refine own_callV (pc' := 201) w224 (hw _ (List.mem_of_getElem? (i := 74) rfl)) (hw _ (List.mem_of_getElem? (i := 75) rfl)) (fun s' hZ' => notFace_of_selects (args := #[]) (mvT hZ' (hw _ (List.mem_of_getElem? (i := 77) rfl)))) (hw _ (List.mem_of_getElem? (i := 77) rfl)) (hw _ (List.mem_of_getElem? (i := 76) rfl)) (hw _ (List.mem_of_getElem? (i := 2) rfl)) (hw _ (List.mem_of_getElem? (i := 78) rfl)) (by decide) E_r_221 (own_ct_ceq l Z a0 hw EL hE n0 [] h217 (own_old w224) r_221 zr 0 0 F_r_221_low F_r_221_high EZ1 FZl1 FZh1) all0 (argsL := [(.ref zr)]) (rest := []) rfl rfl own_pd9 rfl own_d13_198 rfl (by decide) (W := 0) rfl (by decide) (by decide) (by decide) fun T225 h227 v228 ms229 w226 q230 => ?_
          obtain ⟨rfl, rfl, rfl⟩ := q230
          show own_Go Z EL n0 p e below s _ _ _ (T225.setTop (mkF m 201 #[.val (.int flags), .val (.int idx), .val (.int other), .val (.long a), .second, .val (.long b), .second, .val (.long d), .second, .val (.int (1 : Int32)), .val (.int (Int32.ofNat i)), .val (.int (Int32.ofNat j)), .val (.int (Int32.ofNat k)), .val (.ref r_162), .val (.ref r_170), .val (.ref a176), .val (.int (1 : Int32))] [(.int (1 : Int32))]))
          refine own_if (pc' := 204) w226 own_d13_201 rfl (by decide) (pcY := 208) rfl (fun (hb201 : (1 : Int32) = (0 : Int32)) => absurd hb201 (by decide)) (fun (hb201 : ¬ (1 : Int32) = (0 : Int32)) => ?_)
          refine own_iconst (pc' := 205) w226 own_d13_204 (x := (1 : Int32)) rfl rfl ?_
          refine own_goto w226 own_d13_205 (by decide) (pc' := 209) rfl ?_
          refine own_istore (pc' := 211) w226 own_d13_209 (Ls' := #[.val (.int flags), .val (.int idx), .val (.int other), .val (.long a), .second, .val (.long b), .second, .val (.long d), .second, .val (.int (1 : Int32)), .val (.int (Int32.ofNat i)), .val (.int (Int32.ofNat j)), .val (.int (Int32.ofNat k)), .val (.ref r_162), .val (.ref r_170), .val (.ref a176), .val (.int (1 : Int32))]) rfl rfl ?_
          refine own_iload (pc' := 213) w226 own_d13_211 rfl rfl ?_
          exact own_retV w226 (t := .boolean) rfl rfl (Or.inl ⟨rfl, by simp, _, rfl⟩) own_d13_213 (by decide) (by decide) (ms' := []) all0 ⟨K, rfl, rfl⟩
    · -- fff
      have nij : i ≠ j := own_ofn hi4 hj4 hb139
      refine own_iload (pc' := 144) w210 own_d13_142 rfl rfl ?_
      refine own_if (pc' := 147) w210 own_d13_144 rfl (by decide) (pcY := 166) rfl (fun (hb144 : (1 : Int32) = (0 : Int32)) => absurd hb144 (by decide)) (fun (hb144 : ¬ (1 : Int32) = (0 : Int32)) => ?_)
      refine own_aload (pc' := 149) w210 own_d13_147 rfl rfl rfl ?_
      refine own_iload (pc' := 151) w210 own_d13_149 rfl rfl ?_
      refine own_callV (pc' := 154) w210 (hw _ (List.mem_of_getElem? (i := 67) rfl)) (hw _ (List.mem_of_getElem? (i := 68) rfl)) (fun s' hZ' => notFace_of_selects (args := #[]) (mvT hZ' (hw _ (List.mem_of_getElem? (i := 70) rfl)))) (hw _ (List.mem_of_getElem? (i := 70) rfl)) (hw _ (List.mem_of_getElem? (i := 69) rfl)) (hw _ (List.mem_of_getElem? (i := 49) rfl)) (hw _ (List.mem_of_getElem? (i := 71) rfl)) (by decide) E_a176 (own_ct_getN l Z a0 hw EL hE n0 [] h203 (own_old w210) a176 (Int32.ofNat j) t_184 kt_185 (own_pN (own_pN [(.long 0), (.long 0), (.long 0), (.long 0)] j (b >>> ((2 : Int32).toInt64 &&& 63))) i (a >>> ((2 : Int32).toInt64 &&& 63))) j (b >>> ((2 : Int32).toInt64 &&& 63)) F_a176_narrow F_a176_bits A_t_184 (rfl) (hj4) (by simp only [own_lN]; rfl) ((own_oN _ _ _ nij).trans (own_gN _ _ _ _ (by first | (simp only [own_lN]; show _ < 4; omega) | (show _ < 4; omega))))) all0 (argsL := [(.int (Int32.ofNat j))]) (rest := []) rfl rfl own_pd8 rfl own_d13_151 rfl (by decide) (W := 0) rfl (by decide) (by decide) (by decide) fun T231 h233 v234 ms235 w232 q236 => ?_
      obtain ⟨K238, r_237, rfl, rfl, nw_E_r_237, nw_F_r_237_low, nw_F_r_237_high, p151_getN_0⟩ := q236
      have ne_a176_r_237 : a176 ≠ r_237 := Nat.ne_of_lt (Nat.lt_of_lt_of_le E_a176.lt p151_getN_0)
      have ne_r_162_r_237 : r_162 ≠ r_237 := Nat.ne_of_lt (Nat.lt_of_lt_of_le E_r_162.lt p151_getN_0)
      have ne_r_170_r_237 : r_170 ≠ r_237 := Nat.ne_of_lt (Nat.lt_of_lt_of_le E_r_170.lt p151_getN_0)
      have ne_r_207_r_237 : r_207 ≠ r_237 := Nat.ne_of_lt (Nat.lt_of_lt_of_le E_r_207.lt p151_getN_0)
      have ne_t_184_r_237 : t_184 ≠ r_237 := Nat.ne_of_lt (Nat.lt_of_lt_of_le A_t_184.lt p151_getN_0)
      have nw_r_237 : h0.size ≤ r_237 := Nat.le_trans K.1 p151_getN_0
      replace E_r_162 := E_r_162.keep K238
      replace F_r_162_low := F_r_162_low.keep K238 nin0
      replace F_r_162_high := F_r_162_high.keep K238 nin0
      replace E_r_170 := E_r_170.keep K238
      replace F_r_170_low := F_r_170_low.keep K238 nin0
      replace F_r_170_high := F_r_170_high.keep K238 nin0
      replace E_a176 := E_a176.keep K238
      replace F_a176_narrow := F_a176_narrow.keep K238 nin0
      replace F_a176_bits := F_a176_bits.keep K238 nin0
      replace A_t_184 := A_t_184.keep K238 nin0
      replace E_r_207 := E_r_207.keep K238
      replace F_r_207_low := F_r_207_low.keep K238 nin0
      replace F_r_207_high := F_r_207_high.keep K238 nin0
      replace K := K.trans K238 all0
      have E_r_237 := nw_E_r_237; clear nw_E_r_237
      have F_r_237_low := nw_F_r_237_low; clear nw_F_r_237_low
      have F_r_237_high := nw_F_r_237_high; clear nw_F_r_237_high
      show own_Go Z EL n0 p e below s _ _ _ (T231.setTop (mkF m 154 #[.val (.int flags), .val (.int idx), .val (.int other), .val (.long a), .second, .val (.long b), .second, .val (.long d), .second, .val (.int (1 : Int32)), .val (.int (Int32.ofNat i)), .val (.int (Int32.ofNat j)), .val (.int (Int32.ofNat k)), .val (.ref r_162), .val (.ref r_170), .val (.ref a176), .val (.int (1 : Int32))] [(.ref r_237)]))
      refine own_aload (pc' := 156) w232 own_d13_154 rfl rfl rfl ?_
      refine own_callV (pc' := 159) w232 (hw _ (List.mem_of_getElem? (i := 74) rfl)) (hw _ (List.mem_of_getElem? (i := 75) rfl)) (fun s' hZ' => notFace_of_selects (args := #[]) (mvT hZ' (hw _ (List.mem_of_getElem? (i := 77) rfl)))) (hw _ (List.mem_of_getElem? (i := 77) rfl)) (hw _ (List.mem_of_getElem? (i := 76) rfl)) (hw _ (List.mem_of_getElem? (i := 2) rfl)) (hw _ (List.mem_of_getElem? (i := 78) rfl)) (by decide) E_r_237 (own_ct_ceq l Z a0 hw EL hE n0 [] h233 (own_old w232) r_237 r_170 (own_sgn (b >>> ((2 : Int32).toInt64 &&& 63))) (b >>> ((2 : Int32).toInt64 &&& 63)) F_r_237_low F_r_237_high E_r_170 F_r_170_low F_r_170_high) all0 (argsL := [(.ref r_170)]) (rest := []) rfl rfl own_pd9 rfl own_d13_156 rfl (by decide) (W := 0) rfl (by decide) (by decide) (by decide) fun T239 h241 v242 ms243 w240 q244 => ?_
      obtain ⟨rfl, rfl, rfl⟩ := q244
      show own_Go Z EL n0 p e below s _ _ _ (T239.setTop (mkF m 159 #[.val (.int flags), .val (.int idx), .val (.int other), .val (.long a), .second, .val (.long b), .second, .val (.long d), .second, .val (.int (1 : Int32)), .val (.int (Int32.ofNat i)), .val (.int (Int32.ofNat j)), .val (.int (Int32.ofNat k)), .val (.ref r_162), .val (.ref r_170), .val (.ref a176), .val (.int (1 : Int32))] [(.int (1 : Int32))]))
      refine own_if (pc' := 162) w240 own_d13_159 rfl (by decide) (pcY := 166) rfl (fun (hb159 : (1 : Int32) = (0 : Int32)) => absurd hb159 (by decide)) (fun (hb159 : ¬ (1 : Int32) = (0 : Int32)) => ?_)
      refine own_iconst (pc' := 163) w240 own_d13_162 (x := (1 : Int32)) rfl rfl ?_
      refine own_goto w240 own_d13_163 (by decide) (pc' := 167) rfl ?_
      refine own_istore (pc' := 169) w240 own_d13_167 (Ls' := #[.val (.int flags), .val (.int idx), .val (.int other), .val (.long a), .second, .val (.long b), .second, .val (.long d), .second, .val (.int (1 : Int32)), .val (.int (Int32.ofNat i)), .val (.int (Int32.ofNat j)), .val (.int (Int32.ofNat k)), .val (.ref r_162), .val (.ref r_170), .val (.ref a176), .val (.int (1 : Int32))]) rfl rfl ?_
      refine own_iload (pc' := 171) w240 own_d13_169 rfl rfl ?_
      refine own_iload (pc' := 173) w240 own_d13_171 rfl rfl ?_
      refine own_icmp (pc' := 176) w240 own_d13_173 rfl (by decide) (pcY := 211) rfl (fun (hb173 : (Int32.ofNat k) = (Int32.ofNat i)) => ?_) (fun (hb173 : ¬ (Int32.ofNat k) = (Int32.ofNat i)) => ?_)
      · -- ffffft
        refine own_iload (pc' := 213) w240 own_d13_211 rfl rfl ?_
        exact own_retV w240 (t := .boolean) rfl rfl (Or.inl ⟨rfl, by simp, _, rfl⟩) own_d13_213 (by decide) (by decide) (ms' := []) all0 ⟨K, rfl, rfl⟩
      · -- ffffff
        refine own_iload (pc' := 178) w240 own_d13_176 rfl rfl ?_
        refine own_iload (pc' := 180) w240 own_d13_178 rfl rfl ?_
        refine own_icmp (pc' := 183) w240 own_d13_180 rfl (by decide) (pcY := 211) rfl (fun (hb180 : (Int32.ofNat k) = (Int32.ofNat j)) => ?_) (fun (hb180 : ¬ (Int32.ofNat k) = (Int32.ofNat j)) => ?_)
        · -- fffffft
          refine own_iload (pc' := 213) w240 own_d13_211 rfl rfl ?_
          exact own_retV w240 (t := .boolean) rfl rfl (Or.inl ⟨rfl, by simp, _, rfl⟩) own_d13_213 (by decide) (by decide) (ms' := []) all0 ⟨K, rfl, rfl⟩
        · -- fffffff
          have nik : i ≠ k := (own_ofn hk4 hi4 hb173).symm
          have njk : j ≠ k := (own_ofn hk4 hj4 hb180).symm
          refine own_iload (pc' := 185) w240 own_d13_183 rfl rfl ?_
          refine own_if (pc' := 188) w240 own_d13_185 rfl (by decide) (pcY := 208) rfl (fun (hb185 : (1 : Int32) = (0 : Int32)) => absurd hb185 (by decide)) (fun (hb185 : ¬ (1 : Int32) = (0 : Int32)) => ?_)
          refine own_aload (pc' := 190) w240 own_d13_188 rfl rfl rfl ?_
          refine own_iload (pc' := 192) w240 own_d13_190 rfl rfl ?_
          refine own_callV (pc' := 195) w240 (hw _ (List.mem_of_getElem? (i := 67) rfl)) (hw _ (List.mem_of_getElem? (i := 68) rfl)) (fun s' hZ' => notFace_of_selects (args := #[]) (mvT hZ' (hw _ (List.mem_of_getElem? (i := 70) rfl)))) (hw _ (List.mem_of_getElem? (i := 70) rfl)) (hw _ (List.mem_of_getElem? (i := 69) rfl)) (hw _ (List.mem_of_getElem? (i := 49) rfl)) (hw _ (List.mem_of_getElem? (i := 71) rfl)) (by decide) E_a176 (own_ct_getN l Z a0 hw EL hE n0 [] h233 (own_old w240) a176 (Int32.ofNat k) t_184 kt_185 (own_pN (own_pN [(.long 0), (.long 0), (.long 0), (.long 0)] j (b >>> ((2 : Int32).toInt64 &&& 63))) i (a >>> ((2 : Int32).toInt64 &&& 63))) k 0 F_a176_narrow F_a176_bits A_t_184 (rfl) (hk4) (by simp only [own_lN]; rfl) ((own_oN _ _ _ nik).trans ((own_oN _ _ _ njk).trans (own_z4 hk4)))) all0 (argsL := [(.int (Int32.ofNat k))]) (rest := []) rfl rfl own_pd8 rfl own_d13_192 rfl (by decide) (W := 0) rfl (by decide) (by decide) (by decide) fun T245 h247 v248 ms249 w246 q250 => ?_
          obtain ⟨K252, r_251, rfl, rfl, nw_E_r_251, nw_F_r_251_low, nw_F_r_251_high, p192_getN_0⟩ := q250
          have ne_a176_r_251 : a176 ≠ r_251 := Nat.ne_of_lt (Nat.lt_of_lt_of_le E_a176.lt p192_getN_0)
          have ne_r_162_r_251 : r_162 ≠ r_251 := Nat.ne_of_lt (Nat.lt_of_lt_of_le E_r_162.lt p192_getN_0)
          have ne_r_170_r_251 : r_170 ≠ r_251 := Nat.ne_of_lt (Nat.lt_of_lt_of_le E_r_170.lt p192_getN_0)
          have ne_r_207_r_251 : r_207 ≠ r_251 := Nat.ne_of_lt (Nat.lt_of_lt_of_le E_r_207.lt p192_getN_0)
          have ne_r_237_r_251 : r_237 ≠ r_251 := Nat.ne_of_lt (Nat.lt_of_lt_of_le E_r_237.lt p192_getN_0)
          have ne_t_184_r_251 : t_184 ≠ r_251 := Nat.ne_of_lt (Nat.lt_of_lt_of_le A_t_184.lt p192_getN_0)
          have nw_r_251 : h0.size ≤ r_251 := Nat.le_trans K.1 p192_getN_0
          replace E_r_162 := E_r_162.keep K252
          replace F_r_162_low := F_r_162_low.keep K252 nin0
          replace F_r_162_high := F_r_162_high.keep K252 nin0
          replace E_r_170 := E_r_170.keep K252
          replace F_r_170_low := F_r_170_low.keep K252 nin0
          replace F_r_170_high := F_r_170_high.keep K252 nin0
          replace E_a176 := E_a176.keep K252
          replace F_a176_narrow := F_a176_narrow.keep K252 nin0
          replace F_a176_bits := F_a176_bits.keep K252 nin0
          replace A_t_184 := A_t_184.keep K252 nin0
          replace E_r_207 := E_r_207.keep K252
          replace F_r_207_low := F_r_207_low.keep K252 nin0
          replace F_r_207_high := F_r_207_high.keep K252 nin0
          replace E_r_237 := E_r_237.keep K252
          replace F_r_237_low := F_r_237_low.keep K252 nin0
          replace F_r_237_high := F_r_237_high.keep K252 nin0
          replace K := K.trans K252 all0
          have E_r_251 := nw_E_r_251; clear nw_E_r_251
          have F_r_251_low := nw_F_r_251_low; clear nw_F_r_251_low
          have F_r_251_high := nw_F_r_251_high; clear nw_F_r_251_high
          show own_Go Z EL n0 p e below s _ _ _ (T245.setTop (mkF m 195 #[.val (.int flags), .val (.int idx), .val (.int other), .val (.long a), .second, .val (.long b), .second, .val (.long d), .second, .val (.int (1 : Int32)), .val (.int (Int32.ofNat i)), .val (.int (Int32.ofNat j)), .val (.int (Int32.ofNat k)), .val (.ref r_162), .val (.ref r_170), .val (.ref a176), .val (.int (1 : Int32))] [(.ref r_251)]))
          refine own_getS (pc' := 198) w246 (host := "") (Or.inl (hw _ (List.mem_of_getElem? (i := 80) rfl))) Via.refl (S_ZERO.ext (own_old w246).2) own_d13_195 rfl fun T253 w254 => ?_
          have EZ1 := EZ.ext (own_old w254).2; have FZh1 := FZh.ext (own_old w254).2; have FZl1 := FZl.ext (own_old w254).2
          replace F_r_251_high : Fld Z h247 r_251 "com/example/throng/throng/engine/Count" "high" "J" (.long 0) := F_r_251_high
          refine own_callV (pc' := 201) w254 (hw _ (List.mem_of_getElem? (i := 74) rfl)) (hw _ (List.mem_of_getElem? (i := 75) rfl)) (fun s' hZ' => notFace_of_selects (args := #[]) (mvT hZ' (hw _ (List.mem_of_getElem? (i := 77) rfl)))) (hw _ (List.mem_of_getElem? (i := 77) rfl)) (hw _ (List.mem_of_getElem? (i := 76) rfl)) (hw _ (List.mem_of_getElem? (i := 2) rfl)) (hw _ (List.mem_of_getElem? (i := 78) rfl)) (by decide) E_r_251 (own_ct_ceq l Z a0 hw EL hE n0 [] h247 (own_old w254) r_251 zr 0 0 F_r_251_low F_r_251_high EZ1 FZl1 FZh1) all0 (argsL := [(.ref zr)]) (rest := []) rfl rfl own_pd9 rfl own_d13_198 rfl (by decide) (W := 0) rfl (by decide) (by decide) (by decide) fun T255 h257 v258 ms259 w256 q260 => ?_
          obtain ⟨rfl, rfl, rfl⟩ := q260
          show own_Go Z EL n0 p e below s _ _ _ (T255.setTop (mkF m 201 #[.val (.int flags), .val (.int idx), .val (.int other), .val (.long a), .second, .val (.long b), .second, .val (.long d), .second, .val (.int (1 : Int32)), .val (.int (Int32.ofNat i)), .val (.int (Int32.ofNat j)), .val (.int (Int32.ofNat k)), .val (.ref r_162), .val (.ref r_170), .val (.ref a176), .val (.int (1 : Int32))] [(.int (1 : Int32))]))
          refine own_if (pc' := 204) w256 own_d13_201 rfl (by decide) (pcY := 208) rfl (fun (hb201 : (1 : Int32) = (0 : Int32)) => absurd hb201 (by decide)) (fun (hb201 : ¬ (1 : Int32) = (0 : Int32)) => ?_)
          refine own_iconst (pc' := 205) w256 own_d13_204 (x := (1 : Int32)) rfl rfl ?_
          refine own_goto w256 own_d13_205 (by decide) (pc' := 209) rfl ?_
          refine own_istore (pc' := 211) w256 own_d13_209 (Ls' := #[.val (.int flags), .val (.int idx), .val (.int other), .val (.long a), .second, .val (.long b), .second, .val (.long d), .second, .val (.int (1 : Int32)), .val (.int (Int32.ofNat i)), .val (.int (Int32.ofNat j)), .val (.int (Int32.ofNat k)), .val (.ref r_162), .val (.ref r_170), .val (.ref a176), .val (.int (1 : Int32))]) rfl rfl ?_
          refine own_iload (pc' := 213) w256 own_d13_211 rfl rfl ?_
          exact own_retV w256 (t := .boolean) rfl rfl (Or.inl ⟨rfl, by simp, _, rfl⟩) own_d13_213 (by decide) (by decide) (ms' := []) all0 ⟨K, rfl, rfl⟩
theorem own_fz {args : Array Value} {s : State} {t : Term} {C n d : String} {x : Int64} {a : Addr} (ht : t.eval args s none [] s = some (.ref a)) (h : (Jvm.Cond.eq (.field t C n d) (.long x)).value args s none s [] = some true) : s.fieldOf? a C n d = some (.long x) := by
  obtain ⟨u, v, e1, e2, k1, k2⟩ := cmp_v (Or.inl h)
  cases (long_at x).symm.trans e2
  cases u with
  | long y => rw [fld_at ht] at e1; rw [eq_L ((fld_at ht).trans e1) (long_at x)] at h; simp at h; rw [e1, h]
  | _ => first | (obtain ⟨z, q⟩ := k2; cases q) | (obtain ⟨z, q⟩ := k1; cases q) | (exact absurd k1.2 (by simp [Value.isRef])) | cases k2
set_option maxRecDepth 65536 in
set_option maxHeartbeats 40000000 in
theorem comes_1 {Post : Tables → Env → Array Value → State → Outcome → State → Prop} (hpost : ∀ tb e args s v u, (limb_1_1.after args s (.returned v) u = true ∧ limb_1_2.after args s (.returned v) u = true ∧ True) → FrameEnd s (.returned v) u (Jvm.fieldLocs frame_1_writes args s ++ Jvm.arrayLocs frame_1_arrays args s ++ Jvm.staticLocs frame_1_statics s) 48 192 → Post tb e args s (.returned v) u) :
    ArmFor flags0 classFile x code maxLocals ret World_1 tables_1 room_1 Calls_1 rest_1 Pre_1 Post := by
  intro l hfl _ _ p e ha hc hk s m args below hf hA hF happ hP
  obtain ⟨hcalls, hrest, hpre⟩ := hP
  obtain ⟨-, -, -, hnamed, -, -, -, hat⟩ := (Spec.applies_iff hf).mp happ
  obtain ⟨hg, hn⟩ := and_e (Cond.before_iff.mp (show (Jvm.Cond.and given_1 narrow_1).before args s = true from hpre))
  obtain ⟨hct, hg⟩ := and_e hg
  obtain ⟨w0, w1, w2, w3, w4, w5, rfl⟩ : ∃ w0 w1 w2 w3 w4 w5 : Value, args = #[w0, w1, w2, w3, w4, w5] := by
    have hs : args.size = 6 := by simpa [Cond.value, given_1] using hct
    obtain ⟨L⟩ := args
    match L, hs with
    | [w0, w1, w2, w3, w4, w5], _ => exact ⟨w0, w1, w2, w3, w4, w5, rfl⟩
  have hw := fun d (hd : d ∈ tables_1) => atoms_spec (ws := Jvm.Cond.code x code maxLocals ret :: tables_1) hat d (List.mem_cons_of_mem _ hd)
  have hfit : Fit s := fun {y c} hc i hi => by
    obtain ⟨ha, rfl⟩ := Array.getElem?_eq_some_iff.mp hc
    have q := List.all_eq_true.mp ((Array.all_eq_true_iff_forall_mem.mp hF) _ (Array.getElem_mem ha)) i (List.mem_range.mpr hi)
    simpa [Array.getElem?_eq_getElem hi] using q
  obtain ⟨hg0, hg⟩ := and_e hg
  obtain ⟨i0, e0⟩ := is_v hg0
  obtain rfl : w0 = (.int i0) := Option.some.inj e0
  obtain ⟨hg1, hg⟩ := and_e hg
  obtain ⟨i1, e1⟩ := is_v hg1
  obtain rfl : w1 = (.int i1) := Option.some.inj e1
  obtain ⟨hg2, hg⟩ := and_e hg
  obtain ⟨i2, e2⟩ := is_v hg2
  obtain rfl : w2 = (.int i2) := Option.some.inj e2
  obtain ⟨hg3, hg⟩ := and_e hg
  obtain ⟨i3, e3⟩ := isL_v hg3
  obtain rfl : w3 = (.long i3) := Option.some.inj e3
  obtain ⟨hg4, hg⟩ := and_e hg
  obtain ⟨i4, e4⟩ := isL_v hg4
  obtain rfl : w4 = (.long i4) := Option.some.inj e4
  obtain ⟨i5, e5⟩ := isL_v hg
  obtain rfl : w5 = (.long i5) := Option.some.inj e5
  obtain ⟨hn0, hn⟩ := and_e hn
  obtain ⟨hnh, hnl⟩ := and_e hn
  obtain ⟨zr, ez⟩ := exa_v hn0
  have SZ : Sta s s.heap "com/example/throng/throng/engine/Count" "ZERO" "Lcom/example/throng/throng/engine/Count;" (.ref zr) := Sta.start ez (Or.inr ⟨(hw _ (List.mem_of_getElem? (i := 2) rfl)), (hw _ (List.mem_of_getElem? (i := 81) rfl))⟩)
  have EZ := Exa.start ez hn0
  have FZh : Fld s s.heap zr "com/example/throng/throng/engine/Count" "high" "J" (.long 0) := Fld.start (own_fz ez hnh)
  have FZl : Fld s s.heap zr "com/example/throng/throng/engine/Count" "low" "J" (.long 0) := Fld.start (own_fz ez hnl)
  obtain ⟨n, o, h1, h2, h3, _, L, ms, rfl, q, N, -, -, -, hq⟩ := own_ct_law l s _ hw [] EW.nil s.heap.size tables_1 s.heap (Old.start s) i0 i1 i2 i3 i4 i5 zr SZ EZ FZh FZl p e ha hc hk s m _ below hf ((Spec.applies_iff_loose hf).mp happ).1 ⟨rfl, State.Warmed39.refl s, rfl, fun _ q => nomatch q⟩ trivial
  obtain ⟨-, -, rfl⟩ := q
  refine ⟨n, _, h1, h2, h3, hpost _ _ _ _ _ _ ⟨Cond.after_iff.mpr rfl, Cond.after_iff.mpr (eq_i res_at (Term.int_eval (1)) rfl), trivial⟩ ⟨hq.1, hq.2.1, (hq.2.2.sift fun y hy => Or.inr (N y hy)).mono (by decide) (by decide)⟩⟩
theorem main_1_1 : Claimed_1_1 := comes_1 fun _ _ _ _ _ _ h hF => ⟨h.1, hF⟩
theorem main_1_2 : Claimed_1_2 := comes_1 fun _ _ _ _ _ _ h hF => ⟨h.2.1, hF⟩
end Jvm.Pilot.@@N@@
namespace Jvm.Pilot.@@N@@
open Jvm Jvm.ClassFile Sem Op Lib Jvm.Free Jvm.Stand Jvm.Pilot.@@N@@.Jvm.D
/-! MADE BY PROGRAM (witnessworld.py) out of the Statement's table words and the real class files: 18 classes; the members and pool entries that the words name. The judged class is class 1, her method 1. -/
namespace start1
open Jvm.ClassFile
def u (s : String) : CpInfo := .utf8 (stringToUtf16 s)
/-- a pool by its gaps: so many unusable entries, then the entry; so many at the end -/
def gap : Nat → List CpInfo → List CpInfo
  | 0, r => r
  | n + 1, r => .unusable :: gap n r
def poolList (es : List (Nat × CpInfo)) (last : Nat) : List CpInfo := es.foldr (fun e r => gap e.1 (e.2 :: r)) (gap last [])
def pool (es : List (Nat × CpInfo)) (last : Nat) : Array CpInfo := ⟨poolList es last⟩
def fileOf (pool : Array CpInfo) (this : Nat) (attrs : Array Attribute := #[]) (ms : Array MethodInfo := #[]) (fl : Nat := 33) (sup : Nat := 0) (ifs : Array Nat := #[]) (fds : Array FieldInfo := #[]) : ClassFile where
  minorVersion := 0
  majorVersion := 65
  constantPool := pool
  accessFlags := fl
  thisClass := this
  superClass := sup
  interfaces := ifs
  fields := fds
  methods := ms
  attributes := attrs
def plain (name : String) (sup : Option ClassId) : Class where
  name := name
  kind := .ordinary
  loader := none
  accessFlags := 33
  super := sup
  interfaces := #[]
  cf := none
  fields := #[]
  methods := #[]
  instanceTypes := #[]
  staticTypes := #[]
  resolved := #[]
  callSites := []
  init := .initialized
  statics := none
  mirror := none

def pool0 : Array CpInfo := pool [(5, u "<init>"), (0, u "()V"), (1, .class_ 10), (1, u "java/lang/Object")] 113

def k0c0 : Code := { maxStack := 0, maxLocals := 1, code := object_method_1_code, exceptionTable := #[], attributes := #[] }
def k0m0 : Method := { name := "<init>", desc := "()V", sig := { parameters := [], returnType := none }, accessFlags := 1, code := some k0c0 }
/-- java/lang/Object -/
def k0 : Class := { plain "java/lang/Object" none with
  accessFlags := 33
  interfaces := #[]
  cf := some (fileOf pool0 8 #[] #[{ accessFlags := 1, nameIndex := 5, descriptorIndex := 6, attributes := #[] }] 33 0 #[] #[])
  fields := #[]
  methods := #[k0m0]
  instanceTypes := #[]
  staticTypes := #[]
  resolved := Array.replicate 124 none
  statics := none }

def pool1 : Array CpInfo := pool [(2, .class_ 4), (1, u "java/lang/Object"), (0, u "<init>"), (0, u "()V"), (0, .methodref 8 9), (0, .class_ 10), (0, .nameAndType 11 12), (0, u "com/example/throng/throng/engine/Count"), (0, u "of"), (0, u "(J)Lcom/example/throng/throng/engine/Count;"), (0, .methodref 8 14), (0, .nameAndType 15 16), (0, u "times"), (0, u "(Lcom/example/throng/throng/engine/Count;)Lcom/example/throng/throng/engine/Count;"), (0, .methodref 8 18), (0, .nameAndType 19 16), (0, u "plus"), (0, .class_ 21), (0, u "com/example/throng/throng/engine/Count$Array"), (0, .methodref 20 23), (0, .nameAndType 5 24), (0, u "(IZ)V"), (0, .methodref 20 26), (0, .nameAndType 27 28), (0, u "set"), (0, u "(ILcom/example/throng/throng/engine/Count;)V"), (0, .methodref 20 30), (0, .nameAndType 31 32), (0, u "get"), (0, u "(I)Lcom/example/throng/throng/engine/Count;"), (0, .methodref 8 34), (0, .nameAndType 35 36), (0, u "equals"), (0, u "(Ljava/lang/Object;)Z"), (0, .fieldref 8 38), (0, .nameAndType 39 40), (0, u "ZERO"), (0, u "Lcom/example/throng/throng/engine/Count;"), (0, .class_ 42), (0, u "com/example/throng/throng/engine/ArraySet193PinLaw"), (2, u "law"), (0, u "(IIIJJJ)Z")] 5

def k1m0 : Method := { name := "<init>", desc := "()V", sig := { parameters := [], returnType := none }, accessFlags := 1, code := none }
def k1c1 : Code := { maxStack := 4, maxLocals := 17, code := code, exceptionTable := #[], attributes := #[] }
def k1m1 : Method := { name := "law", desc := "(IIIJJJ)Z", sig := { parameters := [.int, .int, .int, .long, .long, .long], returnType := some .boolean }, accessFlags := 9, code := some k1c1 }
/-- com/example/throng/throng/engine/ArraySet193PinLaw -/
def k1 : Class := { plain "com/example/throng/throng/engine/ArraySet193PinLaw" (some 0) with
  accessFlags := 49
  interfaces := #[]
  cf := some (fileOf pool1 41 #[] #[{ accessFlags := 1, nameIndex := 5, descriptorIndex := 6, attributes := #[] }, { accessFlags := 9, nameIndex := 45, descriptorIndex := 46, attributes := #[] }] 49 2 #[] #[])
  fields := #[]
  methods := #[k1m0, k1m1]
  instanceTypes := #[]
  staticTypes := #[]
  resolved := Array.replicate 52 none
  statics := none }

def pool2 : Array CpInfo := pool [(1, .class_ 2), (0, u "java/lang/Comparable"), (0, .class_ 4), (0, u "java/lang/Object")] 7

/-- java/lang/Comparable -/
def k2 : Class := { plain "java/lang/Comparable" (some 0) with
  accessFlags := 1537
  interfaces := #[]
  cf := some (fileOf pool2 1 #[] #[] 1537 3 #[] #[])
  fields := #[]
  methods := #[]
  instanceTypes := #[]
  staticTypes := #[]
  resolved := Array.replicate 12 none
  statics := none }

def pool3 : Array CpInfo := pool [(1, .methodref 2 3), (0, .class_ 4), (0, .nameAndType 5 6), (0, u "java/lang/Object"), (0, u "<init>"), (0, u "()V"), (0, .fieldref 8 9), (0, .class_ 10), (0, .nameAndType 11 12), (0, u "com/example/throng/throng/engine/Count"), (0, u "high"), (0, u "J"), (0, .fieldref 8 14), (0, .nameAndType 15 12), (0, u "low"), (0, .class_ 17), (0, u "java/lang/Long"), (0, .methodref 8 19), (0, .nameAndType 5 20), (0, u "(JJ)V"), (2, u "of"), (0, u "(J)Lcom/example/throng/throng/engine/Count;"), (2, u "times"), (0, u "(Lcom/example/throng/throng/engine/Count;)Lcom/example/throng/throng/engine/Count;"), (0, .methodref 8 30), (0, .nameAndType 31 32), (0, u "plus"), (0, u "(JJJJ[JI)V"), (0, .methodref 16 34), (0, .nameAndType 35 36), (0, u "compareUnsigned"), (0, u "(JJ)I"), (4, .long 9223372036854775808), (7, .methodref 8 50), (0, .nameAndType 27 32), (0, .methodref 52 53), (0, .class_ 54), (0, .nameAndType 55 56), (0, u "java/lang/Math"), (0, u "multiplyHigh"), (0, u "(JJ)J"), (52, u "ZERO"), (0, u "Lcom/example/throng/throng/engine/Count;"), (2, u "LARGEST"), (0, .class_ 115), (0, u "java/lang/Comparable"), (12, u "equals"), (0, u "(Ljava/lang/Object;)Z"), (8, .class_ 139), (0, u "com/example/throng/throng/engine/Count$Array")] 2

def k3c0 : Code := { maxStack := 3, maxLocals := 5, code := prog_41_method_1_code, exceptionTable := #[], attributes := #[] }
def k3m0 : Method := { name := "<init>", desc := "(JJ)V", sig := { parameters := [.long, .long], returnType := none }, accessFlags := 2, code := some k3c0 }
def k3c1 : Code := { maxStack := 6, maxLocals := 2, code := prog_41_method_2_code, exceptionTable := #[], attributes := #[] }
def k3m1 : Method := { name := "of", desc := "(J)Lcom/example/throng/throng/engine/Count;", sig := { parameters := [.long], returnType := some (.object "com/example/throng/throng/engine/Count") }, accessFlags := 8, code := some k3c1 }
def k3c2 : Code := { maxStack := 10, maxLocals := 3, code := prog_41_method_4_code, exceptionTable := #[], attributes := #[] }
def k3m2 : Method := { name := "plus", desc := "(Lcom/example/throng/throng/engine/Count;)Lcom/example/throng/throng/engine/Count;", sig := { parameters := [(.object "com/example/throng/throng/engine/Count")], returnType := some (.object "com/example/throng/throng/engine/Count") }, accessFlags := 0, code := some k3c2 }
def k3c3 : Code := { maxStack := 6, maxLocals := 14, code := prog_41_method_5_code, exceptionTable := #[], attributes := #[] }
def k3m3 : Method := { name := "plus", desc := "(JJJJ[JI)V", sig := { parameters := [.long, .long, .long, .long, (.array .long), .int], returnType := none }, accessFlags := 10, code := some k3c3 }
def k3c4 : Code := { maxStack := 10, maxLocals := 3, code := prog_41_method_7_code, exceptionTable := #[], attributes := #[] }
def k3m4 : Method := { name := "times", desc := "(Lcom/example/throng/throng/engine/Count;)Lcom/example/throng/throng/engine/Count;", sig := { parameters := [(.object "com/example/throng/throng/engine/Count")], returnType := some (.object "com/example/throng/throng/engine/Count") }, accessFlags := 0, code := some k3c4 }
def k3c5 : Code := { maxStack := 10, maxLocals := 10, code := prog_41_method_8_code, exceptionTable := #[], attributes := #[] }
def k3m5 : Method := { name := "times", desc := "(JJJJ[JI)V", sig := { parameters := [.long, .long, .long, .long, (.array .long), .int], returnType := none }, accessFlags := 10, code := some k3c5 }
def k3c6 : Code := { maxStack := 4, maxLocals := 3, code := prog_41_method_16_code, exceptionTable := #[], attributes := #[] }
def k3m6 : Method := { name := "equals", desc := "(Ljava/lang/Object;)Z", sig := { parameters := [(.object "java/lang/Object")], returnType := some .boolean }, accessFlags := 1, code := some k3c6 }
/-- com/example/throng/throng/engine/Count -/
def k3 : Class := { plain "com/example/throng/throng/engine/Count" (some 0) with
  accessFlags := 48
  interfaces := #[2]
  cf := some (fileOf pool3 8 #[.nestMembers #[138]] #[{ accessFlags := 2, nameIndex := 5, descriptorIndex := 20, attributes := #[] }, { accessFlags := 8, nameIndex := 23, descriptorIndex := 24, attributes := #[] }, { accessFlags := 0, nameIndex := 31, descriptorIndex := 28, attributes := #[] }, { accessFlags := 10, nameIndex := 31, descriptorIndex := 32, attributes := #[] }, { accessFlags := 0, nameIndex := 27, descriptorIndex := 28, attributes := #[] }, { accessFlags := 10, nameIndex := 27, descriptorIndex := 32, attributes := #[] }, { accessFlags := 1, nameIndex := 128, descriptorIndex := 129, attributes := #[] }] 48 2 #[114] #[{ accessFlags := 24, nameIndex := 109, descriptorIndex := 110, attributes := #[] }, { accessFlags := 24, nameIndex := 113, descriptorIndex := 110, attributes := #[] }, { accessFlags := 18, nameIndex := 11, descriptorIndex := 12, attributes := #[] }, { accessFlags := 18, nameIndex := 15, descriptorIndex := 12, attributes := #[] }])
  fields := #[{ name := "ZERO", type := (.object "com/example/throng/throng/engine/Count"), accessFlags := 24, slot := 0, constantValue := 0 }, { name := "LARGEST", type := (.object "com/example/throng/throng/engine/Count"), accessFlags := 24, slot := 1, constantValue := 0 }, { name := "high", type := .long, accessFlags := 18, slot := 0, constantValue := 0 }, { name := "low", type := .long, accessFlags := 18, slot := 1, constantValue := 0 }]
  methods := #[k3m0, k3m1, k3m2, k3m3, k3m4, k3m5, k3m6]
  instanceTypes := #[.long, .long]
  staticTypes := #[(.object "com/example/throng/throng/engine/Count"), (.object "com/example/throng/throng/engine/Count")]
  resolved := Array.replicate 142 none
  statics := some 0 }

def pool4 : Array CpInfo := pool [(1, .class_ 2), (0, u "java/lang/Math"), (1, .class_ 6), (1, u "java/lang/Object"), (0, u "<init>"), (0, u "()V"), (89, .class_ 100), (1, u "java/lang/Math$RandomNumberGeneratorHolder"), (20, u "(JJ)J"), (16, .long 4294967295), (3, u "multiplyHigh"), (29, u "negativeZeroFloatBits"), (0, u "J"), (2, u "negativeZeroDoubleBits"), (68, u "$assertionsDisabled"), (0, u "Z"), (91, u "twoToTheDoubleScaleDown"), (0, u "D"), (4, u "twoToTheDoubleScaleUp"), (9, u "E"), (3, u "PI"), (2, u "TAU"), (2, u "DEGREES_TO_RADIANS"), (0, u "RADIANS_TO_DEGREES")] 94

def k4m0 : Method := { name := "<init>", desc := "()V", sig := { parameters := [], returnType := none }, accessFlags := 2, code := none }
def k4c1 : Code := { maxStack := 6, maxLocals := 20, code := jdk_29_method_45_code, exceptionTable := #[], attributes := #[] }
def k4m1 : Method := { name := "multiplyHigh", desc := "(JJ)J", sig := { parameters := [.long, .long], returnType := some .long }, accessFlags := 9, code := some k4c1 }
/-- java/lang/Math -/
def k4 : Class := { plain "java/lang/Math" (some 0) with
  accessFlags := 49
  interfaces := #[]
  cf := some (fileOf pool4 1 #[.nestMembers #[98]] #[{ accessFlags := 2, nameIndex := 7, descriptorIndex := 8, attributes := #[] }, { accessFlags := 9, nameIndex := 142, descriptorIndex := 121, attributes := #[] }] 49 4 #[] #[{ accessFlags := 25, nameIndex := 354, descriptorIndex := 339, attributes := #[] }, { accessFlags := 25, nameIndex := 358, descriptorIndex := 339, attributes := #[] }, { accessFlags := 25, nameIndex := 361, descriptorIndex := 339, attributes := #[] }, { accessFlags := 26, nameIndex := 364, descriptorIndex := 339, attributes := #[] }, { accessFlags := 26, nameIndex := 365, descriptorIndex := 339, attributes := #[] }, { accessFlags := 26, nameIndex := 172, descriptorIndex := 173, attributes := #[] }, { accessFlags := 26, nameIndex := 176, descriptorIndex := 173, attributes := #[] }, { accessFlags := 8, nameIndex := 344, descriptorIndex := 339, attributes := #[] }, { accessFlags := 8, nameIndex := 338, descriptorIndex := 339, attributes := #[] }, { accessFlags := 4120, nameIndex := 245, descriptorIndex := 246, attributes := #[] }])
  fields := #[{ name := "E", type := .double, accessFlags := 25, slot := 0, constantValue := 0 }, { name := "PI", type := .double, accessFlags := 25, slot := 1, constantValue := 0 }, { name := "TAU", type := .double, accessFlags := 25, slot := 2, constantValue := 0 }, { name := "DEGREES_TO_RADIANS", type := .double, accessFlags := 26, slot := 3, constantValue := 0 }, { name := "RADIANS_TO_DEGREES", type := .double, accessFlags := 26, slot := 4, constantValue := 0 }, { name := "negativeZeroFloatBits", type := .long, accessFlags := 26, slot := 5, constantValue := 0 }, { name := "negativeZeroDoubleBits", type := .long, accessFlags := 26, slot := 6, constantValue := 0 }, { name := "twoToTheDoubleScaleUp", type := .double, accessFlags := 8, slot := 7, constantValue := 0 }, { name := "twoToTheDoubleScaleDown", type := .double, accessFlags := 8, slot := 8, constantValue := 0 }, { name := "$assertionsDisabled", type := .boolean, accessFlags := 4120, slot := 9, constantValue := 0 }]
  methods := #[k4m0, k4m1]
  instanceTypes := #[]
  staticTypes := #[.double, .double, .double, .double, .double, .long, .long, .double, .double, .boolean]
  resolved := Array.replicate 460 none
  statics := none }

def pool5 : Array CpInfo := pool [(1, .class_ 2), (0, u "java/io/Serializable"), (0, .class_ 4), (0, u "java/lang/Object")] 2

/-- java/io/Serializable -/
def k5 : Class := { plain "java/io/Serializable" (some 0) with
  accessFlags := 1537
  interfaces := #[]
  cf := some (fileOf pool5 1 #[] #[] 1537 3 #[] #[])
  fields := #[]
  methods := #[]
  instanceTypes := #[]
  staticTypes := #[]
  resolved := Array.replicate 7 none
  statics := none }

def pool6 : Array CpInfo := pool [(2, .class_ 4), (1, u "java/lang/Object"), (0, u "<init>"), (0, u "()V"), (1, .class_ 10), (1, u "java/lang/Number"), (2, .class_ 14), (0, u "java/io/Serializable"), (0, u "serialVersionUID"), (0, u "J")] 20

def k6m0 : Method := { name := "<init>", desc := "()V", sig := { parameters := [], returnType := none }, accessFlags := 1, code := none }
/-- java/lang/Number -/
def k6 : Class := { plain "java/lang/Number" (some 0) with
  accessFlags := 1057
  interfaces := #[5]
  cf := some (fileOf pool6 8 #[] #[{ accessFlags := 1, nameIndex := 5, descriptorIndex := 6, attributes := #[] }] 1057 2 #[13] #[{ accessFlags := 26, nameIndex := 15, descriptorIndex := 16, attributes := #[] }])
  fields := #[{ name := "serialVersionUID", type := .long, accessFlags := 26, slot := 0, constantValue := 0 }]
  methods := #[k6m0]
  instanceTypes := #[]
  staticTypes := #[.long]
  resolved := Array.replicate 37 none
  statics := none }

def pool7 : Array CpInfo := pool [(1, .class_ 2), (0, u "java/lang/constant/Constable"), (0, .class_ 4), (0, u "java/lang/Object")] 6

/-- java/lang/constant/Constable -/
def k7 : Class := { plain "java/lang/constant/Constable" (some 0) with
  accessFlags := 1537
  interfaces := #[]
  cf := some (fileOf pool7 1 #[] #[] 1537 3 #[] #[])
  fields := #[]
  methods := #[]
  instanceTypes := #[]
  staticTypes := #[]
  resolved := Array.replicate 11 none
  statics := none }

def pool8 : Array CpInfo := pool [(1, .class_ 2), (0, u "java/lang/constant/ConstantDesc"), (0, .class_ 4), (0, u "java/lang/Object")] 32

/-- java/lang/constant/ConstantDesc -/
def k8 : Class := { plain "java/lang/constant/ConstantDesc" (some 0) with
  accessFlags := 1537
  interfaces := #[]
  cf := some (fileOf pool8 1 #[] #[] 1537 3 #[] #[])
  fields := #[]
  methods := #[]
  instanceTypes := #[]
  staticTypes := #[]
  resolved := Array.replicate 37 none
  statics := none }

def pool9 : Array CpInfo := pool [(1, .class_ 2), (0, u "java/lang/Long"), (165, .long 9223372036854775808), (66, .class_ 237), (1, u "java/lang/Long$LongCache"), (33, .class_ 272), (0, u "java/lang/Number"), (2, u "value"), (0, u "J"), (25, .methodref 1 303), (0, .nameAndType 304 305), (0, u "compare"), (0, u "(JJ)I"), (55, u "TYPE"), (0, u "Ljava/lang/Class;"), (0, .class_ 364), (0, u "java/lang/Comparable"), (0, .class_ 366), (0, u "java/lang/constant/Constable"), (0, .class_ 368), (0, u "java/lang/constant/ConstantDesc"), (0, u "MIN_VALUE"), (1, u "MAX_VALUE"), (4, u "SIZE"), (0, u "I"), (1, u "BYTES"), (1, u "serialVersionUID"), (87, u "compareUnsigned")] 54

def k9c0 : Code := { maxStack := 4, maxLocals := 4, code := jdk_35_method_42_code, exceptionTable := #[], attributes := #[] }
def k9m0 : Method := { name := "compare", desc := "(JJ)I", sig := { parameters := [.long, .long], returnType := some .int }, accessFlags := 9, code := some k9c0 }
def k9c1 : Code := { maxStack := 6, maxLocals := 4, code := jdk_35_method_43_code, exceptionTable := #[], attributes := #[] }
def k9m1 : Method := { name := "compareUnsigned", desc := "(JJ)I", sig := { parameters := [.long, .long], returnType := some .int }, accessFlags := 9, code := some k9c1 }
/-- java/lang/Long -/
def k9 : Class := { plain "java/lang/Long" (some 6) with
  accessFlags := 49
  interfaces := #[2, 7, 8]
  cf := some (fileOf pool9 1 #[.nestMembers #[235]] #[{ accessFlags := 9, nameIndex := 304, descriptorIndex := 305, attributes := #[] }, { accessFlags := 9, nameIndex := 469, descriptorIndex := 305, attributes := #[] }] 49 271 #[363, 365, 367] #[{ accessFlags := 25, nameIndex := 369, descriptorIndex := 276, attributes := #[] }, { accessFlags := 25, nameIndex := 371, descriptorIndex := 276, attributes := #[] }, { accessFlags := 25, nameIndex := 361, descriptorIndex := 362, attributes := #[] }, { accessFlags := 18, nameIndex := 275, descriptorIndex := 276, attributes := #[] }, { accessFlags := 25, nameIndex := 376, descriptorIndex := 377, attributes := #[] }, { accessFlags := 25, nameIndex := 379, descriptorIndex := 377, attributes := #[] }, { accessFlags := 26, nameIndex := 381, descriptorIndex := 276, attributes := #[] }])
  fields := #[{ name := "MIN_VALUE", type := .long, accessFlags := 25, slot := 0, constantValue := 0 }, { name := "MAX_VALUE", type := .long, accessFlags := 25, slot := 1, constantValue := 0 }, { name := "TYPE", type := (.object "java/lang/Class"), accessFlags := 25, slot := 2, constantValue := 0 }, { name := "value", type := .long, accessFlags := 18, slot := 0, constantValue := 0 }, { name := "SIZE", type := .int, accessFlags := 25, slot := 3, constantValue := 0 }, { name := "BYTES", type := .int, accessFlags := 25, slot := 4, constantValue := 0 }, { name := "serialVersionUID", type := .long, accessFlags := 26, slot := 5, constantValue := 0 }]
  methods := #[k9m0, k9m1]
  instanceTypes := #[.long]
  staticTypes := #[.long, .long, (.object "java/lang/Class"), .int, .int, .long]
  resolved := Array.replicate 524 none
  statics := none }

def pool10 : Array CpInfo := pool [(2, .class_ 4), (1, u "com/example/throng/throng/engine/Count$Array"), (0, u "<init>"), (0, u "(IZ)V"), (0, .methodref 8 9), (0, .class_ 10), (0, .nameAndType 5 11), (0, u "java/lang/Object"), (0, u "()V"), (0, .fieldref 2 13), (0, .nameAndType 14 15), (0, u "product"), (0, u "[J"), (0, .fieldref 2 17), (0, .nameAndType 18 19), (0, u "narrow"), (0, u "Z"), (0, .fieldref 2 21), (0, .nameAndType 22 15), (0, u "bits"), (0, .methodref 24 25), (0, .class_ 26), (0, .nameAndType 27 28), (0, u "com/example/throng/throng/engine/Count"), (0, u "of"), (0, u "(J)Lcom/example/throng/throng/engine/Count;"), (0, .methodref 24 30), (0, .nameAndType 5 31), (0, u "(JJ)V"), (0, .fieldref 24 33), (0, .nameAndType 34 35), (0, u "low"), (0, u "J"), (0, .fieldref 24 37), (0, .nameAndType 38 35), (0, u "high"), (23, u "get"), (0, u "(I)Lcom/example/throng/throng/engine/Count;"), (0, u "set"), (0, u "(ILcom/example/throng/throng/engine/Count;)V")] 12

def k10c0 : Code := { maxStack := 3, maxLocals := 3, code := prog_42_method_2_code, exceptionTable := #[], attributes := #[] }
def k10m0 : Method := { name := "<init>", desc := "(IZ)V", sig := { parameters := [.int, .boolean], returnType := none }, accessFlags := 0, code := some k10c0 }
def k10c1 : Code := { maxStack := 7, maxLocals := 2, code := prog_42_method_3_code, exceptionTable := #[], attributes := #[] }
def k10m1 : Method := { name := "get", desc := "(I)Lcom/example/throng/throng/engine/Count;", sig := { parameters := [.int], returnType := some (.object "com/example/throng/throng/engine/Count") }, accessFlags := 0, code := some k10c1 }
def k10c2 : Code := { maxStack := 4, maxLocals := 3, code := prog_42_method_4_code, exceptionTable := #[], attributes := #[] }
def k10m2 : Method := { name := "set", desc := "(ILcom/example/throng/throng/engine/Count;)V", sig := { parameters := [.int, (.object "com/example/throng/throng/engine/Count")], returnType := none }, accessFlags := 0, code := some k10c2 }
/-- com/example/throng/throng/engine/Count$Array -/
def k10 : Class := { plain "com/example/throng/throng/engine/Count$Array" (some 0) with
  accessFlags := 48
  interfaces := #[]
  cf := some (fileOf pool10 2 #[.nestHost 24] #[{ accessFlags := 0, nameIndex := 5, descriptorIndex := 6, attributes := #[] }, { accessFlags := 0, nameIndex := 62, descriptorIndex := 63, attributes := #[] }, { accessFlags := 0, nameIndex := 64, descriptorIndex := 65, attributes := #[] }] 48 8 #[] #[{ accessFlags := 18, nameIndex := 18, descriptorIndex := 19, attributes := #[] }, { accessFlags := 18, nameIndex := 22, descriptorIndex := 15, attributes := #[] }, { accessFlags := 18, nameIndex := 14, descriptorIndex := 15, attributes := #[] }])
  fields := #[{ name := "narrow", type := .boolean, accessFlags := 18, slot := 0, constantValue := 0 }, { name := "bits", type := (.array .long), accessFlags := 18, slot := 1, constantValue := 0 }, { name := "product", type := (.array .long), accessFlags := 18, slot := 2, constantValue := 0 }]
  methods := #[k10m0, k10m1, k10m2]
  instanceTypes := #[.boolean, (.array .long), (.array .long)]
  staticTypes := #[]
  resolved := Array.replicate 78 none
  statics := none }

def pool11 : Array CpInfo := pool [(1, u "java/lang/Cloneable"), (0, .class_ 1), (0, u "java/lang/Object"), (0, .class_ 3)] 3

/-- java/lang/Cloneable -/
def k11 : Class := { plain "java/lang/Cloneable" (some 0) with
  accessFlags := 1537
  interfaces := #[]
  cf := some (fileOf pool11 2 #[] #[] 1537 4 #[] #[])
  fields := #[]
  methods := #[]
  instanceTypes := #[]
  staticTypes := #[]
  resolved := Array.replicate 8 none
  statics := none }

/-- the primitive byte -/
def k12 : Class := { plain "byte" none with kind := .primitive 'B', accessFlags := 0x411 }
/-- [B -/
def k13 : Class := { plain "[B" (some 0) with kind := .array 12 .byte, interfaces := #[11, 5], accessFlags := 1041 }

/-- the primitive int -/
def k14 : Class := { plain "int" none with kind := .primitive 'I', accessFlags := 0x411 }
/-- [I -/
def k15 : Class := { plain "[I" (some 0) with kind := .array 14 .int, interfaces := #[11, 5], accessFlags := 1041 }

/-- the primitive long -/
def k16 : Class := { plain "long" none with kind := .primitive 'J', accessFlags := 0x411 }
/-- [J -/
def k17 : Class := { plain "[J" (some 0) with kind := .array 16 .long, interfaces := #[11, 5], accessFlags := 1041 }

def heap : Heap := #[{ cls := 3, slots := #[.ref 1, .null], vm := .statics 3 },
  { cls := 3, slots := #[.long 0, .long 0], vm := .none }]
def classes : Array Class := #[k0, k1, k2, k3, k4, k5, k6, k7, k8, k9, k10, k11, k12, k13, k14, k15, k16, k17]
def interned : List (Array UInt16 × Addr) := []
def slotsUsed : Nat := 4
def theMethod : MethodId := ⟨1, 1⟩
def args0 : Array Value := #[.int 1, .int 1, .int 2, .long 5, .long 6, .long 7]
def aboutOver (below : List Frame) : State where
  vm := { classes := classes, interned := interned.toArray }
  heap := heap
  slotsUsed := slotsUsed
  threads := #[{ frames := .invoking theMethod args0 :: below }]
def below0 : List Frame := [.native { method := ⟨0, 0⟩, args := #[] }]
def about1 : State := aboutOver below0
def p0 : Program := .bare "" "" ""
def e0 : Env := launch0.env 0 0 0
theorem w_frames : about1.frames = Frame.invoking theMethod args0 :: below0 := rfl
set_option maxRecDepth 65536 in
theorem w_args : argsFit about1.vm theMethod args0 = true := by decide +kernel
set_option maxRecDepth 65536 in
theorem w_heap : heapFits about1 = true := by decide +kernel
set_option maxRecDepth 65536 in
theorem w_runnable : about1.curStatus? = some .runnable := by decide +kernel
set_option maxRecDepth 65536 in
theorem w_alone : about1.alone = true := by decide +kernel
set_option maxRecDepth 65536 in
theorem w_named : about1.methodNamed? x = some theMethod := by decide +kernel
set_option maxRecDepth 65536 in
theorem w_hears : about1.hears theMethod below0 = true := by decide +kernel
set_option maxRecDepth 65536 in
theorem w_ripe : about1.ripe theMethod args0 below0 = true := by decide +kernel
theorem w_running : about1.status = .running := rfl
set_option maxRecDepth 65536 in
theorem w_room : about1.hasRoom e0.platform room_1 = true :=
  launch0.hasRoom_least _ room_1 (by decide +kernel) (by decide +kernel) (by decide +kernel) (by decide +kernel) (by decide +kernel) (by decide +kernel)
theorem allAtoms_all (ts : List Jvm.Cond) (a : Array Jvm.Value) (st : Jvm.State) : (allAtoms ts).before a st = ts.all (fun c => c.before a st) := by
  induction ts with
  | nil => rfl
  | cons c t ih =>
    show (Jvm.Cond.and c (allAtoms t)).before a st = _
    rw [Jvm.Cond.before_and, ih, List.all_cons]
def words1 : List Jvm.Cond := Jvm.Cond.code x code maxLocals ret :: tables_1
/-- a 'code' word, met by the world's own term for the bytes: nothing is compared byte by byte -/
theorem code_word {y : MethodName} {bytes : ByteArray} {mx : Nat} {rt : Option FieldType} {a : Array Value} {s : State} {m : MethodId} {meth : Method} {c : Code} (h1 : s.methodNamed? y = some m) (h2 : s.vm.method? m = some meth) (h3 : meth.code = some c) (h4 : c.code = bytes)
    (h5 : (c.maxLocals == mx && c.exceptionTable.isEmpty && decide (c.maxStack ≤ mostOperands) && decide (meth.sig.returnType = rt) && !meth.locks && decide (parseMethodDescriptor y.desc = some meth.sig)) = true) : (Jvm.Cond.code y bytes mx rt).before a s = true := by
  simp only [Bool.and_eq_true, beq_iff_eq, Bool.not_eq_true', decide_eq_true_eq] at h5
  obtain ⟨⟨⟨⟨⟨g1, g2⟩, g3⟩, g4⟩, g5⟩, g6⟩ := h5
  simp [Cond.before, Cond.holds, Cond.value, h1, h2, h3, h4, g1, g2, g3, g4, g5, g6]
def isCode : Jvm.Cond → Bool
  | .code _ _ _ _ => true
  | _ => false
theorem all_split {L : List Jvm.Cond} {P : Jvm.Cond → Bool} (h1 : L.all (fun c => isCode c || P c) = true) (h2 : ∀ c ∈ L.filter isCode, P c = true) : L.all P = true := by
  refine List.all_eq_true.mpr fun c hc => ?_
  have h := List.all_eq_true.mp h1 c hc
  rcases Bool.eq_false_or_eq_true (isCode c) with hi | hi
  · exact h2 c (List.mem_filter.mpr ⟨hc, hi⟩)
  · simpa [hi] using h
set_option maxRecDepth 65536 in
theorem w_c0 : (Jvm.Cond.code x code maxLocals ret).before args0 about1 = true := code_word (m := ⟨1, 1⟩) (meth := k1m1) (c := k1c1) (by decide +kernel) rfl rfl rfl (by decide +kernel)
set_option maxRecDepth 65536 in
theorem w_c1 : (Jvm.Cond.code ({ cls := "com/example/throng/throng/engine/Count", name := "of", desc := "(J)Lcom/example/throng/throng/engine/Count;" } : Jvm.MethodName) prog_41_method_2_code (2 : Nat) (Option.some (Jvm.ClassFile.FieldType.object "com/example/throng/throng/engine/Count"))).before args0 about1 = true := code_word (m := ⟨3, 1⟩) (meth := k3m1) (c := k3c1) (by decide +kernel) rfl rfl rfl (by decide +kernel)
set_option maxRecDepth 65536 in
theorem w_c2 : (Jvm.Cond.code ({ cls := "com/example/throng/throng/engine/Count", name := "<init>", desc := "(JJ)V" } : Jvm.MethodName) prog_41_method_1_code (5 : Nat) (Option.none : Option Jvm.ClassFile.FieldType)).before args0 about1 = true := code_word (m := ⟨3, 0⟩) (meth := k3m0) (c := k3c0) (by decide +kernel) rfl rfl rfl (by decide +kernel)
set_option maxRecDepth 65536 in
theorem w_c3 : (Jvm.Cond.code ({ cls := "java/lang/Object", name := "<init>", desc := "()V" } : Jvm.MethodName) object_method_1_code (1 : Nat) (Option.none : Option Jvm.ClassFile.FieldType)).before args0 about1 = true := code_word (m := ⟨0, 0⟩) (meth := k0m0) (c := k0c0) (by decide +kernel) rfl rfl rfl (by decide +kernel)
set_option maxRecDepth 65536 in
theorem w_c4 : (Jvm.Cond.code ({ cls := "com/example/throng/throng/engine/Count", name := "times", desc := "(Lcom/example/throng/throng/engine/Count;)Lcom/example/throng/throng/engine/Count;" } : Jvm.MethodName) prog_41_method_7_code (3 : Nat) (Option.some (Jvm.ClassFile.FieldType.object "com/example/throng/throng/engine/Count"))).before args0 about1 = true := code_word (m := ⟨3, 4⟩) (meth := k3m4) (c := k3c4) (by decide +kernel) rfl rfl rfl (by decide +kernel)
set_option maxRecDepth 65536 in
theorem w_c5 : (Jvm.Cond.code ({ cls := "com/example/throng/throng/engine/Count", name := "times", desc := "(JJJJ[JI)V" } : Jvm.MethodName) prog_41_method_8_code (10 : Nat) (Option.none : Option Jvm.ClassFile.FieldType)).before args0 about1 = true := code_word (m := ⟨3, 5⟩) (meth := k3m5) (c := k3c5) (by decide +kernel) rfl rfl rfl (by decide +kernel)
set_option maxRecDepth 65536 in
theorem w_c6 : (Jvm.Cond.code ({ cls := "java/lang/Math", name := "multiplyHigh", desc := "(JJ)J" } : Jvm.MethodName) jdk_29_method_45_code (20 : Nat) (Option.some Jvm.ClassFile.FieldType.long)).before args0 about1 = true := code_word (m := ⟨4, 1⟩) (meth := k4m1) (c := k4c1) (by decide +kernel) rfl rfl rfl (by decide +kernel)
set_option maxRecDepth 65536 in
theorem w_c7 : (Jvm.Cond.code ({ cls := "com/example/throng/throng/engine/Count", name := "plus", desc := "(Lcom/example/throng/throng/engine/Count;)Lcom/example/throng/throng/engine/Count;" } : Jvm.MethodName) prog_41_method_4_code (3 : Nat) (Option.some (Jvm.ClassFile.FieldType.object "com/example/throng/throng/engine/Count"))).before args0 about1 = true := code_word (m := ⟨3, 2⟩) (meth := k3m2) (c := k3c2) (by decide +kernel) rfl rfl rfl (by decide +kernel)
set_option maxRecDepth 65536 in
theorem w_c8 : (Jvm.Cond.code ({ cls := "com/example/throng/throng/engine/Count", name := "plus", desc := "(JJJJ[JI)V" } : Jvm.MethodName) prog_41_method_5_code (14 : Nat) (Option.none : Option Jvm.ClassFile.FieldType)).before args0 about1 = true := code_word (m := ⟨3, 3⟩) (meth := k3m3) (c := k3c3) (by decide +kernel) rfl rfl rfl (by decide +kernel)
set_option maxRecDepth 65536 in
theorem w_c9 : (Jvm.Cond.code ({ cls := "java/lang/Long", name := "compareUnsigned", desc := "(JJ)I" } : Jvm.MethodName) jdk_35_method_43_code (4 : Nat) (Option.some Jvm.ClassFile.FieldType.int)).before args0 about1 = true := code_word (m := ⟨9, 1⟩) (meth := k9m1) (c := k9c1) (by decide +kernel) rfl rfl rfl (by decide +kernel)
set_option maxRecDepth 65536 in
theorem w_c10 : (Jvm.Cond.code ({ cls := "java/lang/Long", name := "compare", desc := "(JJ)I" } : Jvm.MethodName) jdk_35_method_42_code (4 : Nat) (Option.some Jvm.ClassFile.FieldType.int)).before args0 about1 = true := code_word (m := ⟨9, 0⟩) (meth := k9m0) (c := k9c0) (by decide +kernel) rfl rfl rfl (by decide +kernel)
set_option maxRecDepth 65536 in
theorem w_c11 : (Jvm.Cond.code ({ cls := "com/example/throng/throng/engine/Count$Array", name := "<init>", desc := "(IZ)V" } : Jvm.MethodName) prog_42_method_2_code (3 : Nat) (Option.none : Option Jvm.ClassFile.FieldType)).before args0 about1 = true := code_word (m := ⟨10, 0⟩) (meth := k10m0) (c := k10c0) (by decide +kernel) rfl rfl rfl (by decide +kernel)
set_option maxRecDepth 65536 in
theorem w_c12 : (Jvm.Cond.code ({ cls := "com/example/throng/throng/engine/Count$Array", name := "set", desc := "(ILcom/example/throng/throng/engine/Count;)V" } : Jvm.MethodName) prog_42_method_4_code (3 : Nat) (Option.none : Option Jvm.ClassFile.FieldType)).before args0 about1 = true := code_word (m := ⟨10, 2⟩) (meth := k10m2) (c := k10c2) (by decide +kernel) rfl rfl rfl (by decide +kernel)
set_option maxRecDepth 65536 in
theorem w_c13 : (Jvm.Cond.code ({ cls := "com/example/throng/throng/engine/Count$Array", name := "get", desc := "(I)Lcom/example/throng/throng/engine/Count;" } : Jvm.MethodName) prog_42_method_3_code (2 : Nat) (Option.some (Jvm.ClassFile.FieldType.object "com/example/throng/throng/engine/Count"))).before args0 about1 = true := code_word (m := ⟨10, 1⟩) (meth := k10m1) (c := k10c1) (by decide +kernel) rfl rfl rfl (by decide +kernel)
set_option maxRecDepth 65536 in
theorem w_c14 : (Jvm.Cond.code ({ cls := "com/example/throng/throng/engine/Count", name := "equals", desc := "(Ljava/lang/Object;)Z" } : Jvm.MethodName) prog_41_method_16_code (3 : Nat) (Option.some Jvm.ClassFile.FieldType.boolean)).before args0 about1 = true := code_word (m := ⟨3, 6⟩) (meth := k3m6) (c := k3c6) (by decide +kernel) rfl rfl rfl (by decide +kernel)
def codes1 : List Jvm.Cond := [Jvm.Cond.code x code maxLocals ret, Jvm.Cond.code ({ cls := "com/example/throng/throng/engine/Count", name := "of", desc := "(J)Lcom/example/throng/throng/engine/Count;" } : Jvm.MethodName) prog_41_method_2_code (2 : Nat) (Option.some (Jvm.ClassFile.FieldType.object "com/example/throng/throng/engine/Count")), Jvm.Cond.code ({ cls := "com/example/throng/throng/engine/Count", name := "<init>", desc := "(JJ)V" } : Jvm.MethodName) prog_41_method_1_code (5 : Nat) (Option.none : Option Jvm.ClassFile.FieldType), Jvm.Cond.code ({ cls := "java/lang/Object", name := "<init>", desc := "()V" } : Jvm.MethodName) object_method_1_code (1 : Nat) (Option.none : Option Jvm.ClassFile.FieldType), Jvm.Cond.code ({ cls := "com/example/throng/throng/engine/Count", name := "times", desc := "(Lcom/example/throng/throng/engine/Count;)Lcom/example/throng/throng/engine/Count;" } : Jvm.MethodName) prog_41_method_7_code (3 : Nat) (Option.some (Jvm.ClassFile.FieldType.object "com/example/throng/throng/engine/Count")), Jvm.Cond.code ({ cls := "com/example/throng/throng/engine/Count", name := "times", desc := "(JJJJ[JI)V" } : Jvm.MethodName) prog_41_method_8_code (10 : Nat) (Option.none : Option Jvm.ClassFile.FieldType), Jvm.Cond.code ({ cls := "java/lang/Math", name := "multiplyHigh", desc := "(JJ)J" } : Jvm.MethodName) jdk_29_method_45_code (20 : Nat) (Option.some Jvm.ClassFile.FieldType.long), Jvm.Cond.code ({ cls := "com/example/throng/throng/engine/Count", name := "plus", desc := "(Lcom/example/throng/throng/engine/Count;)Lcom/example/throng/throng/engine/Count;" } : Jvm.MethodName) prog_41_method_4_code (3 : Nat) (Option.some (Jvm.ClassFile.FieldType.object "com/example/throng/throng/engine/Count")), Jvm.Cond.code ({ cls := "com/example/throng/throng/engine/Count", name := "plus", desc := "(JJJJ[JI)V" } : Jvm.MethodName) prog_41_method_5_code (14 : Nat) (Option.none : Option Jvm.ClassFile.FieldType), Jvm.Cond.code ({ cls := "java/lang/Long", name := "compareUnsigned", desc := "(JJ)I" } : Jvm.MethodName) jdk_35_method_43_code (4 : Nat) (Option.some Jvm.ClassFile.FieldType.int), Jvm.Cond.code ({ cls := "java/lang/Long", name := "compare", desc := "(JJ)I" } : Jvm.MethodName) jdk_35_method_42_code (4 : Nat) (Option.some Jvm.ClassFile.FieldType.int), Jvm.Cond.code ({ cls := "com/example/throng/throng/engine/Count$Array", name := "<init>", desc := "(IZ)V" } : Jvm.MethodName) prog_42_method_2_code (3 : Nat) (Option.none : Option Jvm.ClassFile.FieldType), Jvm.Cond.code ({ cls := "com/example/throng/throng/engine/Count$Array", name := "set", desc := "(ILcom/example/throng/throng/engine/Count;)V" } : Jvm.MethodName) prog_42_method_4_code (3 : Nat) (Option.none : Option Jvm.ClassFile.FieldType), Jvm.Cond.code ({ cls := "com/example/throng/throng/engine/Count$Array", name := "get", desc := "(I)Lcom/example/throng/throng/engine/Count;" } : Jvm.MethodName) prog_42_method_3_code (2 : Nat) (Option.some (Jvm.ClassFile.FieldType.object "com/example/throng/throng/engine/Count")), Jvm.Cond.code ({ cls := "com/example/throng/throng/engine/Count", name := "equals", desc := "(Ljava/lang/Object;)Z" } : Jvm.MethodName) prog_41_method_16_code (3 : Nat) (Option.some Jvm.ClassFile.FieldType.boolean)]
set_option maxRecDepth 65536 in
theorem codes_eq : words1.filter isCode = codes1 := rfl
theorem w_codes : ∀ c ∈ words1.filter isCode, c.before args0 about1 = true := by
  rw [codes_eq]
  intro c hc
  simp only [codes1, List.mem_cons, List.not_mem_nil, or_false] at hc
  rcases hc with rfl | rfl | rfl | rfl | rfl | rfl | rfl | rfl | rfl | rfl | rfl | rfl | rfl | rfl | rfl
  · exact w_c0
  · exact w_c1
  · exact w_c2
  · exact w_c3
  · exact w_c4
  · exact w_c5
  · exact w_c6
  · exact w_c7
  · exact w_c8
  · exact w_c9
  · exact w_c10
  · exact w_c11
  · exact w_c12
  · exact w_c13
  · exact w_c14
set_option maxRecDepth 65536 in
theorem w_t1 : (words1.take 24).all (fun c => isCode c || c.before args0 about1) = true := by decide +kernel
set_option maxRecDepth 65536 in
theorem w_t2 : ((words1.drop 24).take 24).all (fun c => isCode c || c.before args0 about1) = true := by decide +kernel
set_option maxRecDepth 65536 in
theorem w_t3 : (((words1.drop 24).drop 24).take 24).all (fun c => isCode c || c.before args0 about1) = true := by decide +kernel
set_option maxRecDepth 65536 in
theorem w_t4 : (((words1.drop 24).drop 24).drop 24).all (fun c => isCode c || c.before args0 about1) = true := by decide +kernel
theorem w_tables : (allAtoms (Jvm.Cond.code x code maxLocals ret :: tables_1)).before args0 about1 = true := by
  rw [allAtoms_all]
  show words1.all (fun c => c.before args0 about1) = true
  refine all_split ?_ w_codes
  rw [← List.take_append_drop 24 words1, List.all_append, w_t1, ← List.take_append_drop 24 (words1.drop 24), List.all_append, w_t2, ← List.take_append_drop 24 ((words1.drop 24).drop 24), List.all_append, w_t3, w_t4]
  rfl
set_option maxRecDepth 65536 in
theorem w_case : (Jvm.Cond.and given_1 narrow_1).before args0 about1 = true := by decide +kernel
theorem w_applies : (headSpec (Jvm.Cond.code x code maxLocals ret :: tables_1) room_1).applies x e0.platform about1 = true :=
  (Spec.applies_iff w_frames).mpr ⟨w_running, w_runnable, w_alone, w_named, w_hears, w_ripe, w_room, w_tables⟩
theorem atStart : AtStart classFile x code maxLocals ret World_1 tables_1 room_1 Calls_1 rest_1 Pre_1 launch0 p0 e0 about1 theMethod args0 below0 :=
  ⟨lists_1, trivial, launch0.admits_env _ _ _, launch0.least_env, fairChoices_fair.cas, fairChoices_fair.clock, w_frames, w_args, w_heap, w_applies, trivial, trivial, w_case⟩
end start1
theorem witness_1 : WitnessClaimed_1 := ⟨start1.p0, start1.e0, start1.about1, start1.theMethod, start1.args0, start1.below0, start1.atStart⟩
end Jvm.Pilot.@@N@@
