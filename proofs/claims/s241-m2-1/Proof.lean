import JvmDerived
import JvmDerived.Pilot.@@N@@Statement
import JvmDerived.Pilot.@@N@@Code
set_option linter.unusedVariables false
set_option linter.unusedSimpArgs false
namespace Jvm.Pilot.@@N@@
open Jvm Jvm.ClassFile Sem Op Lib Jvm.Free Jvm.Stand Jvm.LawKit Jvm.RoadKit Bundle Jvm.Pilot.@@N@@.Jvm.D
theorem own_rep (n : Nat) (dv : Value) : ∀ i, (List.replicate n dv).getD i dv = dv := fun i => by
  rw [List.getD_eq_getElem?_getD, List.getElem?_replicate]; split <;> rfl
theorem own_cat {v : Value} (h : v.isRef = true) : v.category = 1 := by rcases ref_cases h with rfl | ⟨_, rfl⟩ <;> rfl
theorem own_narR {t : FieldType} {v : Value} (ht : t.isReference = true) (h : v.isRef = true) : narrow t v = v := by
  rcases ref_cases h with rfl | ⟨_, rfl⟩ <;> cases t <;> first | rfl | cases ht
theorem own_and255 (x : Int32) : ¬ (x &&& 255) < 0 ∧ ¬ (255 : Int32) < (x &&& 255) := by
  have t : ∀ k : Fin 256, ¬ (Int32.ofNat k.val) < 0 ∧ ¬ (255 : Int32) < (Int32.ofNat k.val) := by decide +kernel
  have h : (x &&& 255).toBitVec.toNat < 256 := by
    simp only [Int32.toBitVec_and, BitVec.toNat_and]
    exact Nat.lt_succ_of_le Nat.and_le_right
  have e : (x &&& 255) = Int32.ofNat (x &&& 255).toBitVec.toNat := by
    apply Int32.toBitVec_inj.mp
    show _ = BitVec.ofNat 32 _
    rw [BitVec.ofNat_toNat]; simp
  rw [e]
  exact t ⟨_, h⟩
theorem own_nc (x : Int32) : (Value.int (nar .char (x &&& 255))) = .int (x &&& 255) := congrArg Value.int (i2c_mask x)
theorem own_fc (x : Int32) : fits .char (.int (x &&& 255)) = true := own_nc x ▸ fits_nar_char (x &&& 255)
theorem own_up (cs : List Int32) (h : ∀ c ∈ cs, ¬ c < 0 ∧ ¬ (255 : Int32) < c) : ∀ c ∈ cs, ¬ c < 0 ∧ ¬ (65535 : Int32) < c := fun c hc => ⟨(h c hc).1, fun q => (h c hc).2 (by rw [Int32.lt_iff_toInt_lt] at q ⊢; have e1 : (65535 : Int32).toInt = 65535 := rfl; have e2 : (255 : Int32).toInt = 255 := rfl; omega)⟩
theorem own_all0 {P : Int32 → Prop} : ∀ c ∈ ([] : List Int32), P c := fun _ q => nomatch q
theorem own_allS {P : Int32 → Prop} {y : Int32} {L : List Int32} (q : P y) (r : ∀ x ∈ L, P x) : ∀ x ∈ y :: L, P x := fun x z => (List.mem_cons.mp z).elim (fun u => u ▸ q) (r x)
theorem own_n0 {Z : State} {n0 : Nat} {h : Heap} (O : Old Z n0 h) : n0 ≤ h.size := Nat.le_trans (Nat.le_of_eq O.1.symm) O.2.1
theorem own_mvMN {Z s : State} {a0 args : Array Value} {own host : String} {idx : Nat} {y : MethodName} (hZ : Z.Warmed39 s.vm) (w : (Jvm.Cond.methodLinkNest own idx y host).before a0 Z = true) : (Jvm.Cond.methodLinkNest own idx y host).before args s = true := (Cond.methodLinkNest_wide hZ w :)
def own_Mine (Z : State) (EL : List (String × Nat)) (n0 : Nat) (vm : Vm) (h : Heap) (ms : List Addr) : Prop := ∀ x ∈ ms, n0 ≤ x ∧ x < h.size
def own_Go (Z : State) (EL : List (String × Nat)) (n0 : Nat) (p : Program) (e : Env) (below : List Frame) (s : State) (k n : Nat) (Q : Option Value → Heap → List Addr → Prop) (cur : State) : Prop :=
  ∃ s₂ o, Steps p.tables e below cur s₂ ∧ s₂.status = .running ∧ Ended s₂ below o ∧ ∃ v L ms, o = .returned v ∧ Q v s₂.heap ms ∧ Fr n0 L ∧ Old Z n0 s₂.heap ∧ own_Mine Z EL n0 s₂.vm s₂.heap ms ∧ s.heap.size ≤ s₂.heap.size ∧ FrameEnd s o s₂ L k n
def own_Ct (l : Launch) (Z : State) (EL : List (String × Nat)) (n0 : Nat) (y : MethodName) (bytes : ByteArray) (maxL : Nat) (ret : Option FieldType) (ws : List Jvm.Cond) (rm : Room) (as' : Array Value) (h0 : Heap) (ms0 : List Addr) (Q : Option Value → Heap → List Addr → Prop) : Prop :=
  MetFree l y (head1 (Jvm.Cond.code y bytes maxL ret :: ws) rm) (fun a U => a = as' ∧ Z.Warmed39 U.vm ∧ U.heap = h0 ∧ own_Mine Z EL n0 U.vm h0 ms0) (fun _ _ _ _ _ => True)
    (fun _ U o U' => ∃ v L ms, o = .returned v ∧ Q v U'.heap ms ∧ Fr n0 L ∧ Old Z n0 U'.heap ∧ own_Mine Z EL n0 U'.vm U'.heap ms ∧ U.heap.size ≤ U'.heap.size ∧ FrameEnd U o U' L rm.cells rm.slots)
def own_Wk (Z : State) (EL : List (String × Nat)) (n0 : Nat) (own : String) (bytes : ByteArray) (maxL : Nat) (ret : Option FieldType) (nm : String) (p : Program) (l : Launch) (e : Env) (R : Room) (s : State) (m : MethodId) (args : Array Value) (below : List Frame) (meth : Method) (c : Code)
    (T : State) (ms : List Addr) (k n : Nat) (h : Heap) : Prop :=
  p.tables.exec = Jvm.exec ∧ c.code = bytes ∧ c.maxLocals = maxL ∧ meth.sig.returnType = ret ∧ meth.locks = false ∧ meth.name = nm ∧
  ∃ locs, Stand p l e R s m args below meth c T locs k n ∧ T.heap = h ∧ Z.Warmed39 s.vm ∧ s.vm.findClass own = some m.cls ∧ Fr n0 locs ∧ Old Z n0 h ∧ s.heap.size ≤ h.size ∧ own_Mine Z EL n0 T.vm h ms
section OwnKit
variable {Z : State} {EL : List (String × Nat)} {n0 : Nat} {own : String} {bytes : ByteArray} {maxL : Nat} {ret : Option FieldType} {nm : String} {p : Program} {l : Launch} {e : Env} {R : Room} {s : State} {m : MethodId} {args : Array Value} {below : List Frame} {meth : Method} {c : Code}
  {T : State} {ms : List Addr} {k n : Nat} {h : Heap} {a0 : Array Value} {K N : Nat} {Q : Option Value → Heap → List Addr → Prop} {pc pc' : Nat} {Ls Ls' : Array Slot} {st : List Value} {a : Addr}
theorem own_go {cur nxt : State} (q : ∀ t, Steps p.tables e below nxt t → Steps p.tables e below cur t) (g : own_Go Z EL n0 p e below s K N Q nxt) : own_Go Z EL n0 p e below s K N Q cur := by
  obtain ⟨s₂, o, h, r⟩ := g; exact ⟨s₂, o, q _ h, r⟩
theorem own_here (w : own_Wk Z EL n0 own bytes maxL ret nm p l e R s m args below meth c T ms k n h) : At T m c below := by
  obtain ⟨-, -, -, -, -, -, locs, X, -⟩ := w; exact X.here
theorem own_dec (w : own_Wk Z EL n0 own bytes maxL ret nm p l e R s m args below meth c T ms k n h) {r : Except DecodeError (Instr × Nat)} (hd : decode bytes pc = r) : decode c.code pc = r := w.2.1 ▸ hd
theorem own_old (w : own_Wk Z EL n0 own bytes maxL ret nm p l e R s m args below meth c T ms k n h) : Old Z n0 h := by
  obtain ⟨-, -, -, -, -, -, locs, -, -, -, -, -, O, -⟩ := w; exact O
theorem own_mine (w : own_Wk Z EL n0 own bytes maxL ret nm p l e R s m args below meth c T ms k n h) : ∀ x ∈ ms, n0 ≤ x ∧ x < h.size := by
  obtain ⟨-, -, -, -, -, -, locs, -, -, -, -, -, -, -, M⟩ := w; exact M
theorem own_more (w : own_Wk Z EL n0 own bytes maxL ret nm p l e R s m args below meth c T ms k n h) {k' n' : Nat} {ms' : List Addr} (hk : k ≤ k') (hn : n ≤ n') (hm : ∀ x ∈ ms', x ∈ ms) : own_Wk Z EL n0 own bytes maxL ret nm p l e R s m args below meth c T ms' k' n' h := by
  obtain ⟨h1, h2, h3, h4, h5, h6, locs, X, h7, h8, h9, h10, h11, h12, M⟩ := w
  exact ⟨h1, h2, h3, h4, h5, h6, locs, X.more hk hn, h7, h8, h9, h10, h11, h12, fun x hx => M x (hm x hx)⟩
theorem own_enter {y : MethodName} {ws : List Jvm.Cond} {rm : Room} {as' : Array Value} {h0 : Heap} {ms0 : List Addr} (hp : plainFor y = true) (hE : EW Z a0 EL) (O : Old Z n0 h0)
    (body : ∀ p e s m below meth c T, own_Wk Z EL n0 y.cls bytes maxL ret y.name p l e rm s m as' below meth c T ms0 0 0 h0 → own_Go Z EL n0 p e below s rm.cells rm.slots Q (T.setTop (entryFrame m as' maxL))) :
    own_Ct l Z EL n0 y bytes maxL ret ws rm as' h0 ms0 Q := by
  refine MetFree.of_bodySF hp hisR ?_
  intro p e s m args below meth c s₁ Bd hml hP _
  obtain ⟨rfl, hZ, hh, hM⟩ := hP
  have e0 : s₁.heap = h0 := by rw [← hh, Bd.state]; rfl
  exact body p e s m below meth c s₁ ⟨Bd.exec, Bd.bytes, hml, Bd.returns, Bd.notSynchronized, (name_of_methodNamed Bd.named Bd.method).1, [], Stand.of_body Bd, e0, hZ, findClass_of_methodNamed Bd.named, Fr.nil n0, O, Nat.le_of_eq (by rw [hh]), hM⟩
theorem own_core (w : own_Wk Z EL n0 own bytes maxL ret nm p l e R s m args below meth c T ms k n h) {k' n' : Nat} {ws : List Addr} {F : JFrame} {P : Heap → List Addr → JFrame → Prop} (hws : ∀ x ∈ ws, x ∈ ms)
    (f : ∀ (s' : State) (locs : List Loc), Stand p l e R s' m args below meth c T locs k n → T.heap = h → Z.Warmed39 s'.vm → s'.vm.findClass own = some m.cls →
      ∃ (T' : State) (h' : Heap) (L : List Loc) (new : List Addr) (F' : JFrame), Stand p l e R s' m args below meth c T' (locs ++ L) k' n' ∧ T'.heap = h' ∧ Keep h h' ws ∧ Fr n0 L ∧ (∀ x ∈ new, h.size ≤ x ∧ x < h'.size) ∧ P h' new F' ∧ ∀ t, Steps p.tables e below (T'.setTop F') t → Steps p.tables e below (T.setTop F) t)
    (g : ∀ (T' : State) (h' : Heap) (new : List Addr) (F' : JFrame), own_Wk Z EL n0 own bytes maxL ret nm p l e R s m args below meth c T' (new ++ ms) k' n' h' → Keep h h' ws → P h' new F' → own_Go Z EL n0 p e below s K N Q (T'.setTop F')) : own_Go Z EL n0 p e below s K N Q (T.setTop F) := by
  obtain ⟨h1, h2, h3, h4, h5, h6, locs, X, eT, hZ, hown, Nf, O, hsz, M⟩ := w
  obtain ⟨T', h', L, new, F', X', e', Kp, NL, hnew, hP, st'⟩ := f s locs X eT hZ hown
  refine own_go st' (g T' h' new F' ⟨h1, h2, h3, h4, h5, h6, locs ++ L, X', e', hZ, hown, Nf.app NL, O.keep Kp (fun x hx => (M x (hws x hx)).1), Nat.le_trans hsz Kp.1, fun x hx => ?_⟩ Kp hP)
  rcases List.mem_append.mp hx with q | q
  · exact ⟨Nat.le_trans (Nat.le_trans (Nat.le_of_eq O.1.symm) O.2.1) (hnew x q).1, (hnew x q).2⟩
  · exact ⟨(M x q).1, Nat.lt_of_lt_of_le (M x q).2 Kp.1⟩
theorem own_pure (w : own_Wk Z EL n0 own bytes maxL ret nm p l e R s m args below meth c T ms k n h) {F F' : JFrame} (f : ∀ (s' : State) (locs : List Loc), Stand p l e R s' m args below meth c T locs k n → T.heap = h → Z.Warmed39 s'.vm → s'.vm.findClass own = some m.cls → ∀ t, Steps p.tables e below (T.setTop F') t → Steps p.tables e below (T.setTop F) t) (g : own_Go Z EL n0 p e below s K N Q (T.setTop F')) : own_Go Z EL n0 p e below s K N Q (T.setTop F) := by
  obtain ⟨h1, h2, h3, h4, h5, h6, locs, X, eT, hZ, hown, Nf, O, hsz, M⟩ := w
  exact own_go (f s locs X eT hZ hown) g
theorem own_retV (w : own_Wk Z EL n0 own bytes maxL ret nm p l e R s m args below meth c T ms k n h) {t : FieldType} {i : Instr} {v : Value} (hret : ret = some t) (hv : narrow t v = v)
    (hi : (i = .ireturn ∧ (t = .int ∨ t = .boolean ∨ t = .byte ∨ t = .char ∨ t = .short) ∧ ∃ z, v = .int z) ∨ (i = .lreturn ∧ t = .long ∧ ∃ z, v = .long z) ∨ (i = .dreturn ∧ t = .double ∧ ∃ z, v = .double z) ∨ (i = .freturn ∧ t = .float ∧ ∃ z, v = .float z) ∨ (i = .areturn ∧ t.isReference = true ∧ v.isRef = true))
    (hd : decode bytes pc = .ok (i, 1)) (hk : k ≤ K) (hn : n ≤ N) {ms' : List Addr} (hm : ∀ x ∈ ms', x ∈ ms) (hQ : Q (some v) h ms') : own_Go Z EL n0 p e below s K N Q (T.setTop (mkF m pc Ls (v :: st))) := by
  obtain ⟨h1, h2, h3, h4, h5, h6, locs, X, eT, hZ, hown, Nf, O, hsz, M⟩ := w
  obtain ⟨fs, hr, hrun, hended, hW, hsame⟩ := X.leave (v := some v) (fun q => by rw [h4, hret] at q; cases q) h5
  subst eT
  exact ⟨_, _, retOut X h1 (h4.trans hret) hv hi (h2 ▸ hd) hr, hrun, hended, _, locs, ms', rfl, hQ, Nf, O, fun x hx => M x (hm x hx), hsz, ⟨_, rfl⟩, hW, hsame.mono hk hn⟩
theorem own_ret0 (w : own_Wk Z EL n0 own bytes maxL ret nm p l e R s m args below meth c T ms k n h) (hret : ret = none) (hd : decode bytes pc = .ok (.return_, 1)) (hk : k ≤ K) (hn : n ≤ N) {ms' : List Addr} (hm : ∀ x ∈ ms', x ∈ ms) (hQ : Q none h ms') : own_Go Z EL n0 p e below s K N Q (T.setTop (mkF m pc Ls [])) := by
  obtain ⟨h1, h2, h3, h4, h5, h6, locs, X, eT, hZ, hown, Nf, O, hsz, M⟩ := w
  obtain ⟨fs, hr, hrun, hended, hW, hsame⟩ := X.leave (v := none) (fun _ => rfl) h5
  subst eT
  exact ⟨_, _, X.returnOut h1 (h4.trans hret) (h2 ▸ hd) hr, hrun, hended, _, locs, ms', rfl, hQ, Nf, O, fun x hx => M x (hm x hx), hsz, ⟨_, rfl⟩, hW, hsame.mono hk hn⟩
theorem own_back {y : MethodName} {bytes' : ByteArray} {maxL' : Nat} {ret' : Option FieldType} {rm' : Room} {as' : Array Value} {ms0 : List Addr} {Q' : Option Value → Heap → List Addr → Prop} {len W : Nat} {vmx : Vm}
    (ct : own_Ct l Z EL n0 y bytes' maxL' ret' [] rm' as' h ms0 Q') (hZ : Z.Warmed39 s.vm) (wc : (Jvm.Cond.code y bytes' maxL' ret').before a0 Z = true) (wz : (Jvm.Cond.initialized y.cls).before a0 Z = true) (hM : own_Mine Z EL n0 vmx h ms0) (hf : rm'.frames + 1 ≤ R.frames) (hl : W + (maxL' + 11) + rm'.locals ≤ R.locals) :
    Back l R p e below s args y len W (fun A a => a = as' ∧ A.U.heap = h ∧ A.cells + rm'.cells ≤ R.cells ∧ A.slots + rm'.slots ≤ R.slots)
      (fun A _ v B => ∃ L ms', Q' v B.U.heap ms' ∧ Fr n0 L ∧ Old Z n0 B.U.heap ∧ own_Mine Z EL n0 B.U.vm B.U.heap ms' ∧ h.size ≤ B.U.heap.size ∧ B.locs = A.locs ++ L ∧ B.cells = A.cells + rm'.cells ∧ B.slots = A.slots + rm'.slots) :=
  Back.of_free (bytes := bytes') (maxL := maxL') (ret := ret') (E := fun _ first o t L k n => k = rm'.cells ∧ n = rm'.slots ∧ ∃ v ms', o = .returned v ∧ Q' v t.heap ms' ∧ Fr n0 L ∧ Old Z n0 t.heap ∧ own_Mine Z EL n0 t.vm t.heap ms' ∧ first.heap.size ≤ t.heap.size) ct hf hl
    (fun m meth c A a Y hp => have hU : Z.Warmed39 A.U.vm := wtrans hZ Y.warmed
      ⟨by show (Jvm.Cond.and _ .tt).before a A.U = true; rw [Cond.before_and, mv hU wc]; rfl, mv hU wc, mv hU wz, hp.2.2.1, hp.2.2.2⟩)
    (fun m meth c A a g mk Y hp => ⟨hp.1, wtrans hZ Y.warmed, hp.2.1, hM⟩) (fun _ _ _ _ _ _ _ _ _ => trivial)
    (fun _ _ _ _ ⟨v, L, ms', h1, h2, h3, h4, h5, h6, h7⟩ => ⟨L, _, _, h7, rfl, rfl, v, ms', h1, h2, h3, h4, h5, h6⟩)
    (fun m meth c A a g mk v t L k n Y hp _ _ ⟨e1, e2, v', ms', e3, e4, e5, e6, e7, e8⟩ => by cases e3; subst e1 e2; exact ⟨L, ms', e4, e5, e6, e7, by rw [← hp.2.1]; exact e8, rfl, rfl, rfl⟩)
theorem own_callS (w : own_Wk Z EL n0 own bytes maxL ret nm p l e R s m args below meth c T ms k n h) {idx : Nat} {y : MethodName} {bytes' : ByteArray} {maxL' : Nat} {ret' : Option FieldType} {rm' : Room} {argsL rest : List Value} {ms0 : List Addr} {Q' : Option Value → Heap → List Addr → Prop} {ps : List FieldType} {rt : Option FieldType}
    (wl : (Jvm.Cond.methodLink own idx y).before a0 Z = true) (wt : (Jvm.Cond.static y).before a0 Z = true) (wz : (Jvm.Cond.initialized y.cls).before a0 Z = true) (wc : (Jvm.Cond.code y bytes' maxL' ret').before a0 Z = true) (hy : y.cls ≠ "java/lang/invoke/MethodHandle" ∧ y.cls ≠ "java/lang/invoke/VarHandle")
    (ct : own_Ct l Z EL n0 y bytes' maxL' ret' [] rm' argsL.toArray h ms0 Q') (hms : ∀ x ∈ ms0, x ∈ ms) (hst : st = argsL.reverse ++ rest) (hsz : Ls.size = maxL) (hpd : parseMethodDescriptor y.desc = some ⟨ps, rt⟩) (hln : argsL.length = ps.length) (hd : decode bytes pc = .ok (.invokestatic idx, 3)) (hp : pc + 3 = pc')
    (hf : rm'.frames + 1 ≤ R.frames) {W : Nat} (hW : (rest.map fun v => v.category).sum = W) (hl : W + (maxL' + 11) + rm'.locals ≤ R.locals) (hc : k + rm'.cells ≤ R.cells) (hn : n + rm'.slots ≤ R.slots)
    (g : ∀ (T' : State) (h' : Heap) (v : Option Value) (ms' : List Addr), own_Wk Z EL n0 own bytes maxL ret nm p l e R s m args below meth c T' (ms' ++ ms) (k + rm'.cells) (n + rm'.slots) h' → Q' v h' ms' → own_Go Z EL n0 p e below s K N Q (T'.setTop (mkF m pc' Ls (v.toList ++ rest)))) :
    own_Go Z EL n0 p e below s K N Q (T.setTop (mkF m pc Ls st)) := by
  subst hp hst
  obtain ⟨h1, h2, h3, h4, h5, h6, locs, X, eT, hZ, hown, Nf, O, hs0, M⟩ := w
  obtain ⟨v, _, ⟨T', L', k', n'⟩, -, X', ⟨L, ms', hQ, NL, O', M', hgr, l1, l2, l3⟩, st'⟩ := Jvm.LawKit.callS X h1 (y := y) hown (mvT hZ wl) (mvT hZ wt) (mvT hZ wz) (mvT hZ wc) hy (own_back (vmx := T.vm) (W := W) ct hZ wc wz (fun x hx => M x (hms x hx)) hf hl)
    (g := mkF m pc Ls (argsL.reverse ++ rest)) rfl (by rw [h3]; exact hsz) (argsL := argsL) (rest := rest) (lenOf hpd hln) rfl (by show 2 * 0 + _ ≤ _; rw [hW]; omega) (h2 ▸ hd) (fun _ _ => ⟨rfl, eT, hc, hn⟩)
  dsimp only [Pt.U, Pt.locs, Pt.cells, Pt.slots] at X' hQ O' M' hgr l1 l2 l3 st'
  subst l1 l2 l3
  refine own_go st' (g T' _ v ms' ⟨h1, h2, h3, h4, h5, h6, locs ++ L, X', rfl, hZ, hown, Nf.app NL, O', Nat.le_trans hs0 hgr, fun x hx => ?_⟩ hQ)
  rcases List.mem_append.mp hx with q | q
  · exact M' x q
  · exact ⟨(M x q).1, Nat.lt_of_lt_of_le (M x q).2 hgr⟩
theorem own_callI (w : own_Wk Z EL n0 own bytes maxL ret nm p l e R s m args below meth c T ms k n h) {idx : Nat} {y : MethodName} {bytes' : ByteArray} {maxL' : Nat} {rm' : Room} {argsL rest : List Value} {ms0 : List Addr} {Q' : Option Value → Heap → List Addr → Prop} {ps : List FieldType} {rt : Option FieldType}
    (hy1 : y.name = "<init>") (wl : (Jvm.Cond.methodLink own idx y).before a0 Z = true) (wt : (Jvm.Cond.instanceMethod y).before a0 Z = true) (wz : (Jvm.Cond.initialized y.cls).before a0 Z = true) (wc : (Jvm.Cond.code y bytes' maxL' none).before a0 Z = true) (hy : y.cls ≠ "java/lang/invoke/MethodHandle" ∧ y.cls ≠ "java/lang/invoke/VarHandle")
    (ct : own_Ct l Z EL n0 y bytes' maxL' none [] rm' (.ref a :: argsL).toArray h ms0 Q') (hms : ∀ x ∈ ms0, x ∈ ms) (hst : st = argsL.reverse ++ .ref a :: rest) (hsz : Ls.size = maxL) (hpd : parseMethodDescriptor y.desc = some ⟨ps, rt⟩) (hln : argsL.length = ps.length) (hd : decode bytes pc = .ok (.invokespecial idx, 3)) (hp : pc + 3 = pc')
    (hf : rm'.frames + 1 ≤ R.frames) {W : Nat} (hW : (rest.map fun v => v.category).sum = W) (hl : W + (maxL' + 11) + rm'.locals ≤ R.locals) (hc : k + rm'.cells ≤ R.cells) (hn : n + rm'.slots ≤ R.slots)
    (g : ∀ (T' : State) (h' : Heap) (v : Option Value) (ms' : List Addr), own_Wk Z EL n0 own bytes maxL ret nm p l e R s m args below meth c T' (ms' ++ ms) (k + rm'.cells) (n + rm'.slots) h' → Q' v h' ms' → own_Go Z EL n0 p e below s K N Q (T'.setTop (mkF m pc' Ls (v.toList ++ rest)))) :
    own_Go Z EL n0 p e below s K N Q (T.setTop (mkF m pc Ls st)) := by
  subst hp hst
  obtain ⟨h1, h2, h3, h4, h5, h6, locs, X, eT, hZ, hown, Nf, O, hs0, M⟩ := w
  obtain ⟨v, _, ⟨T', L', k', n'⟩, -, X', ⟨L, ms', hQ, NL, O', M', hgr, l1, l2, l3⟩, st'⟩ := X.specialBack h1 (y := y) hy1 hown (mvT hZ wl) (mvT hZ wt) (mvT hZ wc) hy (own_back (vmx := T.vm) (W := W) ct hZ wc wz (fun x hx => M x (hms x hx)) hf hl)
    (g := mkF m pc Ls (argsL.reverse ++ .ref a :: rest)) rfl (by rw [h3]; exact hsz) (Steps.refl _) (a := a) (argsL := argsL) (rest := rest) (lenOf hpd hln) rfl (by show 2 * 0 + _ ≤ _; rw [hW]; omega) (h2 ▸ hd) (fun _ _ => ⟨rfl, eT, hc, hn⟩)
  dsimp only [Pt.U, Pt.locs, Pt.cells, Pt.slots] at X' hQ O' M' hgr l1 l2 l3 st'
  subst l1 l2 l3
  refine own_go (fun _ q => st'.trans q) (g T' _ v ms' ⟨h1, h2, h3, h4, h5, h6, locs ++ L, X', rfl, hZ, hown, Nf.app NL, O', Nat.le_trans hs0 hgr, fun x hx => ?_⟩ hQ)
  rcases List.mem_append.mp hx with q | q
  · exact M' x q
  · exact ⟨(M x q).1, Nat.lt_of_lt_of_le (M x q).2 hgr⟩
theorem own_callIN (w : own_Wk Z EL n0 own bytes maxL ret nm p l e R s m args below meth c T ms k n h) {idx : Nat} {y : MethodName} {host : String} {bytes' : ByteArray} {maxL' : Nat} {rm' : Room} {argsL rest : List Value} {ms0 : List Addr} {Q' : Option Value → Heap → List Addr → Prop} {ps : List FieldType} {rt : Option FieldType}
    (hy1 : y.name = "<init>") (wl : (Jvm.Cond.methodLinkNest own idx y host).before a0 Z = true) (wt : (Jvm.Cond.instanceMethod y).before a0 Z = true) (wz : (Jvm.Cond.initialized y.cls).before a0 Z = true) (wc : (Jvm.Cond.code y bytes' maxL' none).before a0 Z = true) (hy : y.cls ≠ "java/lang/invoke/MethodHandle" ∧ y.cls ≠ "java/lang/invoke/VarHandle")
    (ct : own_Ct l Z EL n0 y bytes' maxL' none [] rm' (.ref a :: argsL).toArray h ms0 Q') (hms : ∀ x ∈ ms0, x ∈ ms) (hst : st = argsL.reverse ++ .ref a :: rest) (hsz : Ls.size = maxL) (hpd : parseMethodDescriptor y.desc = some ⟨ps, rt⟩) (hln : argsL.length = ps.length) (hd : decode bytes pc = .ok (.invokespecial idx, 3)) (hp : pc + 3 = pc')
    (hf : rm'.frames + 1 ≤ R.frames) {W : Nat} (hW : (rest.map fun v => v.category).sum = W) (hl : W + (maxL' + 11) + rm'.locals ≤ R.locals) (hc : k + rm'.cells ≤ R.cells) (hn : n + rm'.slots ≤ R.slots)
    (g : ∀ (T' : State) (h' : Heap) (v : Option Value) (ms' : List Addr), own_Wk Z EL n0 own bytes maxL ret nm p l e R s m args below meth c T' (ms' ++ ms) (k + rm'.cells) (n + rm'.slots) h' → Q' v h' ms' → own_Go Z EL n0 p e below s K N Q (T'.setTop (mkF m pc' Ls (v.toList ++ rest)))) :
    own_Go Z EL n0 p e below s K N Q (T.setTop (mkF m pc Ls st)) := by
  subst hp hst
  obtain ⟨h1, h2, h3, h4, h5, h6, locs, X, eT, hZ, hown, Nf, O, hs0, M⟩ := w
  obtain ⟨v, _, ⟨T', L', k', n'⟩, -, X', ⟨L, ms', hQ, NL, O', M', hgr, l1, l2, l3⟩, st'⟩ := X.specialBackNest h1 (y := y) hy1 hown (own_mvMN hZ wl) (mvT hZ wt) (mvT hZ wc) hy (own_back (vmx := T.vm) (W := W) ct hZ wc wz (fun x hx => M x (hms x hx)) hf hl)
    (g := mkF m pc Ls (argsL.reverse ++ .ref a :: rest)) rfl (by rw [h3]; exact hsz) (Steps.refl _) (a := a) (argsL := argsL) (rest := rest) (lenOf hpd hln) rfl (by show 2 * 0 + _ ≤ _; rw [hW]; omega) (h2 ▸ hd) (fun _ _ => ⟨rfl, eT, hc, hn⟩)
  dsimp only [Pt.U, Pt.locs, Pt.cells, Pt.slots] at X' hQ O' M' hgr l1 l2 l3 st'
  subst l1 l2 l3
  refine own_go (fun _ q => st'.trans q) (g T' _ v ms' ⟨h1, h2, h3, h4, h5, h6, locs ++ L, X', rfl, hZ, hown, Nf.app NL, O', Nat.le_trans hs0 hgr, fun x hx => ?_⟩ hQ)
  rcases List.mem_append.mp hx with q | q
  · exact M' x q
  · exact ⟨(M x q).1, Nat.lt_of_lt_of_le (M x q).2 hgr⟩
theorem own_callV (w : own_Wk Z EL n0 own bytes maxL ret nm p l e R s m args below meth c T ms k n h) {idx : Nat} {C : String} {y z : MethodName} {bytes' : ByteArray} {maxL' : Nat} {ret' : Option FieldType} {rm' : Room} {argsL rest : List Value} {ms0 : List Addr} {Q' : Option Value → Heap → List Addr → Prop} {ps : List FieldType} {rt : Option FieldType}
    (wl : (Jvm.Cond.methodLink own idx y).before a0 Z = true) (wd : (Jvm.Cond.declares y).before a0 Z = true) (hnf : ∀ s' : State, Z.Warmed39 s'.vm → NotFace s' y) (ws : (Jvm.Cond.selects C y z).before a0 Z = true) (wt : (Jvm.Cond.instanceMethod z).before a0 Z = true) (wz : (Jvm.Cond.initialized z.cls).before a0 Z = true) (wc : (Jvm.Cond.code z bytes' maxL' ret').before a0 Z = true) (hy : y.cls ≠ "java/lang/invoke/MethodHandle" ∧ y.cls ≠ "java/lang/invoke/VarHandle")
    (E : Exa Z h a C) (ct : own_Ct l Z EL n0 z bytes' maxL' ret' [] rm' (.ref a :: argsL).toArray h ms0 Q') (hms : ∀ x ∈ ms0, x ∈ ms) (hst : st = argsL.reverse ++ .ref a :: rest) (hsz : Ls.size = maxL) (hpd : parseMethodDescriptor y.desc = some ⟨ps, rt⟩) (hln : argsL.length = ps.length) (hd : decode bytes pc = .ok (.invokevirtual idx, 3)) (hp : pc + 3 = pc')
    (hf : rm'.frames + 1 ≤ R.frames) {W : Nat} (hW : (rest.map fun v => v.category).sum = W) (hl : W + (maxL' + 11) + rm'.locals ≤ R.locals) (hc : k + rm'.cells ≤ R.cells) (hn : n + rm'.slots ≤ R.slots)
    (g : ∀ (T' : State) (h' : Heap) (v : Option Value) (ms' : List Addr), own_Wk Z EL n0 own bytes maxL ret nm p l e R s m args below meth c T' (ms' ++ ms) (k + rm'.cells) (n + rm'.slots) h' → Q' v h' ms' → own_Go Z EL n0 p e below s K N Q (T'.setTop (mkF m pc' Ls (v.toList ++ rest)))) :
    own_Go Z EL n0 p e below s K N Q (T.setTop (mkF m pc Ls st)) := by
  subst hp hst
  obtain ⟨h1, h2, h3, h4, h5, h6, locs, X, eT, hZ, hown, Nf, O, hs0, M⟩ := w
  obtain ⟨cq, kq, qa, qb, qc⟩ := isOf hZ eT E
  obtain ⟨v, _, ⟨T', L', k', n'⟩, -, X', ⟨L, ms', hQ, NL, O', M', hgr, l1, l2, l3⟩, st'⟩ := X.virtualBack h1 (y := y) (z := z) hown (mvT hZ wl) (mvT hZ wd) (hnf _ hZ) (mvT hZ ws) (mvT hZ wt) hy (own_back (vmx := T.vm) (W := W) ct hZ wc wz (fun x hx => M x (hms x hx)) hf hl) qa qc
    (g := mkF m pc Ls (argsL.reverse ++ .ref a :: rest)) rfl (by rw [h3]; exact hsz) (Steps.refl _) (argsL := argsL) (rest := rest) (lenOf hpd hln) rfl (by show 2 * 0 + _ ≤ _; rw [hW]; omega) (h2 ▸ hd) (fun _ _ => ⟨rfl, eT, hc, hn⟩)
  dsimp only [Pt.U, Pt.locs, Pt.cells, Pt.slots] at X' hQ O' M' hgr l1 l2 l3 st'
  subst l1 l2 l3
  refine own_go (fun _ q => st'.trans q) (g T' _ v ms' ⟨h1, h2, h3, h4, h5, h6, locs ++ L, X', rfl, hZ, hown, Nf.app NL, O', Nat.le_trans hs0 hgr, fun x hx => ?_⟩ hQ)
  rcases List.mem_append.mp hx with q | q
  · exact M' x q
  · exact ⟨(M x q).1, Nat.lt_of_lt_of_le (M x q).2 hgr⟩
theorem own_aloadN (w : own_Wk Z EL n0 own bytes maxL ret nm p l e R s m args below meth c T ms k n h) {kk : Fin 4} {v : Value} (hd : decode bytes pc = .ok (.aload_n kk, 1)) (hl : Ls[kk.val]? = some (.val v)) (hv : v.isRef = true) (hp : pc + 1 = pc') (g : own_Go Z EL n0 p e below s K N Q (T.setTop (mkF m pc' Ls (v :: st)))) : own_Go Z EL n0 p e below s K N Q (T.setTop (mkF m pc Ls st)) := by
  subst hp; exact own_go (fun _ q => XS.aloadN (own_here w) w.1 rfl (own_dec w hd) hl hv q) g
theorem own_aload (w : own_Wk Z EL n0 own bytes maxL ret nm p l e R s m args below meth c T ms k n h) {kk : Nat} {v : Value} (hd : decode bytes pc = .ok (.aload kk, 2)) (hl : Ls[kk]? = some (.val v)) (hv : v.isRef = true) (hp : pc + 2 = pc') (g : own_Go Z EL n0 p e below s K N Q (T.setTop (mkF m pc' Ls (v :: st)))) : own_Go Z EL n0 p e below s K N Q (T.setTop (mkF m pc Ls st)) := by
  subst hp; exact own_go (fun _ q => XS.aload (own_here w) w.1 rfl (own_dec w hd) hl hv q) g
theorem own_iloadN (w : own_Wk Z EL n0 own bytes maxL ret nm p l e R s m args below meth c T ms k n h) {kk : Fin 4} {v : Int32} (hd : decode bytes pc = .ok (.iload_n kk, 1)) (hl : Ls[kk.val]? = some (.val (.int v))) (hp : pc + 1 = pc') (g : own_Go Z EL n0 p e below s K N Q (T.setTop (mkF m pc' Ls (.int v :: st)))) : own_Go Z EL n0 p e below s K N Q (T.setTop (mkF m pc Ls st)) := by
  subst hp; exact own_go (fun _ q => XS.iloadN (own_here w) w.1 rfl (own_dec w hd) hl q) g
theorem own_iload (w : own_Wk Z EL n0 own bytes maxL ret nm p l e R s m args below meth c T ms k n h) {kk : Nat} {v : Int32} (hd : decode bytes pc = .ok (.iload kk, 2)) (hl : Ls[kk]? = some (.val (.int v))) (hp : pc + 2 = pc') (g : own_Go Z EL n0 p e below s K N Q (T.setTop (mkF m pc' Ls (.int v :: st)))) : own_Go Z EL n0 p e below s K N Q (T.setTop (mkF m pc Ls st)) := by
  subst hp; exact own_go (fun _ q => XS.iload (own_here w) w.1 rfl (own_dec w hd) hl q) g
theorem own_istoreN (w : own_Wk Z EL n0 own bytes maxL ret nm p l e R s m args below meth c T ms k n h) {kk : Fin 4} {x : Int32} (hd : decode bytes pc = .ok (.istore_n kk, 1)) (hl : storeLocals Ls kk.val (.int x) = some Ls') (hp : pc + 1 = pc') (g : own_Go Z EL n0 p e below s K N Q (T.setTop (mkF m pc' Ls' st))) : own_Go Z EL n0 p e below s K N Q (T.setTop (mkF m pc Ls (.int x :: st))) := by
  subst hp; exact own_go (fun _ q => XS.istoreN (own_here w) w.1 rfl (own_dec w hd) rfl hl q) g
theorem own_istore (w : own_Wk Z EL n0 own bytes maxL ret nm p l e R s m args below meth c T ms k n h) {kk : Nat} {x : Int32} (hd : decode bytes pc = .ok (.istore kk, 2)) (hl : storeLocals Ls kk (.int x) = some Ls') (hp : pc + 2 = pc') (g : own_Go Z EL n0 p e below s K N Q (T.setTop (mkF m pc' Ls' st))) : own_Go Z EL n0 p e below s K N Q (T.setTop (mkF m pc Ls (.int x :: st))) := by
  subst hp; exact own_go (fun _ q => XS.istore (own_here w) w.1 rfl (own_dec w hd) rfl hl q) g
theorem own_lloadN (w : own_Wk Z EL n0 own bytes maxL ret nm p l e R s m args below meth c T ms k n h) {kk : Fin 4} {v : Int64} (hd : decode bytes pc = .ok (.lload_n kk, 1)) (hl : Ls[kk.val]? = some (.val (.long v))) (hp : pc + 1 = pc') (g : own_Go Z EL n0 p e below s K N Q (T.setTop (mkF m pc' Ls (.long v :: st)))) : own_Go Z EL n0 p e below s K N Q (T.setTop (mkF m pc Ls st)) := by
  subst hp; exact own_go (fun _ q => XT.lloadN (own_here w) w.1 rfl (own_dec w hd) hl q) g
theorem own_lload (w : own_Wk Z EL n0 own bytes maxL ret nm p l e R s m args below meth c T ms k n h) {kk : Nat} {v : Int64} (hd : decode bytes pc = .ok (.lload kk, 2)) (hl : Ls[kk]? = some (.val (.long v))) (hp : pc + 2 = pc') (g : own_Go Z EL n0 p e below s K N Q (T.setTop (mkF m pc' Ls (.long v :: st)))) : own_Go Z EL n0 p e below s K N Q (T.setTop (mkF m pc Ls st)) := by
  subst hp; exact own_go (fun _ q => XT.lload (own_here w) w.1 rfl (own_dec w hd) hl q) g
theorem own_lstoreN (w : own_Wk Z EL n0 own bytes maxL ret nm p l e R s m args below meth c T ms k n h) {kk : Fin 4} {x : Int64} (hd : decode bytes pc = .ok (.lstore_n kk, 1)) (hl : storeLocals Ls kk.val (.long x) = some Ls') (hp : pc + 1 = pc') (g : own_Go Z EL n0 p e below s K N Q (T.setTop (mkF m pc' Ls' st))) : own_Go Z EL n0 p e below s K N Q (T.setTop (mkF m pc Ls (.long x :: st))) := by
  subst hp; exact own_go (fun _ q => XT.lstoreN (own_here w) w.1 rfl (own_dec w hd) rfl hl q) g
theorem own_lstore (w : own_Wk Z EL n0 own bytes maxL ret nm p l e R s m args below meth c T ms k n h) {kk : Nat} {x : Int64} (hd : decode bytes pc = .ok (.lstore kk, 2)) (hl : storeLocals Ls kk (.long x) = some Ls') (hp : pc + 2 = pc') (g : own_Go Z EL n0 p e below s K N Q (T.setTop (mkF m pc' Ls' st))) : own_Go Z EL n0 p e below s K N Q (T.setTop (mkF m pc Ls (.long x :: st))) := by
  subst hp; exact own_go (fun _ q => XT.lstore (own_here w) w.1 rfl (own_dec w hd) rfl hl q) g
theorem own_astoreN (w : own_Wk Z EL n0 own bytes maxL ret nm p l e R s m args below meth c T ms k n h) {kk : Fin 4} {x : Value} (hd : decode bytes pc = .ok (.astore_n kk, 1)) (hv : x.isRef = true) (hl : storeLocals Ls kk.val x = some Ls') (hp : pc + 1 = pc') (g : own_Go Z EL n0 p e below s K N Q (T.setTop (mkF m pc' Ls' st))) : own_Go Z EL n0 p e below s K N Q (T.setTop (mkF m pc Ls (x :: st))) := by
  subst hp; exact own_go (fun _ q => XS.astoreN (own_here w) w.1 rfl (own_dec w hd) rfl hv hl q) g
theorem own_astore (w : own_Wk Z EL n0 own bytes maxL ret nm p l e R s m args below meth c T ms k n h) {kk : Nat} {x : Value} (hd : decode bytes pc = .ok (.astore kk, 2)) (hv : x.isRef = true) (hl : storeLocals Ls kk x = some Ls') (hp : pc + 2 = pc') (g : own_Go Z EL n0 p e below s K N Q (T.setTop (mkF m pc' Ls' st))) : own_Go Z EL n0 p e below s K N Q (T.setTop (mkF m pc Ls (x :: st))) := by
  subst hp; exact own_go (fun _ q => XS.astore (own_here w) w.1 rfl (own_dec w hd) rfl hv hl q) g
theorem own_iconst (w : own_Wk Z EL n0 own bytes maxL ret nm p l e R s m args below meth c T ms k n h) {i : Int} {x : Int32} (hd : decode bytes pc = .ok (.iconst i, 1)) (hi : Int32.ofInt i = x) (hp : pc + 1 = pc') (g : own_Go Z EL n0 p e below s K N Q (T.setTop (mkF m pc' Ls (.int x :: st)))) : own_Go Z EL n0 p e below s K N Q (T.setTop (mkF m pc Ls st)) := by
  subst hp hi; exact own_go (fun _ q => XS.iconst (own_here w) w.1 rfl (own_dec w hd)  q) g
theorem own_bipush (w : own_Wk Z EL n0 own bytes maxL ret nm p l e R s m args below meth c T ms k n h) {i : Int} {x : Int32} (hd : decode bytes pc = .ok (.bipush i, 2)) (hi : (Int8.ofInt i).toInt32 = x) (hp : pc + 2 = pc') (g : own_Go Z EL n0 p e below s K N Q (T.setTop (mkF m pc' Ls (.int x :: st)))) : own_Go Z EL n0 p e below s K N Q (T.setTop (mkF m pc Ls st)) := by
  subst hp hi; exact own_go (fun _ q => XS.bipush (own_here w) w.1 rfl (own_dec w hd)  q) g
theorem own_sipush (w : own_Wk Z EL n0 own bytes maxL ret nm p l e R s m args below meth c T ms k n h) {i : Int} {x : Int32} (hd : decode bytes pc = .ok (.sipush i, 3)) (hi : (Int16.ofInt i).toInt32 = x) (hp : pc + 3 = pc') (g : own_Go Z EL n0 p e below s K N Q (T.setTop (mkF m pc' Ls (.int x :: st)))) : own_Go Z EL n0 p e below s K N Q (T.setTop (mkF m pc Ls st)) := by
  subst hp hi; exact own_go (fun _ q => XS.sipush (own_here w) w.1 rfl (own_dec w hd)  q) g
theorem own_lconst (w : own_Wk Z EL n0 own bytes maxL ret nm p l e R s m args below meth c T ms k n h) {i : Fin 2} {x : Int64} (hd : decode bytes pc = .ok (.lconst i, 1)) (hi : Int64.ofNat i = x) (hp : pc + 1 = pc') (g : own_Go Z EL n0 p e below s K N Q (T.setTop (mkF m pc' Ls (.long x :: st)))) : own_Go Z EL n0 p e below s K N Q (T.setTop (mkF m pc Ls st)) := by
  subst hp hi; exact own_go (fun _ q => XT.lconst (own_here w) w.1 rfl (own_dec w hd)  q) g
theorem own_aconstNull (w : own_Wk Z EL n0 own bytes maxL ret nm p l e R s m args below meth c T ms k n h)  (hd : decode bytes pc = .ok (.aconst_null, 1))  (hp : pc + 1 = pc') (g : own_Go Z EL n0 p e below s K N Q (T.setTop (mkF m pc' Ls (.null :: st)))) : own_Go Z EL n0 p e below s K N Q (T.setTop (mkF m pc Ls st)) := by
  subst hp; exact own_go (fun _ q => XS.aconstNull (own_here w) w.1 rfl (own_dec w hd)  q) g
theorem own_iadd (w : own_Wk Z EL n0 own bytes maxL ret nm p l e R s m args below meth c T ms k n h) {x y z : Int32} (hd : decode bytes pc = .ok (.iadd, 1)) (hz : x + y = z) (hp : pc + 1 = pc') (g : own_Go Z EL n0 p e below s K N Q (T.setTop (mkF m pc' Ls (.int z :: st)))) : own_Go Z EL n0 p e below s K N Q (T.setTop (mkF m pc Ls (.int y :: .int x :: st))) := by
  subst hp hz; exact own_go (fun _ q => XS.iadd (own_here w) w.1 rfl (own_dec w hd) rfl q) g
theorem own_isub (w : own_Wk Z EL n0 own bytes maxL ret nm p l e R s m args below meth c T ms k n h) {x y z : Int32} (hd : decode bytes pc = .ok (.isub, 1)) (hz : x - y = z) (hp : pc + 1 = pc') (g : own_Go Z EL n0 p e below s K N Q (T.setTop (mkF m pc' Ls (.int z :: st)))) : own_Go Z EL n0 p e below s K N Q (T.setTop (mkF m pc Ls (.int y :: .int x :: st))) := by
  subst hp hz; exact own_go (fun _ q => XS.isub (own_here w) w.1 rfl (own_dec w hd) rfl q) g
theorem own_imul (w : own_Wk Z EL n0 own bytes maxL ret nm p l e R s m args below meth c T ms k n h) {x y z : Int32} (hd : decode bytes pc = .ok (.imul, 1)) (hz : x * y = z) (hp : pc + 1 = pc') (g : own_Go Z EL n0 p e below s K N Q (T.setTop (mkF m pc' Ls (.int z :: st)))) : own_Go Z EL n0 p e below s K N Q (T.setTop (mkF m pc Ls (.int y :: .int x :: st))) := by
  subst hp hz; exact own_go (fun _ q => XS.imul (own_here w) w.1 rfl (own_dec w hd) rfl q) g
theorem own_iand (w : own_Wk Z EL n0 own bytes maxL ret nm p l e R s m args below meth c T ms k n h) {x y z : Int32} (hd : decode bytes pc = .ok (.iand, 1)) (hz : x &&& y = z) (hp : pc + 1 = pc') (g : own_Go Z EL n0 p e below s K N Q (T.setTop (mkF m pc' Ls (.int z :: st)))) : own_Go Z EL n0 p e below s K N Q (T.setTop (mkF m pc Ls (.int y :: .int x :: st))) := by
  subst hp hz; exact own_go (fun _ q => XS.iand (own_here w) w.1 rfl (own_dec w hd) rfl q) g
theorem own_ior (w : own_Wk Z EL n0 own bytes maxL ret nm p l e R s m args below meth c T ms k n h) {x y z : Int32} (hd : decode bytes pc = .ok (.ior, 1)) (hz : x ||| y = z) (hp : pc + 1 = pc') (g : own_Go Z EL n0 p e below s K N Q (T.setTop (mkF m pc' Ls (.int z :: st)))) : own_Go Z EL n0 p e below s K N Q (T.setTop (mkF m pc Ls (.int y :: .int x :: st))) := by
  subst hp hz; exact own_go (fun _ q => XT.ior (own_here w) w.1 rfl (own_dec w hd) rfl q) g
theorem own_ixor (w : own_Wk Z EL n0 own bytes maxL ret nm p l e R s m args below meth c T ms k n h) {x y z : Int32} (hd : decode bytes pc = .ok (.ixor, 1)) (hz : x ^^^ y = z) (hp : pc + 1 = pc') (g : own_Go Z EL n0 p e below s K N Q (T.setTop (mkF m pc' Ls (.int z :: st)))) : own_Go Z EL n0 p e below s K N Q (T.setTop (mkF m pc Ls (.int y :: .int x :: st))) := by
  subst hp hz; exact own_go (fun _ q => XT.ixor (own_here w) w.1 rfl (own_dec w hd) rfl q) g
theorem own_ishl (w : own_Wk Z EL n0 own bytes maxL ret nm p l e R s m args below meth c T ms k n h) {x y z : Int32} (hd : decode bytes pc = .ok (.ishl, 1)) (hz : x <<< (y &&& 31) = z) (hp : pc + 1 = pc') (g : own_Go Z EL n0 p e below s K N Q (T.setTop (mkF m pc' Ls (.int z :: st)))) : own_Go Z EL n0 p e below s K N Q (T.setTop (mkF m pc Ls (.int y :: .int x :: st))) := by
  subst hp hz; exact own_go (fun _ q => XT.ishl (own_here w) w.1 rfl (own_dec w hd) rfl q) g
theorem own_ishr (w : own_Wk Z EL n0 own bytes maxL ret nm p l e R s m args below meth c T ms k n h) {x y z : Int32} (hd : decode bytes pc = .ok (.ishr, 1)) (hz : x >>> (y &&& 31) = z) (hp : pc + 1 = pc') (g : own_Go Z EL n0 p e below s K N Q (T.setTop (mkF m pc' Ls (.int z :: st)))) : own_Go Z EL n0 p e below s K N Q (T.setTop (mkF m pc Ls (.int y :: .int x :: st))) := by
  subst hp hz; exact own_go (fun _ q => XT.ishr (own_here w) w.1 rfl (own_dec w hd) rfl q) g
theorem own_iushr (w : own_Wk Z EL n0 own bytes maxL ret nm p l e R s m args below meth c T ms k n h) {x y z : Int32} (hd : decode bytes pc = .ok (.iushr, 1)) (hz : XT.ushr x y = z) (hp : pc + 1 = pc') (g : own_Go Z EL n0 p e below s K N Q (T.setTop (mkF m pc' Ls (.int z :: st)))) : own_Go Z EL n0 p e below s K N Q (T.setTop (mkF m pc Ls (.int y :: .int x :: st))) := by
  subst hp hz; exact own_go (fun _ q => XT.iushr (own_here w) w.1 rfl (own_dec w hd) rfl q) g
theorem own_idiv (w : own_Wk Z EL n0 own bytes maxL ret nm p l e R s m args below meth c T ms k n h) {x y z : Int32} (hd : decode bytes pc = .ok (.idiv, 1)) (hy : y ≠ 0) (hz : x / y = z) (hp : pc + 1 = pc') (g : own_Go Z EL n0 p e below s K N Q (T.setTop (mkF m pc' Ls (.int z :: st)))) : own_Go Z EL n0 p e below s K N Q (T.setTop (mkF m pc Ls (.int y :: .int x :: st))) := by
  subst hp hz; exact own_go (fun _ q => XS.idiv (own_here w) w.1 rfl (own_dec w hd) rfl hy q) g
theorem own_irem (w : own_Wk Z EL n0 own bytes maxL ret nm p l e R s m args below meth c T ms k n h) {x y z : Int32} (hd : decode bytes pc = .ok (.irem, 1)) (hy : y ≠ 0) (hz : x - (x / y) * y = z) (hp : pc + 1 = pc') (g : own_Go Z EL n0 p e below s K N Q (T.setTop (mkF m pc' Ls (.int z :: st)))) : own_Go Z EL n0 p e below s K N Q (T.setTop (mkF m pc Ls (.int y :: .int x :: st))) := by
  subst hp hz; exact own_go (fun _ q => XS.irem (own_here w) w.1 rfl (own_dec w hd) rfl hy q) g
theorem own_ineg (w : own_Wk Z EL n0 own bytes maxL ret nm p l e R s m args below meth c T ms k n h) {x z : Int32} (hd : decode bytes pc = .ok (.ineg, 1)) (hz : -x = z) (hp : pc + 1 = pc') (g : own_Go Z EL n0 p e below s K N Q (T.setTop (mkF m pc' Ls (.int z :: st)))) : own_Go Z EL n0 p e below s K N Q (T.setTop (mkF m pc Ls (.int x :: st))) := by
  subst hp hz; exact own_go (fun _ q => XS.ineg (own_here w) w.1 rfl (own_dec w hd) rfl q) g
theorem own_ladd (w : own_Wk Z EL n0 own bytes maxL ret nm p l e R s m args below meth c T ms k n h) {x y z : Int64} (hd : decode bytes pc = .ok (.ladd, 1)) (hz : x + y = z) (hp : pc + 1 = pc') (g : own_Go Z EL n0 p e below s K N Q (T.setTop (mkF m pc' Ls (.long z :: st)))) : own_Go Z EL n0 p e below s K N Q (T.setTop (mkF m pc Ls (.long y :: .long x :: st))) := by
  subst hp hz; exact own_go (fun _ q => XT.ladd (own_here w) w.1 rfl (own_dec w hd) rfl q) g
theorem own_lsub (w : own_Wk Z EL n0 own bytes maxL ret nm p l e R s m args below meth c T ms k n h) {x y z : Int64} (hd : decode bytes pc = .ok (.lsub, 1)) (hz : x - y = z) (hp : pc + 1 = pc') (g : own_Go Z EL n0 p e below s K N Q (T.setTop (mkF m pc' Ls (.long z :: st)))) : own_Go Z EL n0 p e below s K N Q (T.setTop (mkF m pc Ls (.long y :: .long x :: st))) := by
  subst hp hz; exact own_go (fun _ q => XT.lsub (own_here w) w.1 rfl (own_dec w hd) rfl q) g
theorem own_lmul (w : own_Wk Z EL n0 own bytes maxL ret nm p l e R s m args below meth c T ms k n h) {x y z : Int64} (hd : decode bytes pc = .ok (.lmul, 1)) (hz : x * y = z) (hp : pc + 1 = pc') (g : own_Go Z EL n0 p e below s K N Q (T.setTop (mkF m pc' Ls (.long z :: st)))) : own_Go Z EL n0 p e below s K N Q (T.setTop (mkF m pc Ls (.long y :: .long x :: st))) := by
  subst hp hz; exact own_go (fun _ q => XT.lmul (own_here w) w.1 rfl (own_dec w hd) rfl q) g
theorem own_land (w : own_Wk Z EL n0 own bytes maxL ret nm p l e R s m args below meth c T ms k n h) {x y z : Int64} (hd : decode bytes pc = .ok (.land, 1)) (hz : x &&& y = z) (hp : pc + 1 = pc') (g : own_Go Z EL n0 p e below s K N Q (T.setTop (mkF m pc' Ls (.long z :: st)))) : own_Go Z EL n0 p e below s K N Q (T.setTop (mkF m pc Ls (.long y :: .long x :: st))) := by
  subst hp hz; exact own_go (fun _ q => XT.land (own_here w) w.1 rfl (own_dec w hd) rfl q) g
theorem own_lor (w : own_Wk Z EL n0 own bytes maxL ret nm p l e R s m args below meth c T ms k n h) {x y z : Int64} (hd : decode bytes pc = .ok (.lor, 1)) (hz : x ||| y = z) (hp : pc + 1 = pc') (g : own_Go Z EL n0 p e below s K N Q (T.setTop (mkF m pc' Ls (.long z :: st)))) : own_Go Z EL n0 p e below s K N Q (T.setTop (mkF m pc Ls (.long y :: .long x :: st))) := by
  subst hp hz; exact own_go (fun _ q => XT.lor (own_here w) w.1 rfl (own_dec w hd) rfl q) g
theorem own_lxor (w : own_Wk Z EL n0 own bytes maxL ret nm p l e R s m args below meth c T ms k n h) {x y z : Int64} (hd : decode bytes pc = .ok (.lxor, 1)) (hz : x ^^^ y = z) (hp : pc + 1 = pc') (g : own_Go Z EL n0 p e below s K N Q (T.setTop (mkF m pc' Ls (.long z :: st)))) : own_Go Z EL n0 p e below s K N Q (T.setTop (mkF m pc Ls (.long y :: .long x :: st))) := by
  subst hp hz; exact own_go (fun _ q => XT.lxor (own_here w) w.1 rfl (own_dec w hd) rfl q) g
theorem own_lshl (w : own_Wk Z EL n0 own bytes maxL ret nm p l e R s m args below meth c T ms k n h) {x z : Int64} {y : Int32} (hd : decode bytes pc = .ok (.lshl, 1)) (hz : x <<< (y.toInt64 &&& 63) = z) (hp : pc + 1 = pc') (g : own_Go Z EL n0 p e below s K N Q (T.setTop (mkF m pc' Ls (.long z :: st)))) : own_Go Z EL n0 p e below s K N Q (T.setTop (mkF m pc Ls (.int y :: .long x :: st))) := by
  subst hp hz; exact own_go (fun _ q => XT.lshl (own_here w) w.1 rfl (own_dec w hd) rfl q) g
theorem own_lshr (w : own_Wk Z EL n0 own bytes maxL ret nm p l e R s m args below meth c T ms k n h) {x z : Int64} {y : Int32} (hd : decode bytes pc = .ok (.lshr, 1)) (hz : x >>> (y.toInt64 &&& 63) = z) (hp : pc + 1 = pc') (g : own_Go Z EL n0 p e below s K N Q (T.setTop (mkF m pc' Ls (.long z :: st)))) : own_Go Z EL n0 p e below s K N Q (T.setTop (mkF m pc Ls (.int y :: .long x :: st))) := by
  subst hp hz; exact own_go (fun _ q => XT.lshr (own_here w) w.1 rfl (own_dec w hd) rfl q) g
theorem own_lushr (w : own_Wk Z EL n0 own bytes maxL ret nm p l e R s m args below meth c T ms k n h) {x z : Int64} {y : Int32} (hd : decode bytes pc = .ok (.lushr, 1)) (hz : XT.ushrL x y = z) (hp : pc + 1 = pc') (g : own_Go Z EL n0 p e below s K N Q (T.setTop (mkF m pc' Ls (.long z :: st)))) : own_Go Z EL n0 p e below s K N Q (T.setTop (mkF m pc Ls (.int y :: .long x :: st))) := by
  subst hp hz; exact own_go (fun _ q => XT.lushr (own_here w) w.1 rfl (own_dec w hd) rfl q) g
theorem own_lneg (w : own_Wk Z EL n0 own bytes maxL ret nm p l e R s m args below meth c T ms k n h) {x z : Int64} (hd : decode bytes pc = .ok (.lneg, 1)) (hz : -x = z) (hp : pc + 1 = pc') (g : own_Go Z EL n0 p e below s K N Q (T.setTop (mkF m pc' Ls (.long z :: st)))) : own_Go Z EL n0 p e below s K N Q (T.setTop (mkF m pc Ls (.long x :: st))) := by
  subst hp hz; exact own_go (fun _ q => XT.lneg (own_here w) w.1 rfl (own_dec w hd) rfl q) g
theorem own_lcmp (w : own_Wk Z EL n0 own bytes maxL ret nm p l e R s m args below meth c T ms k n h) {x y : Int64} {z : Int32} (hd : decode bytes pc = .ok (.lcmp, 1)) (hz : XT.cmpL x y = z) (hp : pc + 1 = pc') (g : own_Go Z EL n0 p e below s K N Q (T.setTop (mkF m pc' Ls (.int z :: st)))) : own_Go Z EL n0 p e below s K N Q (T.setTop (mkF m pc Ls (.long y :: .long x :: st))) := by
  subst hp hz; exact own_go (fun _ q => XT.lcmp (own_here w) w.1 rfl (own_dec w hd) rfl q) g
theorem own_i2l (w : own_Wk Z EL n0 own bytes maxL ret nm p l e R s m args below meth c T ms k n h) {x : Int32} {z : Int64} (hd : decode bytes pc = .ok (.i2l, 1)) (hz : x.toInt64 = z) (hp : pc + 1 = pc') (g : own_Go Z EL n0 p e below s K N Q (T.setTop (mkF m pc' Ls (.long z :: st)))) : own_Go Z EL n0 p e below s K N Q (T.setTop (mkF m pc Ls (.int x :: st))) := by
  subst hp hz; exact own_go (fun _ q => XT.i2l (own_here w) w.1 rfl (own_dec w hd) rfl q) g
theorem own_l2i (w : own_Wk Z EL n0 own bytes maxL ret nm p l e R s m args below meth c T ms k n h) {x : Int64} {z : Int32} (hd : decode bytes pc = .ok (.l2i, 1)) (hz : x.toInt32 = z) (hp : pc + 1 = pc') (g : own_Go Z EL n0 p e below s K N Q (T.setTop (mkF m pc' Ls (.int z :: st)))) : own_Go Z EL n0 p e below s K N Q (T.setTop (mkF m pc Ls (.long x :: st))) := by
  subst hp hz; exact own_go (fun _ q => XT.l2i (own_here w) w.1 rfl (own_dec w hd) rfl q) g
theorem own_i2b (w : own_Wk Z EL n0 own bytes maxL ret nm p l e R s m args below meth c T ms k n h) {x z : Int32} (hd : decode bytes pc = .ok (.i2b, 1)) (hz : x.toInt8.toInt32 = z) (hp : pc + 1 = pc') (g : own_Go Z EL n0 p e below s K N Q (T.setTop (mkF m pc' Ls (.int z :: st)))) : own_Go Z EL n0 p e below s K N Q (T.setTop (mkF m pc Ls (.int x :: st))) := by
  subst hp hz; exact own_go (fun _ q => XT.i2b (own_here w) w.1 rfl (own_dec w hd) rfl q) g
theorem own_i2c (w : own_Wk Z EL n0 own bytes maxL ret nm p l e R s m args below meth c T ms k n h) {x z : Int32} (hd : decode bytes pc = .ok (.i2c, 1)) (hz : x.toUInt32.toUInt16.toUInt32.toInt32 = z) (hp : pc + 1 = pc') (g : own_Go Z EL n0 p e below s K N Q (T.setTop (mkF m pc' Ls (.int z :: st)))) : own_Go Z EL n0 p e below s K N Q (T.setTop (mkF m pc Ls (.int x :: st))) := by
  subst hp hz; exact own_go (fun _ q => XT.i2c (own_here w) w.1 rfl (own_dec w hd) rfl q) g
theorem own_i2s (w : own_Wk Z EL n0 own bytes maxL ret nm p l e R s m args below meth c T ms k n h) {x z : Int32} (hd : decode bytes pc = .ok (.i2s, 1)) (hz : x.toInt16.toInt32 = z) (hp : pc + 1 = pc') (g : own_Go Z EL n0 p e below s K N Q (T.setTop (mkF m pc' Ls (.int z :: st)))) : own_Go Z EL n0 p e below s K N Q (T.setTop (mkF m pc Ls (.int x :: st))) := by
  subst hp hz; exact own_go (fun _ q => XT.i2s (own_here w) w.1 rfl (own_dec w hd) rfl q) g
theorem own_dup (w : own_Wk Z EL n0 own bytes maxL ret nm p l e R s m args below meth c T ms k n h) {x : Value} (hd : decode bytes pc = .ok (.dup, 1)) (hc : x.category = 1) (hp : pc + 1 = pc') (g : own_Go Z EL n0 p e below s K N Q (T.setTop (mkF m pc' Ls (x :: x :: st)))) : own_Go Z EL n0 p e below s K N Q (T.setTop (mkF m pc Ls (x :: st))) := by
  subst hp; exact own_go (fun _ q => XS.dup (own_here w) w.1 rfl (own_dec w hd) rfl hc q) g
theorem own_dupX1 (w : own_Wk Z EL n0 own bytes maxL ret nm p l e R s m args below meth c T ms k n h) {x y : Value} (hd : decode bytes pc = .ok (.dup_x1, 1)) (hc : x.category = 1) (hc' : y.category = 1) (hp : pc + 1 = pc') (g : own_Go Z EL n0 p e below s K N Q (T.setTop (mkF m pc' Ls (x :: y :: x :: st)))) : own_Go Z EL n0 p e below s K N Q (T.setTop (mkF m pc Ls (x :: y :: st))) := by
  subst hp; exact own_go (fun _ q => XT.dupX1 (own_here w) w.1 rfl (own_dec w hd) rfl hc hc' q) g
theorem own_dup2 (w : own_Wk Z EL n0 own bytes maxL ret nm p l e R s m args below meth c T ms k n h) {x y : Value} (hd : decode bytes pc = .ok (.dup2, 1)) (hc : x.category = 1) (hc' : y.category = 1) (hp : pc + 1 = pc') (g : own_Go Z EL n0 p e below s K N Q (T.setTop (mkF m pc' Ls (x :: y :: x :: y :: st)))) : own_Go Z EL n0 p e below s K N Q (T.setTop (mkF m pc Ls (x :: y :: st))) := by
  subst hp; exact own_go (fun _ q => XT.dup2 (own_here w) w.1 rfl (own_dec w hd) rfl hc hc' q) g
theorem own_dup2L (w : own_Wk Z EL n0 own bytes maxL ret nm p l e R s m args below meth c T ms k n h) {x : Int64} (hd : decode bytes pc = .ok (.dup2, 1))  (hp : pc + 1 = pc') (g : own_Go Z EL n0 p e below s K N Q (T.setTop (mkF m pc' Ls (.long x :: .long x :: st)))) : own_Go Z EL n0 p e below s K N Q (T.setTop (mkF m pc Ls (.long x :: st))) := by
  subst hp; exact own_go (fun _ q => XT.dup2L (own_here w) w.1 rfl (own_dec w hd) rfl q) g
theorem own_pop (w : own_Wk Z EL n0 own bytes maxL ret nm p l e R s m args below meth c T ms k n h) {x : Value} (hd : decode bytes pc = .ok (.pop, 1)) (hc : x.category = 1) (hp : pc + 1 = pc') (g : own_Go Z EL n0 p e below s K N Q (T.setTop (mkF m pc' Ls st))) : own_Go Z EL n0 p e below s K N Q (T.setTop (mkF m pc Ls (x :: st))) := by
  subst hp; exact own_go (fun _ q => XT.pop (own_here w) w.1 rfl (own_dec w hd) rfl hc q) g
theorem own_iinc (w : own_Wk Z EL n0 own bytes maxL ret nm p l e R s m args below meth c T ms k n h) {kk : Nat} {cst : Int} {x y : Int32} (hd : decode bytes pc = .ok (.iinc kk cst, 3)) (hl : Ls[kk]? = some (.val (.int x))) (hy : x + Int32.ofInt cst = y) (hl' : storeLocals Ls kk (.int y) = some Ls') (hp : pc + 3 = pc') (g : own_Go Z EL n0 p e below s K N Q (T.setTop (mkF m pc' Ls' st))) : own_Go Z EL n0 p e below s K N Q (T.setTop (mkF m pc Ls st)) := by
  subst hp hy; exact own_go (fun _ q => XS.iinc (own_here w) w.1 rfl (own_dec w hd) hl hl' q) g
theorem own_goto (w : own_Wk Z EL n0 own bytes maxL ret nm p l e R s m args below meth c T ms k n h) {o : Int} (hd : decode bytes pc = .ok (.goto o, 3)) (ho : 0 ≤ (pc : Int) + o) (hp : ((pc : Int) + o).toNat = pc') (g : own_Go Z EL n0 p e below s K N Q (T.setTop (mkF m pc' Ls st))) : own_Go Z EL n0 p e below s K N Q (T.setTop (mkF m pc Ls st)) := own_go (fun _ q => XS.goto (own_here w) w.1 rfl (pc0 := pc) rfl (own_dec w hd) ho hp q) g
def own_cT (cd : ClassFile.Cond) (x y : Int32) : Prop := match cd with | .eq => x = y | .ne => ¬ x = y | .lt => x < y | .ge => ¬ x < y | .gt => y < x | .le => ¬ y < x
def own_cF (cd : ClassFile.Cond) (x y : Int32) : Prop := match cd with | .eq => ¬ x = y | .ne => x = y | .lt => ¬ x < y | .ge => x < y | .gt => ¬ y < x | .le => y < x
theorem own_cond (cd : ClassFile.Cond) (x y : Int32) : (own_cT cd x y ∧ if_icmp.holds cd x y = true) ∨ (own_cF cd x y ∧ if_icmp.holds cd x y = false) := by
  cases cd
  · by_cases q : x = y
    · exact Or.inl ⟨q, (teq q).1⟩
    · exact Or.inr ⟨q, (feq q).1⟩
  · by_cases q : x = y
    · exact Or.inr ⟨q, (teq q).2⟩
    · exact Or.inl ⟨q, (feq q).2⟩
  · by_cases q : x < y
    · exact Or.inl ⟨q, (tlt q).1⟩
    · exact Or.inr ⟨q, (flt q).1⟩
  · by_cases q : x < y
    · exact Or.inr ⟨q, (tlt q).2.1⟩
    · exact Or.inl ⟨q, (flt q).2.1⟩
  · by_cases q : y < x
    · exact Or.inl ⟨q, (tlt q).2.2.1⟩
    · exact Or.inr ⟨q, (flt q).2.2.1⟩
  · by_cases q : y < x
    · exact Or.inr ⟨q, (tlt q).2.2.2⟩
    · exact Or.inl ⟨q, (flt q).2.2.2⟩
theorem own_icmp (w : own_Wk Z EL n0 own bytes maxL ret nm p l e R s m args below meth c T ms k n h) {cd : ClassFile.Cond} {x y : Int32} {o : Int} {pcY : Nat} (hd : decode bytes pc = .ok (.if_icmp cd o, 3)) (hp : pc + 3 = pc') (ho : 0 ≤ (pc : Int) + o) (hq : ((pc : Int) + o).toNat = pcY) (gT : own_cT cd x y → own_Go Z EL n0 p e below s K N Q (T.setTop (mkF m pcY Ls st))) (gF : own_cF cd x y → own_Go Z EL n0 p e below s K N Q (T.setTop (mkF m pc' Ls st))) : own_Go Z EL n0 p e below s K N Q (T.setTop (mkF m pc Ls (.int y :: .int x :: st))) := by
  subst hp
  rcases own_cond cd x y with ⟨q, r⟩ | ⟨q, r⟩
  · exact own_go (fun _ z => XS.icmpYes (own_here w) w.1 rfl (pc0 := pc) rfl (own_dec w hd) rfl r ho hq z) (gT q)
  · exact own_go (fun _ z => XS.icmpNo (own_here w) w.1 rfl (own_dec w hd) rfl r z) (gF q)
theorem own_if (w : own_Wk Z EL n0 own bytes maxL ret nm p l e R s m args below meth c T ms k n h) {cd : ClassFile.Cond} {x : Int32} {o : Int} {pcY : Nat} (hd : decode bytes pc = .ok (.ifCond cd o, 3)) (hp : pc + 3 = pc') (ho : 0 ≤ (pc : Int) + o) (hq : ((pc : Int) + o).toNat = pcY) (gT : own_cT cd x 0 → own_Go Z EL n0 p e below s K N Q (T.setTop (mkF m pcY Ls st))) (gF : own_cF cd x 0 → own_Go Z EL n0 p e below s K N Q (T.setTop (mkF m pc' Ls st))) : own_Go Z EL n0 p e below s K N Q (T.setTop (mkF m pc Ls (.int x :: st))) := by
  subst hp
  rcases own_cond cd x 0 with ⟨q, r⟩ | ⟨q, r⟩
  · exact own_go (fun _ z => XS.ifYes (own_here w) w.1 rfl (pc0 := pc) rfl (own_dec w hd) rfl ((if0 cd x).trans r) ho hq z) (gT q)
  · exact own_go (fun _ z => XS.ifNo (own_here w) w.1 rfl (own_dec w hd) rfl ((if0 cd x).trans r) z) (gF q)
theorem own_ifnullY (w : own_Wk Z EL n0 own bytes maxL ret nm p l e R s m args below meth c T ms k n h) {o : Int} (hd : decode bytes pc = .ok (.ifnull o, 3)) (ho : 0 ≤ (pc : Int) + o) (hp : ((pc : Int) + o).toNat = pc') (g : own_Go Z EL n0 p e below s K N Q (T.setTop (mkF m pc' Ls st))) : own_Go Z EL n0 p e below s K N Q (T.setTop (mkF m pc Ls (.null :: st))) := own_go (fun _ q => XS.ifnullYes (own_here w) w.1 rfl (pc0 := pc) rfl (own_dec w hd) rfl ho hp q) g
theorem own_ifnullN (w : own_Wk Z EL n0 own bytes maxL ret nm p l e R s m args below meth c T ms k n h) {o : Int} (hd : decode bytes pc = .ok (.ifnull o, 3)) (hp : pc + 3 = pc') (g : own_Go Z EL n0 p e below s K N Q (T.setTop (mkF m pc' Ls st))) : own_Go Z EL n0 p e below s K N Q (T.setTop (mkF m pc Ls (.ref a :: st))) := by
  subst hp; exact own_go (fun _ q => XS.ifnullNo (own_here w) w.1 rfl (own_dec w hd) rfl q) g
theorem own_ifnonnullY (w : own_Wk Z EL n0 own bytes maxL ret nm p l e R s m args below meth c T ms k n h) {o : Int} (hd : decode bytes pc = .ok (.ifnonnull o, 3)) (ho : 0 ≤ (pc : Int) + o) (hp : ((pc : Int) + o).toNat = pc') (g : own_Go Z EL n0 p e below s K N Q (T.setTop (mkF m pc' Ls st))) : own_Go Z EL n0 p e below s K N Q (T.setTop (mkF m pc Ls (.ref a :: st))) := own_go (fun _ q => XT.ifnonnullYes (own_here w) w.1 rfl (pc0 := pc) rfl (own_dec w hd) rfl ho hp q) g
theorem own_ifnonnullN (w : own_Wk Z EL n0 own bytes maxL ret nm p l e R s m args below meth c T ms k n h) {o : Int} (hd : decode bytes pc = .ok (.ifnonnull o, 3)) (hp : pc + 3 = pc') (g : own_Go Z EL n0 p e below s K N Q (T.setTop (mkF m pc' Ls st))) : own_Go Z EL n0 p e below s K N Q (T.setTop (mkF m pc Ls (.null :: st))) := by
  subst hp; exact own_go (fun _ q => XT.ifnonnullNo (own_here w) w.1 rfl (own_dec w hd) rfl q) g
theorem own_same (w : own_Wk Z EL n0 own bytes maxL ret nm p l e R s m args below meth c T ms k n h) {F F' : JFrame} (f : ∀ (s' : State) (locs : List Loc), Stand p l e R s' m args below meth c T locs k n → T.heap = h → Z.Warmed39 s'.vm → s'.vm.findClass own = some m.cls → ∃ T' : State, Stand p l e R s' m args below meth c T' locs k n ∧ T'.heap = h ∧ ∀ t, Steps p.tables e below (T'.setTop F') t → Steps p.tables e below (T.setTop F) t)
    (g : ∀ T' : State, own_Wk Z EL n0 own bytes maxL ret nm p l e R s m args below meth c T' ms k n h → own_Go Z EL n0 p e below s K N Q (T'.setTop F')) : own_Go Z EL n0 p e below s K N Q (T.setTop F) := by
  refine own_core w (k' := k) (n' := n) (ws := []) (P := fun h' new F'' => h' = h ∧ new = [] ∧ F'' = F') all0 (fun s' locs X eT hZ hown => ?_) (fun T' h' new F'' w' _ q => ?_)
  · obtain ⟨T', X', e', st'⟩ := f s' locs X eT hZ hown
    exact ⟨T', h, [], [], _, by rw [List.append_nil]; exact X', e', Keep.refl _ _, Fr.nil _, all0, ⟨rfl, rfl, rfl⟩, st'⟩
  · obtain ⟨rfl, rfl, rfl⟩ := q; exact g T' w'
theorem own_write (w : own_Wk Z EL n0 own bytes maxL ret nm p l e R s m args below meth c T ms k n h) {F F' : JFrame} {sl : Nat} {v : Value} (hm : a ∈ ms) (f : ∀ (s' : State) (locs : List Loc), Stand p l e R s' m args below meth c T locs k n → T.heap = h → Z.Warmed39 s'.vm → s'.vm.findClass own = some m.cls → ∃ (T' : State) (h' : Heap), Stand p l e R s' m args below meth c T' (locs ++ [⟨a, sl⟩]) k n ∧ T'.heap = h' ∧ Wr h h' a sl v ∧ ∀ t, Steps p.tables e below (T'.setTop F') t → Steps p.tables e below (T.setTop F) t)
    (g : ∀ (T' : State) (h' : Heap), own_Wk Z EL n0 own bytes maxL ret nm p l e R s m args below meth c T' ms k n h' → Wr h h' a sl v → own_Go Z EL n0 p e below s K N Q (T'.setTop F')) : own_Go Z EL n0 p e below s K N Q (T.setTop F) := by
  refine own_core w (k' := k) (n' := n) (ws := [a]) (P := fun h' new F'' => Wr h h' a sl v ∧ new = [] ∧ F'' = F') (allS hm all0) (fun s' locs X eT hZ hown => ?_) (fun T' h' new F'' w' _ q => ?_)
  · obtain ⟨T', h', X', e', W', st'⟩ := f s' locs X eT hZ hown
    exact ⟨T', h', [⟨a, sl⟩], [], _, X', e', Keep.of_wr W', (fun y hy => by cases List.mem_singleton.mp hy; exact (own_mine w a hm).1), all0, ⟨W', rfl, rfl⟩, st'⟩
  · obtain ⟨q, rfl, rfl⟩ := q; exact g T' h' w' q
theorem own_made (w : own_Wk Z EL n0 own bytes maxL ret nm p l e R s m args below meth c T ms k n h) {F : JFrame} {F' : Addr → JFrame} {k' n' : Nat} {P : Addr → Heap → Prop} (f : ∀ (s' : State) (locs : List Loc), Stand p l e R s' m args below meth c T locs k n → T.heap = h → Z.Warmed39 s'.vm → s'.vm.findClass own = some m.cls → ∃ (T' : State) (h' : Heap), Stand p l e R s' m args below meth c T' locs k' n' ∧ T'.heap = h' ∧ Ext h h' ∧ h.size < h'.size ∧ P h.size h' ∧ ∀ t, Steps p.tables e below (T'.setTop (F' h.size)) t → Steps p.tables e below (T.setTop F) t)
    (g : ∀ (T' : State) (h' : Heap) (a : Addr), h.size = a → own_Wk Z EL n0 own bytes maxL ret nm p l e R s m args below meth c T' (a :: ms) k' n' h' → Ext h h' → P a h' → own_Go Z EL n0 p e below s K N Q (T'.setTop (F' a))) : own_Go Z EL n0 p e below s K N Q (T.setTop F) := by
  refine own_core w (k' := k') (n' := n') (ws := []) (P := fun h' new F'' => Ext h h' ∧ P h.size h' ∧ new = [h.size] ∧ F'' = F' h.size) all0 (fun s' locs X eT hZ hown => ?_) (fun T' h' new F'' w' _ q => ?_)
  · obtain ⟨T', h', X', e', E', hlt, hP, st'⟩ := f s' locs X eT hZ hown
    exact ⟨T', h', [], [h.size], _, by rw [List.append_nil]; exact X', e', (Keep.refl _ _).ext E', Fr.nil _, allS ⟨Nat.le_refl _, hlt⟩ all0, ⟨E', hP, rfl, rfl⟩, st'⟩
  · obtain ⟨q1, q2, rfl, rfl⟩ := q; exact g T' h' _ rfl w' q1 q2
theorem own_getF (w : own_Wk Z EL n0 own bytes maxL ret nm p l e R s m args below meth c T ms k n h) {idx : Nat} {R0 O fn fd host : String} {v : Value} (wl : (Jvm.Cond.fieldLink own idx R0 fn fd).before a0 Z = true ∨ (Jvm.Cond.fieldLinkNest own idx R0 fn fd host).before a0 Z = true) (via : Via Z R0 O fn fd) (F : Fld Z h a O fn fd v) (hd : decode bytes pc = .ok (.getfield idx, 3)) (hp : pc + 3 = pc')
    (g : ∀ T' : State, own_Wk Z EL n0 own bytes maxL ret nm p l e R s m args below meth c T' ms k n h → own_Go Z EL n0 p e below s K N Q (T'.setTop (mkF m pc' Ls (v :: st)))) : own_Go Z EL n0 p e below s K N Q (T.setTop (mkF m pc Ls (.ref a :: st))) := by
  subst hp; exact own_same w (fun s' locs X eT hZ hown => getF X w.1 hZ hown wl via eT F (g := mkF m pc Ls (.ref a :: st)) rfl rfl (own_dec w hd)) g
theorem own_getS (w : own_Wk Z EL n0 own bytes maxL ret nm p l e R s m args below meth c T ms k n h) {idx : Nat} {R0 O fn fd host : String} {v : Value} (wl : (Jvm.Cond.fieldLink own idx R0 fn fd).before a0 Z = true ∨ (Jvm.Cond.fieldLinkNest own idx R0 fn fd host).before a0 Z = true) (via : Via Z R0 O fn fd) (F : Sta Z h O fn fd v) (hd : decode bytes pc = .ok (.getstatic idx, 3)) (hp : pc + 3 = pc')
    (g : ∀ T' : State, own_Wk Z EL n0 own bytes maxL ret nm p l e R s m args below meth c T' ms k n h → own_Go Z EL n0 p e below s K N Q (T'.setTop (mkF m pc' Ls (v :: st)))) : own_Go Z EL n0 p e below s K N Q (T.setTop (mkF m pc Ls st)) := by
  subst hp; exact own_same w (fun s' locs X eT hZ hown => getS2 X w.1 hZ hown wl via eT F (g := mkF m pc Ls st) rfl (own_dec w hd)) g
theorem own_putF (w : own_Wk Z EL n0 own bytes maxL ret nm p l e R s m args below meth c T ms k n h) {idx kk : Nat} {R0 O fn fd host C : String} {v ov : Value} {ty : FieldType} (wl : (Jvm.Cond.fieldLink own idx R0 fn fd).before a0 Z = true ∨ (Jvm.Cond.fieldLinkNest own idx R0 fn fd host).before a0 Z = true) (via : Via Z R0 O fn fd) (hm : a ∈ ms) (F : Fld Z h a O fn fd ov) (E : Exa Z h a C) (L : (Jvm.Cond.lays C O fn fd).before a0 Z = true ∨ ((Jvm.Cond.laysFinal C O fn fd).before a0 Z = true ∧ own = O ∧ nm = "<init>")) (wi : (Jvm.Cond.instantiable C kk).before a0 Z = true)
    (hty : parseFieldDescriptor fd = some ty) (hn : narrow ty v = v) (hf : fits ty v = true) (hd : decode bytes pc = .ok (.putfield idx, 3)) (hp : pc + 3 = pc')
    (g : ∀ (T' : State) (h' : Heap), own_Wk Z EL n0 own bytes maxL ret nm p l e R s m args below meth c T' ms k n h' → Wr h h' a (RoadKit.slotOf Z O fn fd) v → own_Go Z EL n0 p e below s K N Q (T'.setTop (mkF m pc' Ls st))) : own_Go Z EL n0 p e below s K N Q (T.setTop (mkF m pc Ls (v :: .ref a :: st))) := by
  subst hp; exact own_write w hm (fun s' locs X eT hZ hown => putF X w.1 hZ hown wl via eT F E (L.imp id fun q => ⟨q.1, q.2.1, w.2.2.2.2.2.1.trans q.2.2⟩) wi hty hn hf (g := mkF m pc Ls (v :: .ref a :: st)) rfl rfl (own_dec w hd)) g
theorem own_newO (w : own_Wk Z EL n0 own bytes maxL ret nm p l e R s m args below meth c T ms k n h) {idx nn : Nat} {C : String} (wl : (Jvm.Cond.classLink own idx C).before a0 Z = true) (wi : (Jvm.Cond.instantiable C nn).before a0 Z = true) (wz : (Jvm.Cond.initialized C).before a0 Z = true) (hd : decode bytes pc = .ok (.new idx, 3)) (hp : pc + 3 = pc') (hc : k + 1 ≤ R.cells) (hl : n + nn ≤ R.slots)
    (g : ∀ (T' : State) (h' : Heap) (a : Addr), h.size = a → own_Wk Z EL n0 own bytes maxL ret nm p l e R s m args below meth c T' (a :: ms) (k + 1) (n + nn) h' → Ext h h' → (Exa Z h' a C ∧ (∀ {O fn fd : String} {ty : FieldType}, Laid Z a0 C O fn fd → parseFieldDescriptor fd = some ty → Fld Z h' a O fn fd (defaultValue ty))) → own_Go Z EL n0 p e below s K N Q (T'.setTop (mkF m pc' Ls (.ref a :: st)))) : own_Go Z EL n0 p e below s K N Q (T.setTop (mkF m pc Ls st)) := by
  subst hp; exact own_made w (F' := fun a => mkF m (pc + 3) Ls (.ref a :: st)) (fun s' locs X eT hZ hown => by
    obtain ⟨T', h', X', e', E', A', D', -, st'⟩ := newO X w.1 hZ hown wl wi wz eT (g := mkF m pc Ls st) rfl (own_dec w hd) hc hl
    exact ⟨T', h', X', e', E', A'.lt, ⟨A', D'⟩, st'⟩) g
theorem own_newP (w : own_Wk Z EL n0 own bytes maxL ret nm p l e R s m args below meth c T ms k n h) {aty : ArrayType} {z : Int32} {cap : Nat} {vs : List Value} {dv : Value} (wl : (Jvm.Cond.arrayClass (newarray.typeOf aty)).before a0 Z = true) (hd : decode bytes pc = .ok (.newarray aty, 2)) (hp : pc + 2 = pc') (hz : ¬ z < 0) (hcap : z.toNatClampNeg ≤ cap) (hb : cap * 8 ≤ 536870912) (hdv : defaultValue (newarray.typeOf aty) = dv) (hvs : ∀ i, vs.getD i dv = dv) (hc : k + 1 ≤ R.cells) (hl : n + cap ≤ R.slots)
    (g : ∀ (T' : State) (h' : Heap) (a : Addr), h.size = a → own_Wk Z EL n0 own bytes maxL ret nm p l e R s m args below meth c T' (a :: ms) (k + 1) (n + cap) h' → Ext h h' → (∃ kA, Arv Z h' a kA (newarray.typeOf aty) z vs dv) → own_Go Z EL n0 p e below s K N Q (T'.setTop (mkF m pc' Ls (.ref a :: st)))) : own_Go Z EL n0 p e below s K N Q (T.setTop (mkF m pc Ls (.int z :: st))) := by
  subst hp hdv; exact own_made w (F' := fun a => mkF m (pc + 2) Ls (.ref a :: st)) (fun s' locs X eT hZ hown => by
    obtain ⟨T', h', cA, X', e', E', A', st'⟩ := newP X w.1 hZ wl eT (g := mkF m pc Ls (.int z :: st)) rfl (own_dec w hd) rfl hz hcap hb hc hl
    exact ⟨T', h', X', e', E', A'.lt, ⟨cA, (Arv.new A' hz).pad fun i => by rw [hvs]; rfl⟩, st'⟩) g
theorem own_stC (w : own_Wk Z EL n0 own bytes maxL ret nm p l e R s m args below meth c T ms k n h) {j : Int32} {x : Int32} {z : Int32} {kA : ClassId} {vs vs' : List Value} {dv xv : Value} {i : Nat} (hm : a ∈ ms) (A : Arv Z h a kA .char z vs dv) (hj : ¬ j < 0 ∧ j < z) (hi : j.toNatClampNeg = i) (hil : i < vs.length) (hxv : (.int (nar .char x)) = xv) (hfv : fits .char xv = true) (hvs : vs.set i xv = vs') (hd : decode bytes pc = .ok (.castore, 1)) (hp : pc + 1 = pc')
    (g : ∀ (T' : State) (h' : Heap), own_Wk Z EL n0 own bytes maxL ret nm p l e R s m args below meth c T' ms k n h' → Wr h h' a j.toNatClampNeg xv → Arv Z h' a kA .char z vs' dv → own_Go Z EL n0 p e below s K N Q (T'.setTop (mkF m pc' Ls st))) : own_Go Z EL n0 p e below s K N Q (T.setTop (mkF m pc Ls (.int x :: .int j :: .ref a :: st))) := by
  subst hp hvs hxv
  obtain ⟨cl, Ar, c1, S, M, H, G⟩ := A
  exact own_write w hm (fun s' locs X eT hZ hown => stC X w.1 hZ eT Ar (inb_of S hj) (g := mkF m pc Ls (.int x :: .int j :: .ref a :: st)) rfl rfl (own_dec w hd)) (fun T' h' w' W => g T' h' w' W (Arv.set Ar c1 S M H G hfv W i hi hil))
theorem own_stB (w : own_Wk Z EL n0 own bytes maxL ret nm p l e R s m args below meth c T ms k n h) {j : Int32} {x : Int32} {z : Int32} {kA : ClassId} {vs vs' : List Value} {dv xv : Value} {i : Nat} (hm : a ∈ ms) (A : Arv Z h a kA .byte z vs dv) (hj : ¬ j < 0 ∧ j < z) (hi : j.toNatClampNeg = i) (hil : i < vs.length) (hxv : (.int x.toInt8.toInt32) = xv) (hfv : fits .byte xv = true) (hvs : vs.set i xv = vs') (hd : decode bytes pc = .ok (.bastore, 1)) (hp : pc + 1 = pc')
    (g : ∀ (T' : State) (h' : Heap), own_Wk Z EL n0 own bytes maxL ret nm p l e R s m args below meth c T' ms k n h' → Wr h h' a j.toNatClampNeg xv → Arv Z h' a kA .byte z vs' dv → own_Go Z EL n0 p e below s K N Q (T'.setTop (mkF m pc' Ls st))) : own_Go Z EL n0 p e below s K N Q (T.setTop (mkF m pc Ls (.int x :: .int j :: .ref a :: st))) := by
  subst hp hvs hxv
  obtain ⟨cl, Ar, c1, S, M, H, G⟩ := A
  exact own_write w hm (fun s' locs X eT hZ hown => stB X w.1 hZ eT Ar (inb_of S hj) (g := mkF m pc Ls (.int x :: .int j :: .ref a :: st)) rfl rfl (own_dec w hd)) (fun T' h' w' W => g T' h' w' W (Arv.set Ar c1 S M H G hfv W i hi hil))
theorem own_stI (w : own_Wk Z EL n0 own bytes maxL ret nm p l e R s m args below meth c T ms k n h) {j : Int32} {x : Int32} {z : Int32} {kA : ClassId} {vs vs' : List Value} {dv xv : Value} {i : Nat} (hm : a ∈ ms) (A : Arv Z h a kA .int z vs dv) (hj : ¬ j < 0 ∧ j < z) (hi : j.toNatClampNeg = i) (hil : i < vs.length) (hxv : (.int x) = xv) (hfv : fits .int xv = true) (hvs : vs.set i xv = vs') (hd : decode bytes pc = .ok (.iastore, 1)) (hp : pc + 1 = pc')
    (g : ∀ (T' : State) (h' : Heap), own_Wk Z EL n0 own bytes maxL ret nm p l e R s m args below meth c T' ms k n h' → Wr h h' a j.toNatClampNeg xv → Arv Z h' a kA .int z vs' dv → own_Go Z EL n0 p e below s K N Q (T'.setTop (mkF m pc' Ls st))) : own_Go Z EL n0 p e below s K N Q (T.setTop (mkF m pc Ls (.int x :: .int j :: .ref a :: st))) := by
  subst hp hvs hxv
  obtain ⟨cl, Ar, c1, S, M, H, G⟩ := A
  exact own_write w hm (fun s' locs X eT hZ hown => stI X w.1 hZ eT Ar (inb_of S hj) (g := mkF m pc Ls (.int x :: .int j :: .ref a :: st)) rfl rfl (own_dec w hd)) (fun T' h' w' W => g T' h' w' W (Arv.set Ar c1 S M H G hfv W i hi hil))
theorem own_stJ (w : own_Wk Z EL n0 own bytes maxL ret nm p l e R s m args below meth c T ms k n h) {j : Int32} {x : Int64} {z : Int32} {kA : ClassId} {vs vs' : List Value} {dv xv : Value} {i : Nat} (hm : a ∈ ms) (A : Arv Z h a kA .long z vs dv) (hj : ¬ j < 0 ∧ j < z) (hi : j.toNatClampNeg = i) (hil : i < vs.length) (hxv : (.long x) = xv) (hfv : fits .long xv = true) (hvs : vs.set i xv = vs') (hd : decode bytes pc = .ok (.lastore, 1)) (hp : pc + 1 = pc')
    (g : ∀ (T' : State) (h' : Heap), own_Wk Z EL n0 own bytes maxL ret nm p l e R s m args below meth c T' ms k n h' → Wr h h' a j.toNatClampNeg xv → Arv Z h' a kA .long z vs' dv → own_Go Z EL n0 p e below s K N Q (T'.setTop (mkF m pc' Ls st))) : own_Go Z EL n0 p e below s K N Q (T.setTop (mkF m pc Ls (.long x :: .int j :: .ref a :: st))) := by
  subst hp hvs hxv
  obtain ⟨cl, Ar, c1, S, M, H, G⟩ := A
  exact own_write w hm (fun s' locs X eT hZ hown => stJ X w.1 hZ eT Ar (inb_of S hj) (g := mkF m pc Ls (.long x :: .int j :: .ref a :: st)) rfl rfl (own_dec w hd)) (fun T' h' w' W => g T' h' w' W (Arv.set Ar c1 S M H G hfv W i hi hil))
theorem own_ldC (w : own_Wk Z EL n0 own bytes maxL ret nm p l e R s m args below meth c T ms k n h) {j : Int32} {v : Value} {z : Int32} {kA : ClassId} {vs : List Value} {dv : Value} (A : Arv Z h a kA .char z vs dv) (hj : ¬ j < 0 ∧ j < z) (hv : vs.getD j.toNatClampNeg dv = v) (hd : decode bytes pc = .ok (.caload, 1)) (hp : pc + 1 = pc') (g : own_Go Z EL n0 p e below s K N Q (T.setTop (mkF m pc' Ls (v :: st)))) : own_Go Z EL n0 p e below s K N Q (T.setTop (mkF m pc Ls (.int j :: .ref a :: st))) := by
  subst hp
  obtain ⟨cl, Ar, c1, S, M, H, G⟩ := A
  exact own_pure w (fun s' locs X eT hZ hown t q => X.caload w.1 (by rw [eT]; exact Ar.1) (State.isArrayOf_alike hZ.alike Ar.2.1) Ar.2.2 (inb_of S hj) (H.at (inb_of S hj) hv) (g := mkF m pc Ls (.int j :: .ref a :: st)) rfl rfl (own_dec w hd) t q) g
theorem own_ldB (w : own_Wk Z EL n0 own bytes maxL ret nm p l e R s m args below meth c T ms k n h) {j : Int32} {v : Value} {z : Int32} {kA : ClassId} {vs : List Value} {dv : Value} (A : Arv Z h a kA .byte z vs dv) (hj : ¬ j < 0 ∧ j < z) (hv : vs.getD j.toNatClampNeg dv = v) (hd : decode bytes pc = .ok (.baload, 1)) (hp : pc + 1 = pc') (g : own_Go Z EL n0 p e below s K N Q (T.setTop (mkF m pc' Ls (v :: st)))) : own_Go Z EL n0 p e below s K N Q (T.setTop (mkF m pc Ls (.int j :: .ref a :: st))) := by
  subst hp
  obtain ⟨cl, Ar, c1, S, M, H, G⟩ := A
  exact own_pure w (fun s' locs X eT hZ hown t q => X.baloadBytes w.1 (by rw [eT]; exact Ar.1) (State.isArrayOf_alike hZ.alike Ar.2.1) Ar.2.2 (inb_of S hj) (H.at (inb_of S hj) hv) (g := mkF m pc Ls (.int j :: .ref a :: st)) rfl rfl (own_dec w hd) t q) g
theorem own_ldI (w : own_Wk Z EL n0 own bytes maxL ret nm p l e R s m args below meth c T ms k n h) {j : Int32} {v : Value} {z : Int32} {kA : ClassId} {vs : List Value} {dv : Value} (A : Arv Z h a kA .int z vs dv) (hj : ¬ j < 0 ∧ j < z) (hv : vs.getD j.toNatClampNeg dv = v) (hd : decode bytes pc = .ok (.iaload, 1)) (hp : pc + 1 = pc') (g : own_Go Z EL n0 p e below s K N Q (T.setTop (mkF m pc' Ls (v :: st)))) : own_Go Z EL n0 p e below s K N Q (T.setTop (mkF m pc Ls (.int j :: .ref a :: st))) := by
  subst hp
  obtain ⟨cl, Ar, c1, S, M, H, G⟩ := A
  exact own_pure w (fun s' locs X eT hZ hown t q => X.iaload w.1 (by rw [eT]; exact Ar.1) (State.isArrayOf_alike hZ.alike Ar.2.1) Ar.2.2 (inb_of S hj) (H.at (inb_of S hj) hv) (g := mkF m pc Ls (.int j :: .ref a :: st)) rfl rfl (own_dec w hd) t q) g
theorem own_ldJ (w : own_Wk Z EL n0 own bytes maxL ret nm p l e R s m args below meth c T ms k n h) {j : Int32} {v : Value} {z : Int32} {kA : ClassId} {vs : List Value} {dv : Value} (A : Arv Z h a kA .long z vs dv) (hj : ¬ j < 0 ∧ j < z) (hv : vs.getD j.toNatClampNeg dv = v) (hd : decode bytes pc = .ok (.laload, 1)) (hp : pc + 1 = pc') (g : own_Go Z EL n0 p e below s K N Q (T.setTop (mkF m pc' Ls (v :: st)))) : own_Go Z EL n0 p e below s K N Q (T.setTop (mkF m pc Ls (.int j :: .ref a :: st))) := by
  subst hp
  obtain ⟨cl, Ar, c1, S, M, H, G⟩ := A
  exact own_pure w (fun s' locs X eT hZ hown t q => X.laload w.1 (by rw [eT]; exact Ar.1) (State.isArrayOf_alike hZ.alike Ar.2.1) Ar.2.2 (inb_of S hj) (H.at (inb_of S hj) hv) (g := mkF m pc Ls (.int j :: .ref a :: st)) rfl rfl (own_dec w hd) t q) g
theorem own_len (w : own_Wk Z EL n0 own bytes maxL ret nm p l e R s m args below meth c T ms k n h) {z : Int32} {kA : ClassId} {ty : FieldType} {vs : List Value} {dv : Value} (A : Arv Z h a kA ty z vs dv) (hd : decode bytes pc = .ok (.arraylength, 1)) (hp : pc + 1 = pc') (g : own_Go Z EL n0 p e below s K N Q (T.setTop (mkF m pc' Ls (.int z :: st)))) : own_Go Z EL n0 p e below s K N Q (T.setTop (mkF m pc Ls (.ref a :: st))) := by
  subst hp
  obtain ⟨cl, Ar, c1, S, M, H, G⟩ := A
  exact own_pure w (fun s' locs X eT hZ hown t q => X.arraylength w.1 (by rw [eT]; exact Ar.1) (State.isArrayOf_alike hZ.alike Ar.2.1) (g := mkF m pc Ls (.ref a :: st)) rfl rfl (own_dec w hd) t (by rw [len_of S M]; exact q)) g
theorem own_ldcI (w : own_Wk Z EL n0 own bytes maxL ret nm p l e R s m args below meth c T ms k n h) {idx : Nat} {x : Int32} (wl : (Jvm.Cond.constant own idx x).before a0 Z = true) (hd : decode bytes pc = .ok (.ldc idx, 2)) (hp : pc + 2 = pc') (g : own_Go Z EL n0 p e below s K N Q (T.setTop (mkF m pc' Ls (.int x :: st)))) : own_Go Z EL n0 p e below s K N Q (T.setTop (mkF m pc Ls st)) := by
  subst hp
  exact own_pure w (fun s' locs X eT hZ hown t q => X.ldcInt w.1 hown (mv hZ wl) (g := mkF m pc Ls st) rfl (own_dec w hd) t q) g
theorem own_ldc2J (w : own_Wk Z EL n0 own bytes maxL ret nm p l e R s m args below meth c T ms k n h) {idx : Nat} {x : Int64} (wl : (Jvm.Cond.constantLong own idx x).before a0 Z = true) (hd : decode bytes pc = .ok (.ldc2_w idx, 3)) (hp : pc + 3 = pc') (g : own_Go Z EL n0 p e below s K N Q (T.setTop (mkF m pc' Ls (.long x :: st)))) : own_Go Z EL n0 p e below s K N Q (T.setTop (mkF m pc Ls st)) := by
  subst hp
  exact own_pure w (fun s' locs X eT hZ hown t q => X.ldc2Long w.1 hown (mv hZ wl) (g := mkF m pc Ls st) rfl (own_dec w hd) t q) g
theorem own_castY (w : own_Wk Z EL n0 own bytes maxL ret nm p l e R s m args below meth c T ms k n h) {idx : Nat} {C : String} (wl : (Jvm.Cond.classLink own idx C).before a0 Z = true) (I : Ins Z h a C true) (hd : decode bytes pc = .ok (.checkcast idx, 3)) (hp : pc + 3 = pc') (g : ∀ T' : State, own_Wk Z EL n0 own bytes maxL ret nm p l e R s m args below meth c T' ms k n h → own_Go Z EL n0 p e below s K N Q (T'.setTop (mkF m pc' Ls (.ref a :: st)))) : own_Go Z EL n0 p e below s K N Q (T.setTop (mkF m pc Ls (.ref a :: st))) := by
  subst hp; exact own_same w (fun s' locs X eT hZ hown => castY X w.1 hZ hown wl eT I (g := mkF m pc Ls (.ref a :: st)) rfl rfl (own_dec w hd)) g
theorem own_instY (w : own_Wk Z EL n0 own bytes maxL ret nm p l e R s m args below meth c T ms k n h) {idx : Nat} {C : String} (wl : (Jvm.Cond.classLink own idx C).before a0 Z = true) (I : Ins Z h a C true) (hd : decode bytes pc = .ok (.instanceof idx, 3)) (hp : pc + 3 = pc') (g : ∀ T' : State, own_Wk Z EL n0 own bytes maxL ret nm p l e R s m args below meth c T' ms k n h → own_Go Z EL n0 p e below s K N Q (T'.setTop (mkF m pc' Ls (.int 1 :: st)))) : own_Go Z EL n0 p e below s K N Q (T.setTop (mkF m pc Ls (.ref a :: st))) := by
  subst hp; exact own_same w (fun s' locs X eT hZ hown => instY X w.1 hZ hown wl eT I (g := mkF m pc Ls (.ref a :: st)) rfl rfl (own_dec w hd)) g
theorem own_initO (w : own_Wk Z EL n0 own bytes maxL ret nm p l e R s m args below meth c T ms k n h) {idx W : Nat} (w1 : (Jvm.Cond.methodLink own idx Lib.objectInit).before a0 Z = true) (w2 : (Jvm.Cond.instanceMethod Lib.objectInit).before a0 Z = true) (w3 : (Jvm.Cond.code Lib.objectInit ⟨#[0xb1]⟩ 1 none).before a0 Z = true) (hsz : Ls.size = maxL) (hd : decode bytes pc = .ok (.invokespecial idx, 3)) (hp : pc + 3 = pc') (hf : 1 ≤ R.frames) (hW : (st.map fun v => v.category).sum ≤ W) (hl : W + 12 ≤ R.locals)
    (g : ∀ T' : State, own_Wk Z EL n0 own bytes maxL ret nm p l e R s m args below meth c T' ms k n h → own_Go Z EL n0 p e below s K N Q (T'.setTop (mkF m pc' Ls st))) : own_Go Z EL n0 p e below s K N Q (T.setTop (mkF m pc Ls (.ref a :: st))) := by
  subst hp; exact own_same w (fun s' locs X eT hZ hown => initO X w.1 hZ hown w1 w2 w3 eT (g := mkF m pc Ls (.ref a :: st)) rfl (by rw [w.2.2.1]; exact hsz) rfl (own_dec w hd) hf (W := W) (by show 2 * 0 + _ ≤ _; omega) hl) g
theorem own_acmp (w : own_Wk Z EL n0 own bytes maxL ret nm p l e R s m args below meth c T ms k n h) {cd : ClassFile.ACond} {x y : Value} {o : Int} {pcY : Nat} (hx' : x.isRef = true) (hy' : y.isRef = true) (hd : decode bytes pc = .ok (.if_acmp cd o, 3)) (hp : pc + 3 = pc') (ho : 0 ≤ (pc : Int) + o) (hq : ((pc : Int) + o).toNat = pcY) (gT : (match cd with | .eq => x = y | .ne => ¬ x = y) → own_Go Z EL n0 p e below s K N Q (T.setTop (mkF m pcY Ls st))) (gF : (match cd with | .eq => ¬ x = y | .ne => x = y) → own_Go Z EL n0 p e below s K N Q (T.setTop (mkF m pc' Ls st))) : own_Go Z EL n0 p e below s K N Q (T.setTop (mkF m pc Ls (y :: x :: st))) := by
  subst hp
  cases cd <;> by_cases q : x = y
  · exact own_go (fun _ z => XT.acmpYes (own_here w) w.1 rfl (pc0 := pc) rfl (own_dec w hd) rfl hx' hy' (by simp [XT.acmp, q]) ho hq z) (gT q)
  · exact own_go (fun _ z => XT.acmpNo (own_here w) w.1 rfl (own_dec w hd) rfl hx' hy' (by simp [XT.acmp, q]) z) (gF q)
  · exact own_go (fun _ z => XT.acmpNo (own_here w) w.1 rfl (own_dec w hd) rfl hx' hy' (by simp [XT.acmp, q]) z) (gF q)
  · exact own_go (fun _ z => XT.acmpYes (own_here w) w.1 rfl (pc0 := pc) rfl (own_dec w hd) rfl hx' hy' (by simp [XT.acmp, q]) ho hq z) (gT q)
theorem own_callIB (w : own_Wk Z EL n0 own bytes maxL ret nm p l e R s m args below meth c T ms k n h) {idx : Nat} {y : MethodName} {bytes' : ByteArray} {maxL' : Nat} {argsL rest : List Value} {ws : List Addr} {QQ : Option Value → Heap → List Loc → Prop} {ps : List FieldType} {rt : Option FieldType} {W kc nc : Nat} (hy1 : y.name = "<init>") (wl : (Jvm.Cond.methodLink own idx y).before a0 Z = true) (wt : (Jvm.Cond.instanceMethod y).before a0 Z = true) (wc : (Jvm.Cond.code y bytes' maxL' none).before a0 Z = true) (hy : y.cls ≠ "java/lang/invoke/MethodHandle" ∧ y.cls ≠ "java/lang/invoke/VarHandle")
    (bk : ∀ s' : State, Z.Warmed39 s'.vm → Back l R p e below s' args y 3 W (fun P aa => aa = (.ref a :: argsL).toArray ∧ P.U.heap = h ∧ P.cells + kc ≤ R.cells ∧ P.slots + nc ≤ R.slots) (fun P _ v B => ∃ L, QQ v B.U.heap L ∧ B.locs = P.locs ++ L ∧ B.cells = P.cells + kc ∧ B.slots = P.slots + nc)) (hws : ∀ x ∈ ws, x ∈ ms) (hpost : ∀ v h' L, QQ v h' L → Keep h h' ws ∧ Fr n0 L) (hst : st = argsL.reverse ++ .ref a :: rest) (hsz : Ls.size = maxL) (hpd : parseMethodDescriptor y.desc = some ⟨ps, rt⟩) (hln : argsL.length = ps.length) (hd : decode bytes pc = .ok (.invokespecial idx, 3)) (hp : pc + 3 = pc') (hW : (rest.map fun v => v.category).sum ≤ W) (hc : k + kc ≤ R.cells) (hn : n + nc ≤ R.slots)
    (g : ∀ (T' : State) (h' : Heap) (v : Option Value), own_Wk Z EL n0 own bytes maxL ret nm p l e R s m args below meth c T' ms (k + kc) (n + nc) h' → Keep h h' ws → (∃ L, QQ v h' L) → own_Go Z EL n0 p e below s K N Q (T'.setTop (mkF m pc' Ls (v.toList ++ rest)))) : own_Go Z EL n0 p e below s K N Q (T.setTop (mkF m pc Ls st)) := by
  subst hp hst
  refine own_core w (k' := k + kc) (n' := n + nc) (ws := ws) (P := fun h' new F'' => ∃ v L, QQ v h' L ∧ new = [] ∧ F'' = mkF m (pc + 3) Ls (v.toList ++ rest)) hws (fun s' locs X eT hZ hown => by
    obtain ⟨v, _, ⟨T', L', k', n'⟩, -, X', ⟨L, hQ, l1, l2, l3⟩, st'⟩ := X.specialBack w.1 (y := y) hy1 hown (mvT hZ wl) (mvT hZ wt) (mvT hZ wc) hy (bk s' hZ) (g := mkF m pc Ls (argsL.reverse ++ .ref a :: rest)) rfl (by rw [w.2.2.1]; exact hsz) (Steps.refl _) (a := a) (argsL := argsL) (rest := rest) (lenOf hpd hln) rfl (by show 2 * 0 + _ ≤ _; omega) (own_dec w hd) (fun _ _ => ⟨rfl, eT, hc, hn⟩)
    dsimp only [Pt.U, Pt.locs, Pt.cells, Pt.slots] at X' hQ l1 l2 l3 st'
    subst l1 l2 l3
    exact ⟨T', _, L, [], _, X', rfl, (hpost _ _ _ hQ).1, (hpost _ _ _ hQ).2, all0, ⟨v, L, hQ, rfl, rfl⟩, fun _ q => st'.trans q⟩) (fun T' h' new F'' w' Kp q => by
    obtain ⟨v, L, q1, rfl, rfl⟩ := q
    exact g T' h' v w' Kp ⟨L, q1⟩)
theorem own_callVB (w : own_Wk Z EL n0 own bytes maxL ret nm p l e R s m args below meth c T ms k n h) {idx : Nat} {y z : MethodName} {C : String} {argsL rest : List Value} {ws : List Addr} {QQ : Option Value → Heap → List Loc → Prop} {ps : List FieldType} {rt : Option FieldType} {W kc nc : Nat} (wl : (Jvm.Cond.methodLink own idx y).before a0 Z = true) (wd : (Jvm.Cond.declares y).before a0 Z = true) (hnf : ∀ s' : State, Z.Warmed39 s'.vm → NotFace s' y) (wsel : (Jvm.Cond.selects C y z).before a0 Z = true) (wt : (Jvm.Cond.instanceMethod z).before a0 Z = true) (hy : y.cls ≠ "java/lang/invoke/MethodHandle" ∧ y.cls ≠ "java/lang/invoke/VarHandle") (E : Exa Z h a C)
    (bk : ∀ s' : State, Z.Warmed39 s'.vm → Back l R p e below s' args z 3 W (fun P aa => aa = (.ref a :: argsL).toArray ∧ P.U.heap = h ∧ P.cells + kc ≤ R.cells ∧ P.slots + nc ≤ R.slots) (fun P _ v B => ∃ L, QQ v B.U.heap L ∧ B.locs = P.locs ++ L ∧ B.cells = P.cells + kc ∧ B.slots = P.slots + nc)) (hws : ∀ x ∈ ws, x ∈ ms) (hpost : ∀ v h' L, QQ v h' L → Keep h h' ws ∧ Fr n0 L) (hst : st = argsL.reverse ++ .ref a :: rest) (hsz : Ls.size = maxL) (hpd : parseMethodDescriptor y.desc = some ⟨ps, rt⟩) (hln : argsL.length = ps.length) (hd : decode bytes pc = .ok (.invokevirtual idx, 3)) (hp : pc + 3 = pc') (hW : (rest.map fun v => v.category).sum ≤ W) (hc : k + kc ≤ R.cells) (hn : n + nc ≤ R.slots)
    (g : ∀ (T' : State) (h' : Heap) (v : Option Value), own_Wk Z EL n0 own bytes maxL ret nm p l e R s m args below meth c T' ms (k + kc) (n + nc) h' → Keep h h' ws → (∃ L, QQ v h' L) → own_Go Z EL n0 p e below s K N Q (T'.setTop (mkF m pc' Ls (v.toList ++ rest)))) : own_Go Z EL n0 p e below s K N Q (T.setTop (mkF m pc Ls st)) := by
  subst hp hst
  refine own_core w (k' := k + kc) (n' := n + nc) (ws := ws) (P := fun h' new F'' => ∃ v L, QQ v h' L ∧ new = [] ∧ F'' = mkF m (pc + 3) Ls (v.toList ++ rest)) hws (fun s' locs X eT hZ hown => by
    obtain ⟨cq, kq, qa, qb, qc⟩ := isOf hZ eT E
    obtain ⟨v, _, ⟨T', L', k', n'⟩, -, X', ⟨L, hQ, l1, l2, l3⟩, st'⟩ := X.virtualBack w.1 (y := y) (z := z) hown (mvT hZ wl) (mvT hZ wd) (hnf _ hZ) (mvT hZ wsel) (mvT hZ wt) hy (bk s' hZ) qa qc (g := mkF m pc Ls (argsL.reverse ++ .ref a :: rest)) rfl (by rw [w.2.2.1]; exact hsz) (Steps.refl _) (argsL := argsL) (rest := rest) (lenOf hpd hln) rfl (by show 2 * 0 + _ ≤ _; omega) (own_dec w hd) (fun _ _ => ⟨rfl, eT, hc, hn⟩)
    dsimp only [Pt.U, Pt.locs, Pt.cells, Pt.slots] at X' hQ l1 l2 l3 st'
    subst l1 l2 l3
    exact ⟨T', _, L, [], _, X', rfl, (hpost _ _ _ hQ).1, (hpost _ _ _ hQ).2, all0, ⟨v, L, hQ, rfl, rfl⟩, fun _ q => st'.trans q⟩) (fun T' h' new F'' w' Kp q => by
    obtain ⟨v, L, q1, rfl, rfl⟩ := q
    exact g T' h' v w' Kp ⟨L, q1⟩)
end OwnKit
def own_sgn (v : Int64) : Int64 := v >>> ((63 : Int32).toInt64 &&& 63)
def own_mh (x y : Int64) : Int64 :=
  let m : Int64 := 4294967295
  let x1 := x >>> ((32 : Int32).toInt64 &&& 63); let x2 := x &&& m; let y1 := y >>> ((32 : Int32).toInt64 &&& 63); let y2 := y &&& m
  let z2 := x2 * y2
  let t := x1 * y2 + XT.ushrL z2 (32 : Int32)
  let z1 := t &&& m; let z0 := t >>> ((32 : Int32).toInt64 &&& 63)
  let z1' := z1 + x2 * y1
  x1 * y1 + z0 + z1' >>> ((32 : Int32).toInt64 &&& 63)
theorem own_cmp0 {x y : Int64} (h : x = y) : XT.cmpL x y = 0 := by subst h; simp [XT.cmpL, Int64.lt_irrefl]
theorem own_d0_0 : decode prog_41_method_1_code 0 = .ok (.aload_n 0, 1) := by decide +kernel
theorem own_d0_1 : decode prog_41_method_1_code 1 = .ok (.invokespecial 1, 3) := by decide +kernel
theorem own_d0_4 : decode prog_41_method_1_code 4 = .ok (.aload_n 0, 1) := by decide +kernel
theorem own_d0_5 : decode prog_41_method_1_code 5 = .ok (.lload_n 1, 1) := by decide +kernel
theorem own_d0_6 : decode prog_41_method_1_code 6 = .ok (.putfield 7, 3) := by decide +kernel
theorem own_d0_9 : decode prog_41_method_1_code 9 = .ok (.aload_n 0, 1) := by decide +kernel
theorem own_d0_10 : decode prog_41_method_1_code 10 = .ok (.lload_n 3, 1) := by decide +kernel
theorem own_d0_11 : decode prog_41_method_1_code 11 = .ok (.putfield 13, 3) := by decide +kernel
theorem own_d0_14 : decode prog_41_method_1_code 14 = .ok (.return_, 1) := by decide +kernel
theorem own_ef_cInit (m : MethodId) (a1 : Addr) (hi : Int64) (lo : Int64) : entryFrame m #[(.ref a1), (.long hi), (.long lo)] 5 = mkF m 0 #[.val (.ref a1), .val (.long hi), .second, .val (.long lo), .second] [] := by first | (simp [entryFrame, mkF, argsToLocals, Value.category]; done) | rfl
theorem own_pf0 : plainFor (⟨"com/example/throng/throng/engine/Count", "<init>", "(JJ)V"⟩ : MethodName) = true := by first | exact plainFor_of_name (by first | (simp [plainName, overriddenIn]; done) | decide +kernel) | decide +kernel
def own_Q_cInit (Z : State) (h0 : Heap) (a1 : Addr) (hi : Int64) (lo : Int64) (u1 : Value) (u2 : Value) (v : Option Value) (h : Heap) (ms : List Addr) : Prop := (Keep h0 h [a1]) ∧ (ms = []) ∧ (v = none) ∧ (Exa Z h a1 "com/example/throng/throng/engine/Count") ∧ (Fld Z h a1 "com/example/throng/throng/engine/Count" "low" "J" (.long lo)) ∧ (Fld Z h a1 "com/example/throng/throng/engine/Count" "high" "J" (.long hi))
set_option maxRecDepth 65536 in
set_option maxHeartbeats 40000000 in
theorem own_ct_cInit (l : Launch) (Z : State) (a0 : Array Value) (hw : ∀ d ∈ tables_1, d.before a0 Z = true) (EL : List (String × Nat)) (hE : EW Z a0 EL) (n0 : Nat) (ws : List Jvm.Cond) (h0 : Heap) (O : Old Z n0 h0) (a1 : Addr) (hi : Int64) (lo : Int64) (u1 : Value) (u2 : Value) (E_a1 : Exa Z h0 a1 "com/example/throng/throng/engine/Count") (F_a1_high : Fld Z h0 a1 "com/example/throng/throng/engine/Count" "high" "J" u1) (F_a1_low : Fld Z h0 a1 "com/example/throng/throng/engine/Count" "low" "J" u2) :
    own_Ct l Z EL n0 (⟨"com/example/throng/throng/engine/Count", "<init>", "(JJ)V"⟩ : MethodName) prog_41_method_1_code 5 none ws ({ frames := 1, cells := 0, slots := 0, locals := 12 } : Room) #[(.ref a1), (.long hi), (.long lo)] h0 [a1] (own_Q_cInit Z h0 a1 hi lo u1 u2) := by
  refine own_enter (a0 := a0) own_pf0 hE O fun p e s m below meth c T0 w0 => ?_
  rw [own_ef_cInit m a1 hi lo]
  have K : Keep h0 h0 [a1] := Keep.refl _ _
  refine own_aloadN (pc' := 1) w0 own_d0_0 rfl rfl rfl ?_
  refine own_initO (pc' := 4) w0 (hw _ (List.mem_of_getElem? (i := 25) rfl)) (hw _ (List.mem_of_getElem? (i := 7) rfl)) (hw _ (List.mem_of_getElem? (i := 8) rfl)) rfl own_d0_1 rfl (by decide) (W := 0) (Nat.le_of_eq rfl) (by decide) fun T1 w2 => ?_
  refine own_aloadN (pc' := 5) w2 own_d0_4 rfl rfl rfl ?_
  refine own_lloadN (pc' := 6) w2 own_d0_5 rfl rfl ?_
  refine own_putF (pc' := 9) w2 (host := "") (Or.inl (hw _ (List.mem_of_getElem? (i := 26) rfl))) Via.refl (by simp) F_a1_high E_a1 (Or.inr ⟨(hw _ (List.mem_of_getElem? (i := 27) rfl)), rfl, rfl⟩) (hw _ (List.mem_of_getElem? (i := 21) rfl)) (ty := .long) (by decide) rfl rfl own_d0_6 rfl fun T3 h5 w4 W6 => ?_
  replace F_a1_high := F_a1_high.same W6
  replace E_a1 := E_a1.wr W6
  replace F_a1_low := F_a1_low.other W6 (Or.inr (slot_ne (Or.inr (hw _ (List.mem_of_getElem? (i := 29) rfl))) (Or.inr (hw _ (List.mem_of_getElem? (i := 27) rfl))) (by decide) (t := .long) (t' := .long) (by decide) (by decide)))
  replace K := K.wr W6 (Or.inl (by simp))
  refine own_aloadN (pc' := 10) w4 own_d0_9 rfl rfl rfl ?_
  refine own_lloadN (pc' := 11) w4 own_d0_10 rfl rfl ?_
  refine own_putF (pc' := 14) w4 (host := "") (Or.inl (hw _ (List.mem_of_getElem? (i := 28) rfl))) Via.refl (by simp) F_a1_low E_a1 (Or.inr ⟨(hw _ (List.mem_of_getElem? (i := 29) rfl)), rfl, rfl⟩) (hw _ (List.mem_of_getElem? (i := 21) rfl)) (ty := .long) (by decide) rfl rfl own_d0_11 rfl fun T7 h9 w8 W10 => ?_
  replace F_a1_low := F_a1_low.same W10
  replace E_a1 := E_a1.wr W10
  replace F_a1_high := F_a1_high.other W10 (Or.inr (slot_ne (Or.inr (hw _ (List.mem_of_getElem? (i := 27) rfl))) (Or.inr (hw _ (List.mem_of_getElem? (i := 29) rfl))) (by decide) (t := .long) (t' := .long) (by decide) (by decide)))
  replace K := K.wr W10 (Or.inl (by simp))
  exact own_ret0 w8 rfl own_d0_14 (by decide) (by decide) (ms' := []) all0 ⟨K, rfl, rfl, E_a1, F_a1_low, F_a1_high⟩
theorem own_d1_0 : decode prog_41_method_2_code 0 = .ok (.new 8, 3) := by decide +kernel
theorem own_d1_3 : decode prog_41_method_2_code 3 = .ok (.dup, 1) := by decide +kernel
theorem own_d1_4 : decode prog_41_method_2_code 4 = .ok (.lload_n 0, 1) := by decide +kernel
theorem own_d1_5 : decode prog_41_method_2_code 5 = .ok (.bipush 63, 2) := by decide +kernel
theorem own_d1_7 : decode prog_41_method_2_code 7 = .ok (.lshr, 1) := by decide +kernel
theorem own_d1_8 : decode prog_41_method_2_code 8 = .ok (.lload_n 0, 1) := by decide +kernel
theorem own_d1_9 : decode prog_41_method_2_code 9 = .ok (.invokespecial 18, 3) := by decide +kernel
theorem own_pd0 : parseMethodDescriptor "(JJ)V" = some ⟨[.long, .long], none⟩ := by decide +kernel
theorem own_d1_12 : decode prog_41_method_2_code 12 = .ok (.areturn, 1) := by decide +kernel
theorem own_ef_cOf (m : MethodId) (vv : Int64) : entryFrame m #[(.long vv)] 2 = mkF m 0 #[.val (.long vv), .second] [] := by first | (simp [entryFrame, mkF, argsToLocals, Value.category]; done) | rfl
theorem own_pf1 : plainFor (⟨"com/example/throng/throng/engine/Count", "of", "(J)Lcom/example/throng/throng/engine/Count;"⟩ : MethodName) = true := by first | exact plainFor_of_name (by first | (simp [plainName, overriddenIn]; done) | decide +kernel) | decide +kernel
def own_Q_cOf (Z : State) (h0 : Heap) (vv : Int64) (v : Option Value) (h : Heap) (ms : List Addr) : Prop := (Keep h0 h []) ∧ (∃ (r : Addr), (ms = []) ∧ (v = some (.ref r)) ∧ (Exa Z h r "com/example/throng/throng/engine/Count") ∧ (Fld Z h r "com/example/throng/throng/engine/Count" "low" "J" (.long vv)) ∧ (Fld Z h r "com/example/throng/throng/engine/Count" "high" "J" (.long (own_sgn vv))) ∧ (h0.size ≤ r))
set_option maxRecDepth 65536 in
set_option maxHeartbeats 40000000 in
theorem own_ct_cOf (l : Launch) (Z : State) (a0 : Array Value) (hw : ∀ d ∈ tables_1, d.before a0 Z = true) (EL : List (String × Nat)) (hE : EW Z a0 EL) (n0 : Nat) (ws : List Jvm.Cond) (h0 : Heap) (O : Old Z n0 h0) (vv : Int64)  :
    own_Ct l Z EL n0 (⟨"com/example/throng/throng/engine/Count", "of", "(J)Lcom/example/throng/throng/engine/Count;"⟩ : MethodName) prog_41_method_2_code 2 (some (.object "com/example/throng/throng/engine/Count")) ws ({ frames := 2, cells := 1, slots := 2, locals := 29 } : Room) #[(.long vv)] h0 [] (own_Q_cOf Z h0 vv) := by
  refine own_enter (a0 := a0) own_pf1 hE O fun p e s m below meth c T0 w0 => ?_
  rw [own_ef_cOf m vv]
  have K : Keep h0 h0 [] := Keep.refl _ _
  refine own_newO (pc' := 3) w0 (hw _ (List.mem_of_getElem? (i := 20) rfl)) (hw _ (List.mem_of_getElem? (i := 21) rfl)) (hw _ (List.mem_of_getElem? (i := 18) rfl)) own_d1_0 rfl (by decide) (by decide) fun T1 h3 a5 g_a5 w2 E4 ⟨E_a5, D6⟩ => ?_
  have nw_a5 : h0.size ≤ a5 := Nat.le_trans K.1 (Nat.le_of_eq g_a5)
  replace K := K.ext E4
  have F_a5_high : Fld Z h3 a5 "com/example/throng/throng/engine/Count" "high" "J" (.long 0) := D6 (Or.inr (hw _ (List.mem_of_getElem? (i := 27) rfl))) (ty := .long) (by decide)
  have F_a5_low : Fld Z h3 a5 "com/example/throng/throng/engine/Count" "low" "J" (.long 0) := D6 (Or.inr (hw _ (List.mem_of_getElem? (i := 29) rfl))) (ty := .long) (by decide)
  refine own_dup (pc' := 4) w2 own_d1_3 rfl rfl ?_
  refine own_lloadN (pc' := 5) w2 own_d1_4 rfl rfl ?_
  refine own_bipush (pc' := 7) w2 own_d1_5 (x := (63 : Int32)) rfl rfl ?_
  refine own_lshr (pc' := 8) w2 own_d1_7 (z := (own_sgn vv)) rfl rfl ?_
  refine own_lloadN (pc' := 9) w2 own_d1_8 rfl rfl ?_
  refine own_callI (pc' := 12) w2 rfl (hw _ (List.mem_of_getElem? (i := 22) rfl)) (hw _ (List.mem_of_getElem? (i := 23) rfl)) (hw _ (List.mem_of_getElem? (i := 18) rfl)) (hw _ (List.mem_of_getElem? (i := 24) rfl)) (by decide) (own_ct_cInit l Z a0 hw EL hE n0 [] h3 (own_old w2) a5 (own_sgn vv) vv (.long 0) (.long 0) E_a5 F_a5_high F_a5_low) (allS (P := fun x => x ∈ _) (by simp) all0) (argsL := [(.long (own_sgn vv)), (.long vv)]) (rest := [(.ref a5)]) rfl rfl own_pd0 rfl own_d1_9 rfl (by decide) (W := 1) rfl (by decide) (by decide) (by decide) fun T7 h9 v10 ms11 w8 q12 => ?_
  obtain ⟨K13, rfl, rfl, nw_E_a5, nw_F_a5_low, nw_F_a5_high⟩ := q12
  replace K := K.trans K13 (allS (P := fun x => x ∈ ([] : List Addr) ∨ h0.size ≤ x) (Or.inr nw_a5) all0)
  have E_a5 := nw_E_a5; clear nw_E_a5
  have F_a5_low := nw_F_a5_low; clear nw_F_a5_low
  have F_a5_high := nw_F_a5_high; clear nw_F_a5_high
  show own_Go Z EL n0 p e below s _ _ _ (T7.setTop (mkF m 12 #[.val (.long vv), .second] [(.ref a5)]))
  exact own_retV w8 (t := (.object "com/example/throng/throng/engine/Count")) rfl (own_narR rfl rfl) (Or.inr (Or.inr (Or.inr (Or.inr ⟨rfl, rfl, rfl⟩)))) own_d1_12 (by decide) (by decide) (ms' := []) all0 ⟨K, a5, rfl, rfl, E_a5, F_a5_low, F_a5_high, nw_a5⟩
theorem own_d2_0 : decode jdk_29_method_45_code 0 = .ok (.lload_n 0, 1) := by decide +kernel
theorem own_d2_1 : decode jdk_29_method_45_code 1 = .ok (.bipush 32, 2) := by decide +kernel
theorem own_d2_3 : decode jdk_29_method_45_code 3 = .ok (.lshr, 1) := by decide +kernel
theorem own_d2_4 : decode jdk_29_method_45_code 4 = .ok (.lstore 4, 2) := by decide +kernel
theorem own_d2_6 : decode jdk_29_method_45_code 6 = .ok (.lload_n 0, 1) := by decide +kernel
theorem own_d2_7 : decode jdk_29_method_45_code 7 = .ok (.ldc2_w 138, 3) := by decide +kernel
theorem own_d2_10 : decode jdk_29_method_45_code 10 = .ok (.land, 1) := by decide +kernel
theorem own_d2_11 : decode jdk_29_method_45_code 11 = .ok (.lstore 6, 2) := by decide +kernel
theorem own_d2_13 : decode jdk_29_method_45_code 13 = .ok (.lload_n 2, 1) := by decide +kernel
theorem own_d2_14 : decode jdk_29_method_45_code 14 = .ok (.bipush 32, 2) := by decide +kernel
theorem own_d2_16 : decode jdk_29_method_45_code 16 = .ok (.lshr, 1) := by decide +kernel
theorem own_d2_17 : decode jdk_29_method_45_code 17 = .ok (.lstore 8, 2) := by decide +kernel
theorem own_d2_19 : decode jdk_29_method_45_code 19 = .ok (.lload_n 2, 1) := by decide +kernel
theorem own_d2_20 : decode jdk_29_method_45_code 20 = .ok (.ldc2_w 138, 3) := by decide +kernel
theorem own_d2_23 : decode jdk_29_method_45_code 23 = .ok (.land, 1) := by decide +kernel
theorem own_d2_24 : decode jdk_29_method_45_code 24 = .ok (.lstore 10, 2) := by decide +kernel
theorem own_d2_26 : decode jdk_29_method_45_code 26 = .ok (.lload 6, 2) := by decide +kernel
theorem own_d2_28 : decode jdk_29_method_45_code 28 = .ok (.lload 10, 2) := by decide +kernel
theorem own_d2_30 : decode jdk_29_method_45_code 30 = .ok (.lmul, 1) := by decide +kernel
theorem own_d2_31 : decode jdk_29_method_45_code 31 = .ok (.lstore 12, 2) := by decide +kernel
theorem own_d2_33 : decode jdk_29_method_45_code 33 = .ok (.lload 4, 2) := by decide +kernel
theorem own_d2_35 : decode jdk_29_method_45_code 35 = .ok (.lload 10, 2) := by decide +kernel
theorem own_d2_37 : decode jdk_29_method_45_code 37 = .ok (.lmul, 1) := by decide +kernel
theorem own_d2_38 : decode jdk_29_method_45_code 38 = .ok (.lload 12, 2) := by decide +kernel
theorem own_d2_40 : decode jdk_29_method_45_code 40 = .ok (.bipush 32, 2) := by decide +kernel
theorem own_d2_42 : decode jdk_29_method_45_code 42 = .ok (.lushr, 1) := by decide +kernel
theorem own_d2_43 : decode jdk_29_method_45_code 43 = .ok (.ladd, 1) := by decide +kernel
theorem own_d2_44 : decode jdk_29_method_45_code 44 = .ok (.lstore 14, 2) := by decide +kernel
theorem own_d2_46 : decode jdk_29_method_45_code 46 = .ok (.lload 14, 2) := by decide +kernel
theorem own_d2_48 : decode jdk_29_method_45_code 48 = .ok (.ldc2_w 138, 3) := by decide +kernel
theorem own_d2_51 : decode jdk_29_method_45_code 51 = .ok (.land, 1) := by decide +kernel
theorem own_d2_52 : decode jdk_29_method_45_code 52 = .ok (.lstore 16, 2) := by decide +kernel
theorem own_d2_54 : decode jdk_29_method_45_code 54 = .ok (.lload 14, 2) := by decide +kernel
theorem own_d2_56 : decode jdk_29_method_45_code 56 = .ok (.bipush 32, 2) := by decide +kernel
theorem own_d2_58 : decode jdk_29_method_45_code 58 = .ok (.lshr, 1) := by decide +kernel
theorem own_d2_59 : decode jdk_29_method_45_code 59 = .ok (.lstore 18, 2) := by decide +kernel
theorem own_d2_61 : decode jdk_29_method_45_code 61 = .ok (.lload 16, 2) := by decide +kernel
theorem own_d2_63 : decode jdk_29_method_45_code 63 = .ok (.lload 6, 2) := by decide +kernel
theorem own_d2_65 : decode jdk_29_method_45_code 65 = .ok (.lload 8, 2) := by decide +kernel
theorem own_d2_67 : decode jdk_29_method_45_code 67 = .ok (.lmul, 1) := by decide +kernel
theorem own_d2_68 : decode jdk_29_method_45_code 68 = .ok (.ladd, 1) := by decide +kernel
theorem own_d2_69 : decode jdk_29_method_45_code 69 = .ok (.lstore 16, 2) := by decide +kernel
theorem own_d2_71 : decode jdk_29_method_45_code 71 = .ok (.lload 4, 2) := by decide +kernel
theorem own_d2_73 : decode jdk_29_method_45_code 73 = .ok (.lload 8, 2) := by decide +kernel
theorem own_d2_75 : decode jdk_29_method_45_code 75 = .ok (.lmul, 1) := by decide +kernel
theorem own_d2_76 : decode jdk_29_method_45_code 76 = .ok (.lload 18, 2) := by decide +kernel
theorem own_d2_78 : decode jdk_29_method_45_code 78 = .ok (.ladd, 1) := by decide +kernel
theorem own_d2_79 : decode jdk_29_method_45_code 79 = .ok (.lload 16, 2) := by decide +kernel
theorem own_d2_81 : decode jdk_29_method_45_code 81 = .ok (.bipush 32, 2) := by decide +kernel
theorem own_d2_83 : decode jdk_29_method_45_code 83 = .ok (.lshr, 1) := by decide +kernel
theorem own_d2_84 : decode jdk_29_method_45_code 84 = .ok (.ladd, 1) := by decide +kernel
theorem own_d2_85 : decode jdk_29_method_45_code 85 = .ok (.lreturn, 1) := by decide +kernel
theorem own_ef_mulH (m : MethodId) (xx : Int64) (yy : Int64) : entryFrame m #[(.long xx), (.long yy)] 20 = mkF m 0 #[.val (.long xx), .second, .val (.long yy), .second, .unset, .unset, .unset, .unset, .unset, .unset, .unset, .unset, .unset, .unset, .unset, .unset, .unset, .unset, .unset, .unset] [] := by first | (simp [entryFrame, mkF, argsToLocals, Value.category]; done) | rfl
theorem own_pf2 : plainFor (⟨"java/lang/Math", "multiplyHigh", "(JJ)J"⟩ : MethodName) = true := by first | exact plainFor_of_name (by first | (simp [plainName, overriddenIn]; done) | decide +kernel) | decide +kernel
def own_Q_mulH (Z : State) (h0 : Heap) (xx : Int64) (yy : Int64) (v : Option Value) (h : Heap) (ms : List Addr) : Prop := (h0 = h) ∧ (ms = []) ∧ (v = some (.long (own_mh xx yy)))
set_option maxRecDepth 65536 in
set_option maxHeartbeats 40000000 in
theorem own_ct_mulH (l : Launch) (Z : State) (a0 : Array Value) (hw : ∀ d ∈ tables_1, d.before a0 Z = true) (EL : List (String × Nat)) (hE : EW Z a0 EL) (n0 : Nat) (ws : List Jvm.Cond) (h0 : Heap) (O : Old Z n0 h0) (xx : Int64) (yy : Int64)  :
    own_Ct l Z EL n0 (⟨"java/lang/Math", "multiplyHigh", "(JJ)J"⟩ : MethodName) jdk_29_method_45_code 20 (some .long) ws ({ frames := 0, cells := 0, slots := 0, locals := 0 } : Room) #[(.long xx), (.long yy)] h0 [] (own_Q_mulH Z h0 xx yy) := by
  refine own_enter (a0 := a0) own_pf2 hE O fun p e s m below meth c T0 w0 => ?_
  rw [own_ef_mulH m xx yy]
  refine own_lloadN (pc' := 1) w0 own_d2_0 rfl rfl ?_
  refine own_bipush (pc' := 3) w0 own_d2_1 (x := (32 : Int32)) rfl rfl ?_
  refine own_lshr (pc' := 4) w0 own_d2_3 (z := (xx >>> ((32 : Int32).toInt64 &&& 63))) rfl rfl ?_
  refine own_lstore (pc' := 6) w0 own_d2_4 (Ls' := #[.val (.long xx), .second, .val (.long yy), .second, .val (.long (xx >>> ((32 : Int32).toInt64 &&& 63))), .second, .unset, .unset, .unset, .unset, .unset, .unset, .unset, .unset, .unset, .unset, .unset, .unset, .unset, .unset]) rfl rfl ?_
  refine own_lloadN (pc' := 7) w0 own_d2_6 rfl rfl ?_
  refine own_ldc2J (pc' := 10) w0 (hw _ (List.mem_of_getElem? (i := 42) rfl)) own_d2_7 rfl ?_
  refine own_land (pc' := 11) w0 own_d2_10 (z := (xx &&& (4294967295 : Int64))) rfl rfl ?_
  refine own_lstore (pc' := 13) w0 own_d2_11 (Ls' := #[.val (.long xx), .second, .val (.long yy), .second, .val (.long (xx >>> ((32 : Int32).toInt64 &&& 63))), .second, .val (.long (xx &&& (4294967295 : Int64))), .second, .unset, .unset, .unset, .unset, .unset, .unset, .unset, .unset, .unset, .unset, .unset, .unset]) rfl rfl ?_
  refine own_lloadN (pc' := 14) w0 own_d2_13 rfl rfl ?_
  refine own_bipush (pc' := 16) w0 own_d2_14 (x := (32 : Int32)) rfl rfl ?_
  refine own_lshr (pc' := 17) w0 own_d2_16 (z := (yy >>> ((32 : Int32).toInt64 &&& 63))) rfl rfl ?_
  refine own_lstore (pc' := 19) w0 own_d2_17 (Ls' := #[.val (.long xx), .second, .val (.long yy), .second, .val (.long (xx >>> ((32 : Int32).toInt64 &&& 63))), .second, .val (.long (xx &&& (4294967295 : Int64))), .second, .val (.long (yy >>> ((32 : Int32).toInt64 &&& 63))), .second, .unset, .unset, .unset, .unset, .unset, .unset, .unset, .unset, .unset, .unset]) rfl rfl ?_
  refine own_lloadN (pc' := 20) w0 own_d2_19 rfl rfl ?_
  refine own_ldc2J (pc' := 23) w0 (hw _ (List.mem_of_getElem? (i := 42) rfl)) own_d2_20 rfl ?_
  refine own_land (pc' := 24) w0 own_d2_23 (z := (yy &&& (4294967295 : Int64))) rfl rfl ?_
  refine own_lstore (pc' := 26) w0 own_d2_24 (Ls' := #[.val (.long xx), .second, .val (.long yy), .second, .val (.long (xx >>> ((32 : Int32).toInt64 &&& 63))), .second, .val (.long (xx &&& (4294967295 : Int64))), .second, .val (.long (yy >>> ((32 : Int32).toInt64 &&& 63))), .second, .val (.long (yy &&& (4294967295 : Int64))), .second, .unset, .unset, .unset, .unset, .unset, .unset, .unset, .unset]) rfl rfl ?_
  refine own_lload (pc' := 28) w0 own_d2_26 rfl rfl ?_
  refine own_lload (pc' := 30) w0 own_d2_28 rfl rfl ?_
  refine own_lmul (pc' := 31) w0 own_d2_30 (z := ((xx &&& (4294967295 : Int64)) * (yy &&& (4294967295 : Int64)))) rfl rfl ?_
  refine own_lstore (pc' := 33) w0 own_d2_31 (Ls' := #[.val (.long xx), .second, .val (.long yy), .second, .val (.long (xx >>> ((32 : Int32).toInt64 &&& 63))), .second, .val (.long (xx &&& (4294967295 : Int64))), .second, .val (.long (yy >>> ((32 : Int32).toInt64 &&& 63))), .second, .val (.long (yy &&& (4294967295 : Int64))), .second, .val (.long ((xx &&& (4294967295 : Int64)) * (yy &&& (4294967295 : Int64)))), .second, .unset, .unset, .unset, .unset, .unset, .unset]) rfl rfl ?_
  refine own_lload (pc' := 35) w0 own_d2_33 rfl rfl ?_
  refine own_lload (pc' := 37) w0 own_d2_35 rfl rfl ?_
  refine own_lmul (pc' := 38) w0 own_d2_37 (z := ((xx >>> ((32 : Int32).toInt64 &&& 63)) * (yy &&& (4294967295 : Int64)))) rfl rfl ?_
  refine own_lload (pc' := 40) w0 own_d2_38 rfl rfl ?_
  refine own_bipush (pc' := 42) w0 own_d2_40 (x := (32 : Int32)) rfl rfl ?_
  refine own_lushr (pc' := 43) w0 own_d2_42 (z := (XT.ushrL ((xx &&& (4294967295 : Int64)) * (yy &&& (4294967295 : Int64))) (32 : Int32))) rfl rfl ?_
  refine own_ladd (pc' := 44) w0 own_d2_43 (z := (((xx >>> ((32 : Int32).toInt64 &&& 63)) * (yy &&& (4294967295 : Int64))) + (XT.ushrL ((xx &&& (4294967295 : Int64)) * (yy &&& (4294967295 : Int64))) (32 : Int32)))) rfl rfl ?_
  refine own_lstore (pc' := 46) w0 own_d2_44 (Ls' := #[.val (.long xx), .second, .val (.long yy), .second, .val (.long (xx >>> ((32 : Int32).toInt64 &&& 63))), .second, .val (.long (xx &&& (4294967295 : Int64))), .second, .val (.long (yy >>> ((32 : Int32).toInt64 &&& 63))), .second, .val (.long (yy &&& (4294967295 : Int64))), .second, .val (.long ((xx &&& (4294967295 : Int64)) * (yy &&& (4294967295 : Int64)))), .second, .val (.long (((xx >>> ((32 : Int32).toInt64 &&& 63)) * (yy &&& (4294967295 : Int64))) + (XT.ushrL ((xx &&& (4294967295 : Int64)) * (yy &&& (4294967295 : Int64))) (32 : Int32)))), .second, .unset, .unset, .unset, .unset]) rfl rfl ?_
  refine own_lload (pc' := 48) w0 own_d2_46 rfl rfl ?_
  refine own_ldc2J (pc' := 51) w0 (hw _ (List.mem_of_getElem? (i := 42) rfl)) own_d2_48 rfl ?_
  refine own_land (pc' := 52) w0 own_d2_51 (z := ((((xx >>> ((32 : Int32).toInt64 &&& 63)) * (yy &&& (4294967295 : Int64))) + (XT.ushrL ((xx &&& (4294967295 : Int64)) * (yy &&& (4294967295 : Int64))) (32 : Int32))) &&& (4294967295 : Int64))) rfl rfl ?_
  refine own_lstore (pc' := 54) w0 own_d2_52 (Ls' := #[.val (.long xx), .second, .val (.long yy), .second, .val (.long (xx >>> ((32 : Int32).toInt64 &&& 63))), .second, .val (.long (xx &&& (4294967295 : Int64))), .second, .val (.long (yy >>> ((32 : Int32).toInt64 &&& 63))), .second, .val (.long (yy &&& (4294967295 : Int64))), .second, .val (.long ((xx &&& (4294967295 : Int64)) * (yy &&& (4294967295 : Int64)))), .second, .val (.long (((xx >>> ((32 : Int32).toInt64 &&& 63)) * (yy &&& (4294967295 : Int64))) + (XT.ushrL ((xx &&& (4294967295 : Int64)) * (yy &&& (4294967295 : Int64))) (32 : Int32)))), .second, .val (.long ((((xx >>> ((32 : Int32).toInt64 &&& 63)) * (yy &&& (4294967295 : Int64))) + (XT.ushrL ((xx &&& (4294967295 : Int64)) * (yy &&& (4294967295 : Int64))) (32 : Int32))) &&& (4294967295 : Int64))), .second, .unset, .unset]) rfl rfl ?_
  refine own_lload (pc' := 56) w0 own_d2_54 rfl rfl ?_
  refine own_bipush (pc' := 58) w0 own_d2_56 (x := (32 : Int32)) rfl rfl ?_
  refine own_lshr (pc' := 59) w0 own_d2_58 (z := ((((xx >>> ((32 : Int32).toInt64 &&& 63)) * (yy &&& (4294967295 : Int64))) + (XT.ushrL ((xx &&& (4294967295 : Int64)) * (yy &&& (4294967295 : Int64))) (32 : Int32))) >>> ((32 : Int32).toInt64 &&& 63))) rfl rfl ?_
  refine own_lstore (pc' := 61) w0 own_d2_59 (Ls' := #[.val (.long xx), .second, .val (.long yy), .second, .val (.long (xx >>> ((32 : Int32).toInt64 &&& 63))), .second, .val (.long (xx &&& (4294967295 : Int64))), .second, .val (.long (yy >>> ((32 : Int32).toInt64 &&& 63))), .second, .val (.long (yy &&& (4294967295 : Int64))), .second, .val (.long ((xx &&& (4294967295 : Int64)) * (yy &&& (4294967295 : Int64)))), .second, .val (.long (((xx >>> ((32 : Int32).toInt64 &&& 63)) * (yy &&& (4294967295 : Int64))) + (XT.ushrL ((xx &&& (4294967295 : Int64)) * (yy &&& (4294967295 : Int64))) (32 : Int32)))), .second, .val (.long ((((xx >>> ((32 : Int32).toInt64 &&& 63)) * (yy &&& (4294967295 : Int64))) + (XT.ushrL ((xx &&& (4294967295 : Int64)) * (yy &&& (4294967295 : Int64))) (32 : Int32))) &&& (4294967295 : Int64))), .second, .val (.long ((((xx >>> ((32 : Int32).toInt64 &&& 63)) * (yy &&& (4294967295 : Int64))) + (XT.ushrL ((xx &&& (4294967295 : Int64)) * (yy &&& (4294967295 : Int64))) (32 : Int32))) >>> ((32 : Int32).toInt64 &&& 63))), .second]) rfl rfl ?_
  refine own_lload (pc' := 63) w0 own_d2_61 rfl rfl ?_
  refine own_lload (pc' := 65) w0 own_d2_63 rfl rfl ?_
  refine own_lload (pc' := 67) w0 own_d2_65 rfl rfl ?_
  refine own_lmul (pc' := 68) w0 own_d2_67 (z := ((xx &&& (4294967295 : Int64)) * (yy >>> ((32 : Int32).toInt64 &&& 63)))) rfl rfl ?_
  refine own_ladd (pc' := 69) w0 own_d2_68 (z := (((((xx >>> ((32 : Int32).toInt64 &&& 63)) * (yy &&& (4294967295 : Int64))) + (XT.ushrL ((xx &&& (4294967295 : Int64)) * (yy &&& (4294967295 : Int64))) (32 : Int32))) &&& (4294967295 : Int64)) + ((xx &&& (4294967295 : Int64)) * (yy >>> ((32 : Int32).toInt64 &&& 63))))) rfl rfl ?_
  refine own_lstore (pc' := 71) w0 own_d2_69 (Ls' := #[.val (.long xx), .second, .val (.long yy), .second, .val (.long (xx >>> ((32 : Int32).toInt64 &&& 63))), .second, .val (.long (xx &&& (4294967295 : Int64))), .second, .val (.long (yy >>> ((32 : Int32).toInt64 &&& 63))), .second, .val (.long (yy &&& (4294967295 : Int64))), .second, .val (.long ((xx &&& (4294967295 : Int64)) * (yy &&& (4294967295 : Int64)))), .second, .val (.long (((xx >>> ((32 : Int32).toInt64 &&& 63)) * (yy &&& (4294967295 : Int64))) + (XT.ushrL ((xx &&& (4294967295 : Int64)) * (yy &&& (4294967295 : Int64))) (32 : Int32)))), .second, .val (.long (((((xx >>> ((32 : Int32).toInt64 &&& 63)) * (yy &&& (4294967295 : Int64))) + (XT.ushrL ((xx &&& (4294967295 : Int64)) * (yy &&& (4294967295 : Int64))) (32 : Int32))) &&& (4294967295 : Int64)) + ((xx &&& (4294967295 : Int64)) * (yy >>> ((32 : Int32).toInt64 &&& 63))))), .second, .val (.long ((((xx >>> ((32 : Int32).toInt64 &&& 63)) * (yy &&& (4294967295 : Int64))) + (XT.ushrL ((xx &&& (4294967295 : Int64)) * (yy &&& (4294967295 : Int64))) (32 : Int32))) >>> ((32 : Int32).toInt64 &&& 63))), .second]) rfl rfl ?_
  refine own_lload (pc' := 73) w0 own_d2_71 rfl rfl ?_
  refine own_lload (pc' := 75) w0 own_d2_73 rfl rfl ?_
  refine own_lmul (pc' := 76) w0 own_d2_75 (z := ((xx >>> ((32 : Int32).toInt64 &&& 63)) * (yy >>> ((32 : Int32).toInt64 &&& 63)))) rfl rfl ?_
  refine own_lload (pc' := 78) w0 own_d2_76 rfl rfl ?_
  refine own_ladd (pc' := 79) w0 own_d2_78 (z := (((xx >>> ((32 : Int32).toInt64 &&& 63)) * (yy >>> ((32 : Int32).toInt64 &&& 63))) + ((((xx >>> ((32 : Int32).toInt64 &&& 63)) * (yy &&& (4294967295 : Int64))) + (XT.ushrL ((xx &&& (4294967295 : Int64)) * (yy &&& (4294967295 : Int64))) (32 : Int32))) >>> ((32 : Int32).toInt64 &&& 63)))) rfl rfl ?_
  refine own_lload (pc' := 81) w0 own_d2_79 rfl rfl ?_
  refine own_bipush (pc' := 83) w0 own_d2_81 (x := (32 : Int32)) rfl rfl ?_
  refine own_lshr (pc' := 84) w0 own_d2_83 (z := ((((((xx >>> ((32 : Int32).toInt64 &&& 63)) * (yy &&& (4294967295 : Int64))) + (XT.ushrL ((xx &&& (4294967295 : Int64)) * (yy &&& (4294967295 : Int64))) (32 : Int32))) &&& (4294967295 : Int64)) + ((xx &&& (4294967295 : Int64)) * (yy >>> ((32 : Int32).toInt64 &&& 63)))) >>> ((32 : Int32).toInt64 &&& 63))) rfl rfl ?_
  refine own_ladd (pc' := 85) w0 own_d2_84 (z := ((((xx >>> ((32 : Int32).toInt64 &&& 63)) * (yy >>> ((32 : Int32).toInt64 &&& 63))) + ((((xx >>> ((32 : Int32).toInt64 &&& 63)) * (yy &&& (4294967295 : Int64))) + (XT.ushrL ((xx &&& (4294967295 : Int64)) * (yy &&& (4294967295 : Int64))) (32 : Int32))) >>> ((32 : Int32).toInt64 &&& 63))) + ((((((xx >>> ((32 : Int32).toInt64 &&& 63)) * (yy &&& (4294967295 : Int64))) + (XT.ushrL ((xx &&& (4294967295 : Int64)) * (yy &&& (4294967295 : Int64))) (32 : Int32))) &&& (4294967295 : Int64)) + ((xx &&& (4294967295 : Int64)) * (yy >>> ((32 : Int32).toInt64 &&& 63)))) >>> ((32 : Int32).toInt64 &&& 63)))) rfl rfl ?_
  exact own_retV w0 (t := .long) rfl rfl (Or.inr (Or.inl ⟨rfl, rfl, _, rfl⟩)) own_d2_85 (by decide) (by decide) (ms' := []) all0 ⟨rfl, rfl, rfl⟩
theorem own_d3_0 : decode prog_41_method_8_code 0 = .ok (.lload_n 0, 1) := by decide +kernel
theorem own_d3_1 : decode prog_41_method_8_code 1 = .ok (.lload_n 2, 1) := by decide +kernel
theorem own_d3_2 : decode prog_41_method_8_code 2 = .ok (.bipush 63, 2) := by decide +kernel
theorem own_d3_4 : decode prog_41_method_8_code 4 = .ok (.lshr, 1) := by decide +kernel
theorem own_d3_5 : decode prog_41_method_8_code 5 = .ok (.lcmp, 1) := by decide +kernel
theorem own_d3_6 : decode prog_41_method_8_code 6 = .ok (.ifCond .ne 39, 3) := by decide +kernel
theorem own_d3_9 : decode prog_41_method_8_code 9 = .ok (.lload 4, 2) := by decide +kernel
theorem own_d3_11 : decode prog_41_method_8_code 11 = .ok (.lload 6, 2) := by decide +kernel
theorem own_d3_13 : decode prog_41_method_8_code 13 = .ok (.bipush 63, 2) := by decide +kernel
theorem own_d3_15 : decode prog_41_method_8_code 15 = .ok (.lshr, 1) := by decide +kernel
theorem own_d3_16 : decode prog_41_method_8_code 16 = .ok (.lcmp, 1) := by decide +kernel
theorem own_d3_17 : decode prog_41_method_8_code 17 = .ok (.ifCond .ne 28, 3) := by decide +kernel
theorem own_d3_20 : decode prog_41_method_8_code 20 = .ok (.aload 8, 2) := by decide +kernel
theorem own_d3_22 : decode prog_41_method_8_code 22 = .ok (.iload 9, 2) := by decide +kernel
theorem own_d3_24 : decode prog_41_method_8_code 24 = .ok (.lload_n 2, 1) := by decide +kernel
theorem own_d3_25 : decode prog_41_method_8_code 25 = .ok (.lload 6, 2) := by decide +kernel
theorem own_d3_27 : decode prog_41_method_8_code 27 = .ok (.invokestatic 51, 3) := by decide +kernel
theorem own_pd1 : parseMethodDescriptor "(JJ)J" = some ⟨[.long, .long], some .long⟩ := by decide +kernel
theorem own_d3_30 : decode prog_41_method_8_code 30 = .ok (.lastore, 1) := by decide +kernel
theorem own_d3_31 : decode prog_41_method_8_code 31 = .ok (.aload 8, 2) := by decide +kernel
theorem own_d3_33 : decode prog_41_method_8_code 33 = .ok (.iload 9, 2) := by decide +kernel
theorem own_d3_35 : decode prog_41_method_8_code 35 = .ok (.iconst 1, 1) := by decide +kernel
theorem own_d3_36 : decode prog_41_method_8_code 36 = .ok (.iadd, 1) := by decide +kernel
theorem own_d3_37 : decode prog_41_method_8_code 37 = .ok (.lload_n 2, 1) := by decide +kernel
theorem own_d3_38 : decode prog_41_method_8_code 38 = .ok (.lload 6, 2) := by decide +kernel
theorem own_d3_40 : decode prog_41_method_8_code 40 = .ok (.lmul, 1) := by decide +kernel
theorem own_d3_41 : decode prog_41_method_8_code 41 = .ok (.lastore, 1) := by decide +kernel
theorem own_d3_42 : decode prog_41_method_8_code 42 = .ok (.goto 16, 3) := by decide +kernel
theorem own_d3_58 : decode prog_41_method_8_code 58 = .ok (.return_, 1) := by decide +kernel
theorem own_ef_timesS (m : MethodId) (ah : Int64) (al : Int64) (bh : Int64) (bl : Int64) (to : Addr) : entryFrame m #[(.long ah), (.long al), (.long bh), (.long bl), (.ref to), (.int (0 : Int32))] 10 = mkF m 0 #[.val (.long ah), .second, .val (.long al), .second, .val (.long bh), .second, .val (.long bl), .second, .val (.ref to), .val (.int (0 : Int32))] [] := by first | (simp [entryFrame, mkF, argsToLocals, Value.category]; done) | rfl
theorem own_pf3 : plainFor (⟨"com/example/throng/throng/engine/Count", "times", "(JJJJ[JI)V"⟩ : MethodName) = true := by first | exact plainFor_of_name (by first | (simp [plainName, overriddenIn]; done) | decide +kernel) | decide +kernel
def own_Q_timesS (Z : State) (h0 : Heap) (ah : Int64) (al : Int64) (bh : Int64) (bl : Int64) (to : Addr) (kt : ClassId) (v : Option Value) (h : Heap) (ms : List Addr) : Prop := (Keep h0 h [to]) ∧ (ms = []) ∧ (v = none) ∧ (Arv Z h to kt .long (2 : Int32) [(.long (own_mh al bl)), (.long (al * bl))] (.long 0))
set_option maxRecDepth 65536 in
set_option maxHeartbeats 40000000 in
theorem own_ct_timesS (l : Launch) (Z : State) (a0 : Array Value) (hw : ∀ d ∈ tables_1, d.before a0 Z = true) (EL : List (String × Nat)) (hE : EW Z a0 EL) (n0 : Nat) (ws : List Jvm.Cond) (h0 : Heap) (O : Old Z n0 h0) (ah : Int64) (al : Int64) (bh : Int64) (bl : Int64) (to : Addr) (kt : ClassId) (A_to : Arv Z h0 to kt .long (2 : Int32) [(.long 0), (.long 0)] (.long 0)) (h1 : ah = own_sgn al) (h2 : bh = own_sgn bl) :
    own_Ct l Z EL n0 (⟨"com/example/throng/throng/engine/Count", "times", "(JJJJ[JI)V"⟩ : MethodName) prog_41_method_8_code 10 none ws ({ frames := 1, cells := 0, slots := 0, locals := 33 } : Room) #[(.long ah), (.long al), (.long bh), (.long bl), (.ref to), (.int (0 : Int32))] h0 [to] (own_Q_timesS Z h0 ah al bh bl to kt) := by
  refine own_enter (a0 := a0) own_pf3 hE O fun p e s m below meth c T0 w0 => ?_
  rw [own_ef_timesS m ah al bh bl to]
  have K : Keep h0 h0 [to] := Keep.refl _ _
  refine own_lloadN (pc' := 1) w0 own_d3_0 rfl rfl ?_
  refine own_lloadN (pc' := 2) w0 own_d3_1 rfl rfl ?_
  refine own_bipush (pc' := 4) w0 own_d3_2 (x := (63 : Int32)) rfl rfl ?_
  refine own_lshr (pc' := 5) w0 own_d3_4 (z := (own_sgn al)) rfl rfl ?_
  refine own_lcmp (pc' := 6) w0 own_d3_5 (z := (XT.cmpL ah (own_sgn al))) rfl rfl ?_
  refine own_if (pc' := 9) w0 own_d3_6 rfl (by decide) (pcY := 45) rfl (fun (hb6 : ¬ (XT.cmpL ah (own_sgn al)) = (0 : Int32)) => absurd (own_cmp0 h1) hb6) (fun (hb6 : (XT.cmpL ah (own_sgn al)) = (0 : Int32)) => ?_)
  refine own_lload (pc' := 11) w0 own_d3_9 rfl rfl ?_
  refine own_lload (pc' := 13) w0 own_d3_11 rfl rfl ?_
  refine own_bipush (pc' := 15) w0 own_d3_13 (x := (63 : Int32)) rfl rfl ?_
  refine own_lshr (pc' := 16) w0 own_d3_15 (z := (own_sgn bl)) rfl rfl ?_
  refine own_lcmp (pc' := 17) w0 own_d3_16 (z := (XT.cmpL bh (own_sgn bl))) rfl rfl ?_
  refine own_if (pc' := 20) w0 own_d3_17 rfl (by decide) (pcY := 45) rfl (fun (hb17 : ¬ (XT.cmpL bh (own_sgn bl)) = (0 : Int32)) => absurd (own_cmp0 h2) hb17) (fun (hb17 : (XT.cmpL bh (own_sgn bl)) = (0 : Int32)) => ?_)
  refine own_aload (pc' := 22) w0 own_d3_20 rfl rfl rfl ?_
  refine own_iload (pc' := 24) w0 own_d3_22 rfl rfl ?_
  refine own_lloadN (pc' := 25) w0 own_d3_24 rfl rfl ?_
  refine own_lload (pc' := 27) w0 own_d3_25 rfl rfl ?_
  refine own_callS (pc' := 30) w0 (hw _ (List.mem_of_getElem? (i := 38) rfl)) (hw _ (List.mem_of_getElem? (i := 39) rfl)) (hw _ (List.mem_of_getElem? (i := 40) rfl)) (hw _ (List.mem_of_getElem? (i := 41) rfl)) (by decide) (own_ct_mulH l Z a0 hw EL hE n0 [] h0 (own_old w0) al bl ) all0 (argsL := [(.long al), (.long bl)]) (rest := [(.int (0 : Int32)), (.ref to)]) rfl rfl own_pd1 rfl own_d3_27 rfl (by decide) (W := 2) rfl (by decide) (by decide) (by decide) fun T1 h3 v4 ms5 w2 q6 => ?_
  obtain ⟨rfl, rfl, rfl⟩ := q6
  show own_Go Z EL n0 p e below s _ _ _ (T1.setTop (mkF m 30 #[.val (.long ah), .second, .val (.long al), .second, .val (.long bh), .second, .val (.long bl), .second, .val (.ref to), .val (.int (0 : Int32))] [(.long (own_mh al bl)), (.int (0 : Int32)), (.ref to)]))
  refine own_stJ (pc' := 31) w2 (i := 0) (xv := (.long (own_mh al bl))) (vs' := [(.long (own_mh al bl)), (.long 0)]) (by simp) A_to (by decide) rfl (Nat.lt_of_sub_eq_succ rfl) rfl rfl rfl own_d3_30 rfl fun T7 h9 w8 W10 A_new => ?_
  clear A_to
  replace K := K.wr W10 (Or.inl (by simp))
  have A_to := A_new
  clear A_new
  refine own_aload (pc' := 33) w8 own_d3_31 rfl rfl rfl ?_
  refine own_iload (pc' := 35) w8 own_d3_33 rfl rfl ?_
  refine own_iconst (pc' := 36) w8 own_d3_35 (x := (1 : Int32)) rfl rfl ?_
  refine own_iadd (pc' := 37) w8 own_d3_36 (z := (1 : Int32)) (by decide) rfl ?_
  refine own_lloadN (pc' := 38) w8 own_d3_37 rfl rfl ?_
  refine own_lload (pc' := 40) w8 own_d3_38 rfl rfl ?_
  refine own_lmul (pc' := 41) w8 own_d3_40 (z := (al * bl)) rfl rfl ?_
  refine own_stJ (pc' := 42) w8 (i := 1) (xv := (.long (al * bl))) (vs' := [(.long (own_mh al bl)), (.long (al * bl))]) (by simp) A_to (by decide) rfl (Nat.lt_of_sub_eq_succ rfl) rfl rfl rfl own_d3_41 rfl fun T11 h13 w12 W14 A_new => ?_
  clear A_to
  replace K := K.wr W14 (Or.inl (by simp))
  have A_to := A_new
  clear A_new
  refine own_goto w12 own_d3_42 (by decide) (pc' := 58) rfl ?_
  exact own_ret0 w12 rfl own_d3_58 (by decide) (by decide) (ms' := []) all0 ⟨K, rfl, rfl, A_to⟩
theorem own_d4_0 : decode prog_41_method_7_code 0 = .ok (.iconst 2, 1) := by decide +kernel
theorem own_d4_1 : decode prog_41_method_7_code 1 = .ok (.newarray .long, 2) := by decide +kernel
theorem own_d4_3 : decode prog_41_method_7_code 3 = .ok (.astore_n 2, 1) := by decide +kernel
theorem own_d4_4 : decode prog_41_method_7_code 4 = .ok (.aload_n 0, 1) := by decide +kernel
theorem own_d4_5 : decode prog_41_method_7_code 5 = .ok (.getfield 7, 3) := by decide +kernel
theorem own_d4_8 : decode prog_41_method_7_code 8 = .ok (.aload_n 0, 1) := by decide +kernel
theorem own_d4_9 : decode prog_41_method_7_code 9 = .ok (.getfield 13, 3) := by decide +kernel
theorem own_d4_12 : decode prog_41_method_7_code 12 = .ok (.aload_n 1, 1) := by decide +kernel
theorem own_d4_13 : decode prog_41_method_7_code 13 = .ok (.getfield 7, 3) := by decide +kernel
theorem own_d4_16 : decode prog_41_method_7_code 16 = .ok (.aload_n 1, 1) := by decide +kernel
theorem own_d4_17 : decode prog_41_method_7_code 17 = .ok (.getfield 13, 3) := by decide +kernel
theorem own_d4_20 : decode prog_41_method_7_code 20 = .ok (.aload_n 2, 1) := by decide +kernel
theorem own_d4_21 : decode prog_41_method_7_code 21 = .ok (.iconst 0, 1) := by decide +kernel
theorem own_d4_22 : decode prog_41_method_7_code 22 = .ok (.invokestatic 49, 3) := by decide +kernel
theorem own_pd2 : parseMethodDescriptor "(JJJJ[JI)V" = some ⟨[.long, .long, .long, .long, (.array .long), .int], none⟩ := by decide +kernel
theorem own_d4_25 : decode prog_41_method_7_code 25 = .ok (.new 8, 3) := by decide +kernel
theorem own_d4_28 : decode prog_41_method_7_code 28 = .ok (.dup, 1) := by decide +kernel
theorem own_d4_29 : decode prog_41_method_7_code 29 = .ok (.aload_n 2, 1) := by decide +kernel
theorem own_d4_30 : decode prog_41_method_7_code 30 = .ok (.iconst 0, 1) := by decide +kernel
theorem own_d4_31 : decode prog_41_method_7_code 31 = .ok (.laload, 1) := by decide +kernel
theorem own_d4_32 : decode prog_41_method_7_code 32 = .ok (.aload_n 2, 1) := by decide +kernel
theorem own_d4_33 : decode prog_41_method_7_code 33 = .ok (.iconst 1, 1) := by decide +kernel
theorem own_d4_34 : decode prog_41_method_7_code 34 = .ok (.laload, 1) := by decide +kernel
theorem own_d4_35 : decode prog_41_method_7_code 35 = .ok (.invokespecial 18, 3) := by decide +kernel
theorem own_d4_38 : decode prog_41_method_7_code 38 = .ok (.areturn, 1) := by decide +kernel
theorem own_ef_times (m : MethodId) (a1 : Addr) (a2 : Addr) : entryFrame m #[(.ref a1), (.ref a2)] 3 = mkF m 0 #[.val (.ref a1), .val (.ref a2), .unset] [] := by first | (simp [entryFrame, mkF, argsToLocals, Value.category]; done) | rfl
theorem own_pf4 : plainFor (⟨"com/example/throng/throng/engine/Count", "times", "(Lcom/example/throng/throng/engine/Count;)Lcom/example/throng/throng/engine/Count;"⟩ : MethodName) = true := by first | exact plainFor_of_name (by first | (simp [plainName, overriddenIn]; done) | decide +kernel) | decide +kernel
def own_Q_times (Z : State) (h0 : Heap) (a1 : Addr) (a2 : Addr) (al : Int64) (bl : Int64) (v : Option Value) (h : Heap) (ms : List Addr) : Prop := (Keep h0 h []) ∧ (∃ (r : Addr), (ms = []) ∧ (v = some (.ref r)) ∧ (Exa Z h r "com/example/throng/throng/engine/Count") ∧ (Fld Z h r "com/example/throng/throng/engine/Count" "low" "J" (.long (al * bl))) ∧ (Fld Z h r "com/example/throng/throng/engine/Count" "high" "J" (.long (own_mh al bl))) ∧ (h0.size ≤ r))
set_option maxRecDepth 65536 in
set_option maxHeartbeats 40000000 in
theorem own_ct_times (l : Launch) (Z : State) (a0 : Array Value) (hw : ∀ d ∈ tables_1, d.before a0 Z = true) (EL : List (String × Nat)) (hE : EW Z a0 EL) (n0 : Nat) (ws : List Jvm.Cond) (h0 : Heap) (O : Old Z n0 h0) (a1 : Addr) (a2 : Addr) (al : Int64) (bl : Int64) (F_a1_low : Fld Z h0 a1 "com/example/throng/throng/engine/Count" "low" "J" (.long al)) (F_a1_high : Fld Z h0 a1 "com/example/throng/throng/engine/Count" "high" "J" (.long (own_sgn al))) (F_a2_low : Fld Z h0 a2 "com/example/throng/throng/engine/Count" "low" "J" (.long bl)) (F_a2_high : Fld Z h0 a2 "com/example/throng/throng/engine/Count" "high" "J" (.long (own_sgn bl))) :
    own_Ct l Z EL n0 (⟨"com/example/throng/throng/engine/Count", "times", "(Lcom/example/throng/throng/engine/Count;)Lcom/example/throng/throng/engine/Count;"⟩ : MethodName) prog_41_method_7_code 3 (some (.object "com/example/throng/throng/engine/Count")) ws ({ frames := 2, cells := 2, slots := 4, locals := 54 } : Room) #[(.ref a1), (.ref a2)] h0 [] (own_Q_times Z h0 a1 a2 al bl) := by
  refine own_enter (a0 := a0) own_pf4 hE O fun p e s m below meth c T0 w0 => ?_
  rw [own_ef_times m a1 a2]
  have K : Keep h0 h0 [] := Keep.refl _ _
  refine own_iconst (pc' := 1) w0 own_d4_0 (x := (2 : Int32)) rfl rfl ?_
  refine own_newP (pc' := 3) w0 (vs := [(.long 0), (.long 0)]) (dv := (.long 0)) (cap := 2) (hw _ (List.mem_of_getElem? (i := 9) rfl)) own_d4_1 rfl (by decide) (by decide) (by decide) rfl (own_rep 2 (.long 0)) (by decide) (by decide) fun T1 h3 a5 g_a5 w2 E4 ⟨k_a5, A_a5⟩ => ?_
  have ne_a1_a5 : a1 ≠ a5 := Nat.ne_of_lt (Nat.lt_of_lt_of_le F_a1_low.lt (Nat.le_of_eq g_a5))
  have ne_a2_a5 : a2 ≠ a5 := Nat.ne_of_lt (Nat.lt_of_lt_of_le F_a2_low.lt (Nat.le_of_eq g_a5))
  have nw_a5 : h0.size ≤ a5 := Nat.le_trans K.1 (Nat.le_of_eq g_a5)
  replace F_a1_low := F_a1_low.ext E4
  replace F_a1_high := F_a1_high.ext E4
  replace F_a2_low := F_a2_low.ext E4
  replace F_a2_high := F_a2_high.ext E4
  replace K := K.ext E4
  refine own_astoreN (pc' := 4) w2 own_d4_3 rfl (Ls' := #[.val (.ref a1), .val (.ref a2), .val (.ref a5)]) rfl rfl ?_
  refine own_aloadN (pc' := 5) w2 own_d4_4 rfl rfl rfl ?_
  refine own_getF (pc' := 8) w2 (host := "") (Or.inl (hw _ (List.mem_of_getElem? (i := 26) rfl))) Via.refl F_a1_high own_d4_5 rfl fun T6 w7 => ?_
  refine own_aloadN (pc' := 9) w7 own_d4_8 rfl rfl rfl ?_
  refine own_getF (pc' := 12) w7 (host := "") (Or.inl (hw _ (List.mem_of_getElem? (i := 28) rfl))) Via.refl F_a1_low own_d4_9 rfl fun T8 w9 => ?_
  refine own_aloadN (pc' := 13) w9 own_d4_12 rfl rfl rfl ?_
  refine own_getF (pc' := 16) w9 (host := "") (Or.inl (hw _ (List.mem_of_getElem? (i := 26) rfl))) Via.refl F_a2_high own_d4_13 rfl fun T10 w11 => ?_
  refine own_aloadN (pc' := 17) w11 own_d4_16 rfl rfl rfl ?_
  refine own_getF (pc' := 20) w11 (host := "") (Or.inl (hw _ (List.mem_of_getElem? (i := 28) rfl))) Via.refl F_a2_low own_d4_17 rfl fun T12 w13 => ?_
  refine own_aloadN (pc' := 21) w13 own_d4_20 rfl rfl rfl ?_
  refine own_iconst (pc' := 22) w13 own_d4_21 (x := (0 : Int32)) rfl rfl ?_
  refine own_callS (pc' := 25) w13 (hw _ (List.mem_of_getElem? (i := 35) rfl)) (hw _ (List.mem_of_getElem? (i := 36) rfl)) (hw _ (List.mem_of_getElem? (i := 18) rfl)) (hw _ (List.mem_of_getElem? (i := 37) rfl)) (by decide) (own_ct_timesS l Z a0 hw EL hE n0 [] h3 (own_old w13) (own_sgn al) al (own_sgn bl) bl a5 k_a5 A_a5 (rfl) (rfl)) (allS (P := fun x => x ∈ _) (by simp) all0) (argsL := [(.long (own_sgn al)), (.long al), (.long (own_sgn bl)), (.long bl), (.ref a5), (.int (0 : Int32))]) (rest := []) rfl rfl own_pd2 rfl own_d4_22 rfl (by decide) (W := 0) rfl (by decide) (by decide) (by decide) fun T14 h16 v17 ms18 w15 q19 => ?_
  obtain ⟨K20, rfl, rfl, nw_A_a5⟩ := q19
  replace F_a1_low := F_a1_low.keep K20 (ninS ne_a1_a5 nin0)
  replace F_a1_high := F_a1_high.keep K20 (ninS ne_a1_a5 nin0)
  replace F_a2_low := F_a2_low.keep K20 (ninS ne_a2_a5 nin0)
  replace F_a2_high := F_a2_high.keep K20 (ninS ne_a2_a5 nin0)
  replace K := K.trans K20 (allS (P := fun x => x ∈ ([] : List Addr) ∨ h0.size ≤ x) (Or.inr nw_a5) all0)
  have A_a5 := nw_A_a5; clear nw_A_a5
  show own_Go Z EL n0 p e below s _ _ _ (T14.setTop (mkF m 25 #[.val (.ref a1), .val (.ref a2), .val (.ref a5)] []))
  refine own_newO (pc' := 28) w15 (hw _ (List.mem_of_getElem? (i := 20) rfl)) (hw _ (List.mem_of_getElem? (i := 21) rfl)) (hw _ (List.mem_of_getElem? (i := 18) rfl)) own_d4_25 rfl (by decide) (by decide) fun T21 h23 a25 g_a25 w22 E24 ⟨E_a25, D26⟩ => ?_
  have ne_a1_a25 : a1 ≠ a25 := Nat.ne_of_lt (Nat.lt_of_lt_of_le F_a1_low.lt (Nat.le_of_eq g_a25))
  have ne_a2_a25 : a2 ≠ a25 := Nat.ne_of_lt (Nat.lt_of_lt_of_le F_a2_low.lt (Nat.le_of_eq g_a25))
  have ne_a5_a25 : a5 ≠ a25 := Nat.ne_of_lt (Nat.lt_of_lt_of_le A_a5.lt (Nat.le_of_eq g_a25))
  have nw_a25 : h0.size ≤ a25 := Nat.le_trans K.1 (Nat.le_of_eq g_a25)
  replace F_a1_low := F_a1_low.ext E24
  replace F_a1_high := F_a1_high.ext E24
  replace F_a2_low := F_a2_low.ext E24
  replace F_a2_high := F_a2_high.ext E24
  replace A_a5 := A_a5.ext E24
  replace K := K.ext E24
  have F_a25_high : Fld Z h23 a25 "com/example/throng/throng/engine/Count" "high" "J" (.long 0) := D26 (Or.inr (hw _ (List.mem_of_getElem? (i := 27) rfl))) (ty := .long) (by decide)
  have F_a25_low : Fld Z h23 a25 "com/example/throng/throng/engine/Count" "low" "J" (.long 0) := D26 (Or.inr (hw _ (List.mem_of_getElem? (i := 29) rfl))) (ty := .long) (by decide)
  refine own_dup (pc' := 29) w22 own_d4_28 rfl rfl ?_
  refine own_aloadN (pc' := 30) w22 own_d4_29 rfl rfl rfl ?_
  refine own_iconst (pc' := 31) w22 own_d4_30 (x := (0 : Int32)) rfl rfl ?_
  refine own_ldJ (pc' := 32) w22 (v := (.long (own_mh al bl))) A_a5 (by decide) rfl own_d4_31 rfl ?_
  refine own_aloadN (pc' := 33) w22 own_d4_32 rfl rfl rfl ?_
  refine own_iconst (pc' := 34) w22 own_d4_33 (x := (1 : Int32)) rfl rfl ?_
  refine own_ldJ (pc' := 35) w22 (v := (.long (al * bl))) A_a5 (by decide) rfl own_d4_34 rfl ?_
  refine own_callI (pc' := 38) w22 rfl (hw _ (List.mem_of_getElem? (i := 22) rfl)) (hw _ (List.mem_of_getElem? (i := 23) rfl)) (hw _ (List.mem_of_getElem? (i := 18) rfl)) (hw _ (List.mem_of_getElem? (i := 24) rfl)) (by decide) (own_ct_cInit l Z a0 hw EL hE n0 [] h23 (own_old w22) a25 (own_mh al bl) (al * bl) (.long 0) (.long 0) E_a25 F_a25_high F_a25_low) (allS (P := fun x => x ∈ _) (by simp) all0) (argsL := [(.long (own_mh al bl)), (.long (al * bl))]) (rest := [(.ref a25)]) rfl rfl own_pd0 rfl own_d4_35 rfl (by decide) (W := 1) rfl (by decide) (by decide) (by decide) fun T27 h29 v30 ms31 w28 q32 => ?_
  obtain ⟨K33, rfl, rfl, nw_E_a25, nw_F_a25_low, nw_F_a25_high⟩ := q32
  replace F_a1_low := F_a1_low.keep K33 (ninS ne_a1_a25 nin0)
  replace F_a1_high := F_a1_high.keep K33 (ninS ne_a1_a25 nin0)
  replace F_a2_low := F_a2_low.keep K33 (ninS ne_a2_a25 nin0)
  replace F_a2_high := F_a2_high.keep K33 (ninS ne_a2_a25 nin0)
  replace A_a5 := A_a5.keep K33 (ninS ne_a5_a25 nin0)
  replace K := K.trans K33 (allS (P := fun x => x ∈ ([] : List Addr) ∨ h0.size ≤ x) (Or.inr nw_a25) all0)
  have E_a25 := nw_E_a25; clear nw_E_a25
  have F_a25_low := nw_F_a25_low; clear nw_F_a25_low
  have F_a25_high := nw_F_a25_high; clear nw_F_a25_high
  show own_Go Z EL n0 p e below s _ _ _ (T27.setTop (mkF m 38 #[.val (.ref a1), .val (.ref a2), .val (.ref a5)] [(.ref a25)]))
  exact own_retV w28 (t := (.object "com/example/throng/throng/engine/Count")) rfl (own_narR rfl rfl) (Or.inr (Or.inr (Or.inr (Or.inr ⟨rfl, rfl, rfl⟩)))) own_d4_38 (by decide) (by decide) (ms' := []) all0 ⟨K, a25, rfl, rfl, E_a25, F_a25_low, F_a25_high, nw_a25⟩
theorem own_d5_0 : decode prog_41_method_16_code 0 = .ok (.aload_n 1, 1) := by decide +kernel
theorem own_d5_1 : decode prog_41_method_16_code 1 = .ok (.instanceof 8, 3) := by decide +kernel
theorem own_d5_4 : decode prog_41_method_16_code 4 = .ok (.ifCond .eq 36, 3) := by decide +kernel
theorem own_d5_7 : decode prog_41_method_16_code 7 = .ok (.aload_n 1, 1) := by decide +kernel
theorem own_d5_8 : decode prog_41_method_16_code 8 = .ok (.checkcast 8, 3) := by decide +kernel
theorem own_d5_11 : decode prog_41_method_16_code 11 = .ok (.astore_n 2, 1) := by decide +kernel
theorem own_d5_12 : decode prog_41_method_16_code 12 = .ok (.aload_n 2, 1) := by decide +kernel
theorem own_d5_13 : decode prog_41_method_16_code 13 = .ok (.getfield 7, 3) := by decide +kernel
theorem own_d5_16 : decode prog_41_method_16_code 16 = .ok (.aload_n 0, 1) := by decide +kernel
theorem own_d5_17 : decode prog_41_method_16_code 17 = .ok (.getfield 7, 3) := by decide +kernel
theorem own_d5_20 : decode prog_41_method_16_code 20 = .ok (.lcmp, 1) := by decide +kernel
theorem own_d5_21 : decode prog_41_method_16_code 21 = .ok (.ifCond .ne 19, 3) := by decide +kernel
theorem own_d5_24 : decode prog_41_method_16_code 24 = .ok (.aload_n 2, 1) := by decide +kernel
theorem own_d5_25 : decode prog_41_method_16_code 25 = .ok (.getfield 13, 3) := by decide +kernel
theorem own_d5_28 : decode prog_41_method_16_code 28 = .ok (.aload_n 0, 1) := by decide +kernel
theorem own_d5_29 : decode prog_41_method_16_code 29 = .ok (.getfield 13, 3) := by decide +kernel
theorem own_d5_32 : decode prog_41_method_16_code 32 = .ok (.lcmp, 1) := by decide +kernel
theorem own_d5_33 : decode prog_41_method_16_code 33 = .ok (.ifCond .ne 7, 3) := by decide +kernel
theorem own_d5_36 : decode prog_41_method_16_code 36 = .ok (.iconst 1, 1) := by decide +kernel
theorem own_d5_37 : decode prog_41_method_16_code 37 = .ok (.goto 4, 3) := by decide +kernel
theorem own_d5_41 : decode prog_41_method_16_code 41 = .ok (.ireturn, 1) := by decide +kernel
theorem own_ef_ceq (m : MethodId) (a1 : Addr) (a2 : Addr) : entryFrame m #[(.ref a1), (.ref a2)] 3 = mkF m 0 #[.val (.ref a1), .val (.ref a2), .unset] [] := by first | (simp [entryFrame, mkF, argsToLocals, Value.category]; done) | rfl
theorem own_pf5 : plainFor (⟨"com/example/throng/throng/engine/Count", "equals", "(Ljava/lang/Object;)Z"⟩ : MethodName) = true := by first | exact plainFor_of_name (by first | (simp [plainName, overriddenIn]; done) | decide +kernel) | decide +kernel
def own_Q_ceq (Z : State) (h0 : Heap) (a1 : Addr) (a2 : Addr) (ah : Int64) (al : Int64) (v : Option Value) (h : Heap) (ms : List Addr) : Prop := (h0 = h) ∧ (ms = []) ∧ (v = some (.int 1))
set_option maxRecDepth 65536 in
set_option maxHeartbeats 40000000 in
theorem own_ct_ceq (l : Launch) (Z : State) (a0 : Array Value) (hw : ∀ d ∈ tables_1, d.before a0 Z = true) (EL : List (String × Nat)) (hE : EW Z a0 EL) (n0 : Nat) (ws : List Jvm.Cond) (h0 : Heap) (O : Old Z n0 h0) (a1 : Addr) (a2 : Addr) (ah : Int64) (al : Int64) (F_a1_low : Fld Z h0 a1 "com/example/throng/throng/engine/Count" "low" "J" (.long al)) (F_a1_high : Fld Z h0 a1 "com/example/throng/throng/engine/Count" "high" "J" (.long ah)) (E_a2 : Exa Z h0 a2 "com/example/throng/throng/engine/Count") (F_a2_low : Fld Z h0 a2 "com/example/throng/throng/engine/Count" "low" "J" (.long al)) (F_a2_high : Fld Z h0 a2 "com/example/throng/throng/engine/Count" "high" "J" (.long ah)) :
    own_Ct l Z EL n0 (⟨"com/example/throng/throng/engine/Count", "equals", "(Ljava/lang/Object;)Z"⟩ : MethodName) prog_41_method_16_code 3 (some .boolean) ws ({ frames := 0, cells := 0, slots := 0, locals := 0 } : Room) #[(.ref a1), (.ref a2)] h0 [] (own_Q_ceq Z h0 a1 a2 ah al) := by
  refine own_enter (a0 := a0) own_pf5 hE O fun p e s m below meth c T0 w0 => ?_
  rw [own_ef_ceq m a1 a2]
  refine own_aloadN (pc' := 1) w0 own_d5_0 rfl rfl rfl ?_
  refine own_instY (pc' := 4) w0 (hw _ (List.mem_of_getElem? (i := 20) rfl)) (Ins.self E_a2) own_d5_1 rfl fun T1 w2 => ?_
  refine own_if (pc' := 7) w2 own_d5_4 rfl (by decide) (pcY := 40) rfl (fun (hb4 : (1 : Int32) = (0 : Int32)) => absurd hb4 (by decide)) (fun (hb4 : ¬ (1 : Int32) = (0 : Int32)) => ?_)
  refine own_aloadN (pc' := 8) w2 own_d5_7 rfl rfl rfl ?_
  refine own_castY (pc' := 11) w2 (hw _ (List.mem_of_getElem? (i := 20) rfl)) (Ins.self E_a2) own_d5_8 rfl fun T3 w4 => ?_
  refine own_astoreN (pc' := 12) w4 own_d5_11 rfl (Ls' := #[.val (.ref a1), .val (.ref a2), .val (.ref a2)]) rfl rfl ?_
  refine own_aloadN (pc' := 13) w4 own_d5_12 rfl rfl rfl ?_
  refine own_getF (pc' := 16) w4 (host := "") (Or.inl (hw _ (List.mem_of_getElem? (i := 26) rfl))) Via.refl F_a2_high own_d5_13 rfl fun T5 w6 => ?_
  refine own_aloadN (pc' := 17) w6 own_d5_16 rfl rfl rfl ?_
  refine own_getF (pc' := 20) w6 (host := "") (Or.inl (hw _ (List.mem_of_getElem? (i := 26) rfl))) Via.refl F_a1_high own_d5_17 rfl fun T7 w8 => ?_
  refine own_lcmp (pc' := 21) w8 own_d5_20 (z := (XT.cmpL ah ah)) rfl rfl ?_
  refine own_if (pc' := 24) w8 own_d5_21 rfl (by decide) (pcY := 40) rfl (fun (hb21 : ¬ (XT.cmpL ah ah) = (0 : Int32)) => absurd (own_cmp0 rfl) hb21) (fun (hb21 : (XT.cmpL ah ah) = (0 : Int32)) => ?_)
  refine own_aloadN (pc' := 25) w8 own_d5_24 rfl rfl rfl ?_
  refine own_getF (pc' := 28) w8 (host := "") (Or.inl (hw _ (List.mem_of_getElem? (i := 28) rfl))) Via.refl F_a2_low own_d5_25 rfl fun T9 w10 => ?_
  refine own_aloadN (pc' := 29) w10 own_d5_28 rfl rfl rfl ?_
  refine own_getF (pc' := 32) w10 (host := "") (Or.inl (hw _ (List.mem_of_getElem? (i := 28) rfl))) Via.refl F_a1_low own_d5_29 rfl fun T11 w12 => ?_
  refine own_lcmp (pc' := 33) w12 own_d5_32 (z := (XT.cmpL al al)) rfl rfl ?_
  refine own_if (pc' := 36) w12 own_d5_33 rfl (by decide) (pcY := 40) rfl (fun (hb33 : ¬ (XT.cmpL al al) = (0 : Int32)) => absurd (own_cmp0 rfl) hb33) (fun (hb33 : (XT.cmpL al al) = (0 : Int32)) => ?_)
  refine own_iconst (pc' := 37) w12 own_d5_36 (x := (1 : Int32)) rfl rfl ?_
  refine own_goto w12 own_d5_37 (by decide) (pc' := 41) rfl ?_
  exact own_retV w12 (t := .boolean) rfl rfl (Or.inl ⟨rfl, by simp, _, rfl⟩) own_d5_41 (by decide) (by decide) (ms' := []) all0 ⟨rfl, rfl, rfl⟩
theorem own_d6_0 : decode jdk_35_method_57_code 0 = .ok (.lload_n 0, 1) := by decide +kernel
theorem own_d6_1 : decode jdk_35_method_57_code 1 = .ok (.bipush 63, 2) := by decide +kernel
theorem own_d6_3 : decode jdk_35_method_57_code 3 = .ok (.lshr, 1) := by decide +kernel
theorem own_d6_4 : decode jdk_35_method_57_code 4 = .ok (.lload_n 0, 1) := by decide +kernel
theorem own_d6_5 : decode jdk_35_method_57_code 5 = .ok (.lneg, 1) := by decide +kernel
theorem own_d6_6 : decode jdk_35_method_57_code 6 = .ok (.bipush 63, 2) := by decide +kernel
theorem own_d6_8 : decode jdk_35_method_57_code 8 = .ok (.lushr, 1) := by decide +kernel
theorem own_d6_9 : decode jdk_35_method_57_code 9 = .ok (.lor, 1) := by decide +kernel
theorem own_d6_10 : decode jdk_35_method_57_code 10 = .ok (.l2i, 1) := by decide +kernel
theorem own_d6_11 : decode jdk_35_method_57_code 11 = .ok (.ireturn, 1) := by decide +kernel
theorem own_ef_lsig0 (m : MethodId)  : entryFrame m #[(.long 0)] 2 = mkF m 0 #[.val (.long 0), .second] [] := by first | (simp [entryFrame, mkF, argsToLocals, Value.category]; done) | rfl
theorem own_pf6 : plainFor (⟨"java/lang/Long", "signum", "(J)I"⟩ : MethodName) = true := by first | exact plainFor_of_name (by first | (simp [plainName, overriddenIn]; done) | decide +kernel) | decide +kernel
def own_Q_lsig0 (Z : State) (h0 : Heap)  (v : Option Value) (h : Heap) (ms : List Addr) : Prop := (h0 = h) ∧ (ms = []) ∧ (v = some (.int 0))
set_option maxRecDepth 65536 in
set_option maxHeartbeats 40000000 in
theorem own_ct_lsig0 (l : Launch) (Z : State) (a0 : Array Value) (hw : ∀ d ∈ tables_1, d.before a0 Z = true) (EL : List (String × Nat)) (hE : EW Z a0 EL) (n0 : Nat) (ws : List Jvm.Cond) (h0 : Heap) (O : Old Z n0 h0)   :
    own_Ct l Z EL n0 (⟨"java/lang/Long", "signum", "(J)I"⟩ : MethodName) jdk_35_method_57_code 2 (some .int) ws ({ frames := 0, cells := 0, slots := 0, locals := 0 } : Room) #[(.long 0)] h0 [] (own_Q_lsig0 Z h0 ) := by
  refine own_enter (a0 := a0) own_pf6 hE O fun p e s m below meth c T0 w0 => ?_
  rw [own_ef_lsig0 m ]
  refine own_lloadN (pc' := 1) w0 own_d6_0 rfl rfl ?_
  refine own_bipush (pc' := 3) w0 own_d6_1 (x := (63 : Int32)) rfl rfl ?_
  refine own_lshr (pc' := 4) w0 own_d6_3 (z := (0 >>> ((63 : Int32).toInt64 &&& 63))) rfl rfl ?_
  refine own_lloadN (pc' := 5) w0 own_d6_4 rfl rfl ?_
  refine own_lneg (pc' := 6) w0 own_d6_5 (z := (-0)) rfl rfl ?_
  refine own_bipush (pc' := 8) w0 own_d6_6 (x := (63 : Int32)) rfl rfl ?_
  refine own_lushr (pc' := 9) w0 own_d6_8 (z := (XT.ushrL (-0) (63 : Int32))) rfl rfl ?_
  refine own_lor (pc' := 10) w0 own_d6_9 (z := ((0 >>> ((63 : Int32).toInt64 &&& 63)) ||| (XT.ushrL (-0) (63 : Int32)))) rfl rfl ?_
  refine own_l2i (pc' := 11) w0 own_d6_10 (z := (((0 >>> ((63 : Int32).toInt64 &&& 63)) ||| (XT.ushrL (-0) (63 : Int32))).toInt32)) rfl rfl ?_
  exact own_retV w0 (t := .int) rfl rfl (Or.inl ⟨rfl, by simp, _, rfl⟩) own_d6_11 (by decide) (by decide) (ms' := []) all0 ⟨rfl, rfl, (by rfl)⟩
theorem own_d7_0 : decode prog_42_method_2_code 0 = .ok (.aload_n 0, 1) := by decide +kernel
theorem own_d7_1 : decode prog_42_method_2_code 1 = .ok (.invokespecial 7, 3) := by decide +kernel
theorem own_d7_4 : decode prog_42_method_2_code 4 = .ok (.aload_n 0, 1) := by decide +kernel
theorem own_d7_5 : decode prog_42_method_2_code 5 = .ok (.iconst 2, 1) := by decide +kernel
theorem own_d7_6 : decode prog_42_method_2_code 6 = .ok (.newarray .long, 2) := by decide +kernel
theorem own_d7_8 : decode prog_42_method_2_code 8 = .ok (.putfield 12, 3) := by decide +kernel
theorem own_d7_11 : decode prog_42_method_2_code 11 = .ok (.aload_n 0, 1) := by decide +kernel
theorem own_d7_12 : decode prog_42_method_2_code 12 = .ok (.iload_n 2, 1) := by decide +kernel
theorem own_d7_13 : decode prog_42_method_2_code 13 = .ok (.putfield 16, 3) := by decide +kernel
theorem own_d7_16 : decode prog_42_method_2_code 16 = .ok (.aload_n 0, 1) := by decide +kernel
theorem own_d7_17 : decode prog_42_method_2_code 17 = .ok (.iload_n 2, 1) := by decide +kernel
theorem own_d7_18 : decode prog_42_method_2_code 18 = .ok (.ifCond .eq 7, 3) := by decide +kernel
theorem own_d7_21 : decode prog_42_method_2_code 21 = .ok (.iload_n 1, 1) := by decide +kernel
theorem own_d7_22 : decode prog_42_method_2_code 22 = .ok (.goto 6, 3) := by decide +kernel
theorem own_d7_28 : decode prog_42_method_2_code 28 = .ok (.newarray .long, 2) := by decide +kernel
theorem own_d7_30 : decode prog_42_method_2_code 30 = .ok (.putfield 20, 3) := by decide +kernel
theorem own_d7_33 : decode prog_42_method_2_code 33 = .ok (.return_, 1) := by decide +kernel
theorem own_ef_aInitN (m : MethodId) (a1 : Addr) : entryFrame m #[(.ref a1), (.int (2 : Int32)), (.int (1 : Int32))] 3 = mkF m 0 #[.val (.ref a1), .val (.int (2 : Int32)), .val (.int (1 : Int32))] [] := by first | (simp [entryFrame, mkF, argsToLocals, Value.category]; done) | rfl
theorem own_pf7 : plainFor (⟨"com/example/throng/throng/engine/Count$Array", "<init>", "(IZ)V"⟩ : MethodName) = true := by first | exact plainFor_of_name (by first | (simp [plainName, overriddenIn]; done) | decide +kernel) | decide +kernel
def own_Q_aInitN (Z : State) (h0 : Heap) (a1 : Addr) (u1 : Value) (u2 : Value) (u3 : Value) (v : Option Value) (h : Heap) (ms : List Addr) : Prop := (Keep h0 h [a1]) ∧ (∃ (t : Addr) (kt : ClassId), (ms = [t]) ∧ (v = none) ∧ (Exa Z h a1 "com/example/throng/throng/engine/Count$Array") ∧ (Fld Z h a1 "com/example/throng/throng/engine/Count$Array" "narrow" "Z" (.int (1 : Int32))) ∧ (Fld Z h a1 "com/example/throng/throng/engine/Count$Array" "bits" "[J" (.ref t)) ∧ (Arv Z h t kt .long (2 : Int32) [(.long 0), (.long 0)] (.long 0)) ∧ (h0.size ≤ t))
set_option maxRecDepth 65536 in
set_option maxHeartbeats 40000000 in
theorem own_ct_aInitN (l : Launch) (Z : State) (a0 : Array Value) (hw : ∀ d ∈ tables_1, d.before a0 Z = true) (EL : List (String × Nat)) (hE : EW Z a0 EL) (n0 : Nat) (ws : List Jvm.Cond) (h0 : Heap) (O : Old Z n0 h0) (a1 : Addr) (u1 : Value) (u2 : Value) (u3 : Value) (E_a1 : Exa Z h0 a1 "com/example/throng/throng/engine/Count$Array") (F_a1_product : Fld Z h0 a1 "com/example/throng/throng/engine/Count$Array" "product" "[J" u1) (F_a1_narrow : Fld Z h0 a1 "com/example/throng/throng/engine/Count$Array" "narrow" "Z" u2) (F_a1_bits : Fld Z h0 a1 "com/example/throng/throng/engine/Count$Array" "bits" "[J" u3) :
    own_Ct l Z EL n0 (⟨"com/example/throng/throng/engine/Count$Array", "<init>", "(IZ)V"⟩ : MethodName) prog_42_method_2_code 3 none ws ({ frames := 1, cells := 2, slots := 4, locals := 12 } : Room) #[(.ref a1), (.int (2 : Int32)), (.int (1 : Int32))] h0 [a1] (own_Q_aInitN Z h0 a1 u1 u2 u3) := by
  refine own_enter (a0 := a0) own_pf7 hE O fun p e s m below meth c T0 w0 => ?_
  rw [own_ef_aInitN m a1]
  have K : Keep h0 h0 [a1] := Keep.refl _ _
  refine own_aloadN (pc' := 1) w0 own_d7_0 rfl rfl rfl ?_
  refine own_initO (pc' := 4) w0 (hw _ (List.mem_of_getElem? (i := 6) rfl)) (hw _ (List.mem_of_getElem? (i := 7) rfl)) (hw _ (List.mem_of_getElem? (i := 8) rfl)) rfl own_d7_1 rfl (by decide) (W := 0) (Nat.le_of_eq rfl) (by decide) fun T1 w2 => ?_
  refine own_aloadN (pc' := 5) w2 own_d7_4 rfl rfl rfl ?_
  refine own_iconst (pc' := 6) w2 own_d7_5 (x := (2 : Int32)) rfl rfl ?_
  refine own_newP (pc' := 8) w2 (vs := [(.long 0), (.long 0)]) (dv := (.long 0)) (cap := 2) (hw _ (List.mem_of_getElem? (i := 9) rfl)) own_d7_6 rfl (by decide) (by decide) (by decide) rfl (own_rep 2 (.long 0)) (by decide) (by decide) fun T3 h5 a7 g_a7 w4 E6 ⟨k_a7, A_a7⟩ => ?_
  have ne_a1_a7 : a1 ≠ a7 := Nat.ne_of_lt (Nat.lt_of_lt_of_le E_a1.lt (Nat.le_of_eq g_a7))
  have nw_a7 : h0.size ≤ a7 := Nat.le_trans K.1 (Nat.le_of_eq g_a7)
  replace E_a1 := E_a1.ext E6
  replace F_a1_product := F_a1_product.ext E6
  replace F_a1_narrow := F_a1_narrow.ext E6
  replace F_a1_bits := F_a1_bits.ext E6
  replace K := K.ext E6
  refine own_putF (pc' := 11) w4 (host := "") (Or.inl (hw _ (List.mem_of_getElem? (i := 10) rfl))) Via.refl (by simp) F_a1_product E_a1 (Or.inr ⟨(hw _ (List.mem_of_getElem? (i := 11) rfl)), rfl, rfl⟩) (hw _ (List.mem_of_getElem? (i := 1) rfl)) (ty := (.array .long)) (by decide) rfl rfl own_d7_8 rfl fun T8 h10 w9 W11 => ?_
  replace F_a1_product := F_a1_product.same W11
  replace E_a1 := E_a1.wr W11
  replace F_a1_narrow := F_a1_narrow.other W11 (Or.inr (slot_ne (Or.inr (hw _ (List.mem_of_getElem? (i := 13) rfl))) (Or.inr (hw _ (List.mem_of_getElem? (i := 11) rfl))) (by decide) (t := .boolean) (t' := (.array .long)) (by decide) (by decide)))
  replace F_a1_bits := F_a1_bits.other W11 (Or.inr (slot_ne (Or.inr (hw _ (List.mem_of_getElem? (i := 15) rfl))) (Or.inr (hw _ (List.mem_of_getElem? (i := 11) rfl))) (by decide) (t := (.array .long)) (t' := (.array .long)) (by decide) (by decide)))
  replace A_a7 := A_a7.other W11 (Ne.symm ne_a1_a7)
  replace K := K.wr W11 (Or.inl (by simp))
  refine own_aloadN (pc' := 12) w9 own_d7_11 rfl rfl rfl ?_
  refine own_iloadN (pc' := 13) w9 own_d7_12 rfl rfl ?_
  refine own_putF (pc' := 16) w9 (host := "") (Or.inl (hw _ (List.mem_of_getElem? (i := 12) rfl))) Via.refl (by simp) F_a1_narrow E_a1 (Or.inr ⟨(hw _ (List.mem_of_getElem? (i := 13) rfl)), rfl, rfl⟩) (hw _ (List.mem_of_getElem? (i := 1) rfl)) (ty := .boolean) (by decide) rfl rfl own_d7_13 rfl fun T12 h14 w13 W15 => ?_
  replace F_a1_narrow := F_a1_narrow.same W15
  replace E_a1 := E_a1.wr W15
  replace F_a1_product := F_a1_product.other W15 (Or.inr (slot_ne (Or.inr (hw _ (List.mem_of_getElem? (i := 11) rfl))) (Or.inr (hw _ (List.mem_of_getElem? (i := 13) rfl))) (by decide) (t := (.array .long)) (t' := .boolean) (by decide) (by decide)))
  replace F_a1_bits := F_a1_bits.other W15 (Or.inr (slot_ne (Or.inr (hw _ (List.mem_of_getElem? (i := 15) rfl))) (Or.inr (hw _ (List.mem_of_getElem? (i := 13) rfl))) (by decide) (t := (.array .long)) (t' := .boolean) (by decide) (by decide)))
  replace A_a7 := A_a7.other W15 (Ne.symm ne_a1_a7)
  replace K := K.wr W15 (Or.inl (by simp))
  refine own_aloadN (pc' := 17) w13 own_d7_16 rfl rfl rfl ?_
  refine own_iloadN (pc' := 18) w13 own_d7_17 rfl rfl ?_
  refine own_if (pc' := 21) w13 own_d7_18 rfl (by decide) (pcY := 25) rfl (fun (hb18 : (1 : Int32) = (0 : Int32)) => absurd hb18 (by decide)) (fun (hb18 : ¬ (1 : Int32) = (0 : Int32)) => ?_)
  refine own_iloadN (pc' := 22) w13 own_d7_21 rfl rfl ?_
  refine own_goto w13 own_d7_22 (by decide) (pc' := 28) rfl ?_
  refine own_newP (pc' := 30) w13 (vs := [(.long 0), (.long 0)]) (dv := (.long 0)) (cap := 2) (hw _ (List.mem_of_getElem? (i := 9) rfl)) own_d7_28 rfl (by decide) (by decide) (by decide) rfl (own_rep 2 (.long 0)) (by decide) (by decide) fun T16 h18 a20 g_a20 w17 E19 ⟨k_a20, A_a20⟩ => ?_
  have ne_a1_a20 : a1 ≠ a20 := Nat.ne_of_lt (Nat.lt_of_lt_of_le E_a1.lt (Nat.le_of_eq g_a20))
  have ne_a7_a20 : a7 ≠ a20 := Nat.ne_of_lt (Nat.lt_of_lt_of_le A_a7.lt (Nat.le_of_eq g_a20))
  have nw_a20 : h0.size ≤ a20 := Nat.le_trans K.1 (Nat.le_of_eq g_a20)
  replace E_a1 := E_a1.ext E19
  replace F_a1_product := F_a1_product.ext E19
  replace F_a1_narrow := F_a1_narrow.ext E19
  replace F_a1_bits := F_a1_bits.ext E19
  replace A_a7 := A_a7.ext E19
  replace K := K.ext E19
  refine own_putF (pc' := 33) w17 (host := "") (Or.inl (hw _ (List.mem_of_getElem? (i := 14) rfl))) Via.refl (by simp) F_a1_bits E_a1 (Or.inr ⟨(hw _ (List.mem_of_getElem? (i := 15) rfl)), rfl, rfl⟩) (hw _ (List.mem_of_getElem? (i := 1) rfl)) (ty := (.array .long)) (by decide) rfl rfl own_d7_30 rfl fun T21 h23 w22 W24 => ?_
  replace F_a1_bits := F_a1_bits.same W24
  replace E_a1 := E_a1.wr W24
  replace F_a1_product := F_a1_product.other W24 (Or.inr (slot_ne (Or.inr (hw _ (List.mem_of_getElem? (i := 11) rfl))) (Or.inr (hw _ (List.mem_of_getElem? (i := 15) rfl))) (by decide) (t := (.array .long)) (t' := (.array .long)) (by decide) (by decide)))
  replace F_a1_narrow := F_a1_narrow.other W24 (Or.inr (slot_ne (Or.inr (hw _ (List.mem_of_getElem? (i := 13) rfl))) (Or.inr (hw _ (List.mem_of_getElem? (i := 15) rfl))) (by decide) (t := .boolean) (t' := (.array .long)) (by decide) (by decide)))
  replace A_a7 := A_a7.other W24 (Ne.symm ne_a1_a7)
  replace A_a20 := A_a20.other W24 (Ne.symm ne_a1_a20)
  replace K := K.wr W24 (Or.inl (by simp))
  exact own_ret0 w22 rfl own_d7_33 (by decide) (by decide) (ms' := [a20]) (allS (P := fun x => x ∈ _) (by simp) all0) ⟨K, a20, k_a20, rfl, rfl, E_a1, F_a1_narrow, F_a1_bits, A_a20, nw_a20⟩
theorem own_d8_0 : decode prog_42_method_4_code 0 = .ok (.aload_n 0, 1) := by decide +kernel
theorem own_d8_1 : decode prog_42_method_4_code 1 = .ok (.getfield 16, 3) := by decide +kernel
theorem own_d8_4 : decode prog_42_method_4_code 4 = .ok (.ifCond .eq 16, 3) := by decide +kernel
theorem own_d8_7 : decode prog_42_method_4_code 7 = .ok (.aload_n 0, 1) := by decide +kernel
theorem own_d8_8 : decode prog_42_method_4_code 8 = .ok (.getfield 20, 3) := by decide +kernel
theorem own_d8_11 : decode prog_42_method_4_code 11 = .ok (.iload_n 1, 1) := by decide +kernel
theorem own_d8_12 : decode prog_42_method_4_code 12 = .ok (.aload_n 2, 1) := by decide +kernel
theorem own_d8_13 : decode prog_42_method_4_code 13 = .ok (.getfield 32, 3) := by decide +kernel
theorem own_d8_16 : decode prog_42_method_4_code 16 = .ok (.lastore, 1) := by decide +kernel
theorem own_d8_17 : decode prog_42_method_4_code 17 = .ok (.goto 29, 3) := by decide +kernel
theorem own_d8_46 : decode prog_42_method_4_code 46 = .ok (.return_, 1) := by decide +kernel
theorem own_ef_setCN0 (m : MethodId) (a1 : Addr) (a3 : Addr) : entryFrame m #[(.ref a1), (.int (0 : Int32)), (.ref a3)] 3 = mkF m 0 #[.val (.ref a1), .val (.int (0 : Int32)), .val (.ref a3)] [] := by first | (simp [entryFrame, mkF, argsToLocals, Value.category]; done) | rfl
theorem own_pf8 : plainFor (⟨"com/example/throng/throng/engine/Count$Array", "set", "(ILcom/example/throng/throng/engine/Count;)V"⟩ : MethodName) = true := by first | exact plainFor_of_name (by first | (simp [plainName, overriddenIn]; done) | decide +kernel) | decide +kernel
def own_Q_setCN0 (Z : State) (h0 : Heap) (a1 : Addr) (a3 : Addr) (t : Addr) (kt : ClassId) (hi : Int64) (lo : Int64) (p0 : Int64) (p1 : Int64) (v : Option Value) (h : Heap) (ms : List Addr) : Prop := (Keep h0 h [t]) ∧ (ms = []) ∧ (v = none) ∧ (Arv Z h t kt .long (2 : Int32) [(.long lo), (.long p1)] (.long 0))
set_option maxRecDepth 65536 in
set_option maxHeartbeats 40000000 in
theorem own_ct_setCN0 (l : Launch) (Z : State) (a0 : Array Value) (hw : ∀ d ∈ tables_1, d.before a0 Z = true) (EL : List (String × Nat)) (hE : EW Z a0 EL) (n0 : Nat) (ws : List Jvm.Cond) (h0 : Heap) (O : Old Z n0 h0) (a1 : Addr) (a3 : Addr) (t : Addr) (kt : ClassId) (hi : Int64) (lo : Int64) (p0 : Int64) (p1 : Int64) (F_a1_narrow : Fld Z h0 a1 "com/example/throng/throng/engine/Count$Array" "narrow" "Z" (.int (1 : Int32))) (F_a1_bits : Fld Z h0 a1 "com/example/throng/throng/engine/Count$Array" "bits" "[J" (.ref t)) (A_t : Arv Z h0 t kt .long (2 : Int32) [(.long p0), (.long p1)] (.long 0)) (F_a3_low : Fld Z h0 a3 "com/example/throng/throng/engine/Count" "low" "J" (.long lo)) (F_a3_high : Fld Z h0 a3 "com/example/throng/throng/engine/Count" "high" "J" (.long hi)) (ne1 : a1 ≠ t) (ne3 : a3 ≠ t) :
    own_Ct l Z EL n0 (⟨"com/example/throng/throng/engine/Count$Array", "set", "(ILcom/example/throng/throng/engine/Count;)V"⟩ : MethodName) prog_42_method_4_code 3 none ws ({ frames := 0, cells := 0, slots := 0, locals := 0 } : Room) #[(.ref a1), (.int (0 : Int32)), (.ref a3)] h0 [t] (own_Q_setCN0 Z h0 a1 a3 t kt hi lo p0 p1) := by
  refine own_enter (a0 := a0) own_pf8 hE O fun p e s m below meth c T0 w0 => ?_
  rw [own_ef_setCN0 m a1 a3]
  have K : Keep h0 h0 [t] := Keep.refl _ _
  refine own_aloadN (pc' := 1) w0 own_d8_0 rfl rfl rfl ?_
  refine own_getF (pc' := 4) w0 (host := "") (Or.inl (hw _ (List.mem_of_getElem? (i := 12) rfl))) Via.refl F_a1_narrow own_d8_1 rfl fun T1 w2 => ?_
  refine own_if (pc' := 7) w2 own_d8_4 rfl (by decide) (pcY := 20) rfl (fun (hb4 : (1 : Int32) = (0 : Int32)) => absurd hb4 (by decide)) (fun (hb4 : ¬ (1 : Int32) = (0 : Int32)) => ?_)
  refine own_aloadN (pc' := 8) w2 own_d8_7 rfl rfl rfl ?_
  refine own_getF (pc' := 11) w2 (host := "") (Or.inl (hw _ (List.mem_of_getElem? (i := 14) rfl))) Via.refl F_a1_bits own_d8_8 rfl fun T3 w4 => ?_
  refine own_iloadN (pc' := 12) w4 own_d8_11 rfl rfl ?_
  refine own_aloadN (pc' := 13) w4 own_d8_12 rfl rfl rfl ?_
  refine own_getF (pc' := 16) w4 (Or.inr (hw _ (List.mem_of_getElem? (i := 48) rfl))) Via.refl F_a3_low own_d8_13 rfl fun T5 w6 => ?_
  refine own_stJ (pc' := 17) w6 (i := 0) (xv := (.long lo)) (vs' := [(.long lo), (.long p1)]) (by simp) A_t (by decide) rfl (Nat.lt_of_sub_eq_succ rfl) rfl rfl rfl own_d8_16 rfl fun T7 h9 w8 W10 A_new => ?_
  clear A_t
  replace F_a1_narrow := F_a1_narrow.other W10 (Or.inl ne1)
  replace F_a1_bits := F_a1_bits.other W10 (Or.inl ne1)
  replace F_a3_low := F_a3_low.other W10 (Or.inl ne3)
  replace F_a3_high := F_a3_high.other W10 (Or.inl ne3)
  replace K := K.wr W10 (Or.inl (by simp))
  have A_t := A_new
  clear A_new
  refine own_goto w8 own_d8_17 (by decide) (pc' := 46) rfl ?_
  exact own_ret0 w8 rfl own_d8_46 (by decide) (by decide) (ms' := []) all0 ⟨K, rfl, rfl, A_t⟩
theorem own_d9_0 : decode prog_42_method_6_code 0 = .ok (.aload_n 0, 1) := by decide +kernel
theorem own_d9_1 : decode prog_42_method_6_code 1 = .ok (.getfield 16, 3) := by decide +kernel
theorem own_d9_4 : decode prog_42_method_6_code 4 = .ok (.ifCond .eq 13, 3) := by decide +kernel
theorem own_d9_7 : decode prog_42_method_6_code 7 = .ok (.aload_n 0, 1) := by decide +kernel
theorem own_d9_8 : decode prog_42_method_6_code 8 = .ok (.getfield 20, 3) := by decide +kernel
theorem own_d9_11 : decode prog_42_method_6_code 11 = .ok (.iload_n 1, 1) := by decide +kernel
theorem own_d9_12 : decode prog_42_method_6_code 12 = .ok (.lload_n 2, 1) := by decide +kernel
theorem own_d9_13 : decode prog_42_method_6_code 13 = .ok (.lastore, 1) := by decide +kernel
theorem own_d9_14 : decode prog_42_method_6_code 14 = .ok (.goto 26, 3) := by decide +kernel
theorem own_d9_40 : decode prog_42_method_6_code 40 = .ok (.return_, 1) := by decide +kernel
theorem own_ef_setJN0 (m : MethodId) (a1 : Addr) (vv : Int64) : entryFrame m #[(.ref a1), (.int (0 : Int32)), (.long vv)] 4 = mkF m 0 #[.val (.ref a1), .val (.int (0 : Int32)), .val (.long vv), .second] [] := by first | (simp [entryFrame, mkF, argsToLocals, Value.category]; done) | rfl
theorem own_pf9 : plainFor (⟨"com/example/throng/throng/engine/Count$Array", "set", "(IJ)V"⟩ : MethodName) = true := by first | exact plainFor_of_name (by first | (simp [plainName, overriddenIn]; done) | decide +kernel) | decide +kernel
def own_Q_setJN0 (Z : State) (h0 : Heap) (a1 : Addr) (vv : Int64) (t : Addr) (kt : ClassId) (p0 : Int64) (p1 : Int64) (v : Option Value) (h : Heap) (ms : List Addr) : Prop := (Keep h0 h [t]) ∧ (ms = []) ∧ (v = none) ∧ (Arv Z h t kt .long (2 : Int32) [(.long vv), (.long p1)] (.long 0))
set_option maxRecDepth 65536 in
set_option maxHeartbeats 40000000 in
theorem own_ct_setJN0 (l : Launch) (Z : State) (a0 : Array Value) (hw : ∀ d ∈ tables_1, d.before a0 Z = true) (EL : List (String × Nat)) (hE : EW Z a0 EL) (n0 : Nat) (ws : List Jvm.Cond) (h0 : Heap) (O : Old Z n0 h0) (a1 : Addr) (vv : Int64) (t : Addr) (kt : ClassId) (p0 : Int64) (p1 : Int64) (F_a1_narrow : Fld Z h0 a1 "com/example/throng/throng/engine/Count$Array" "narrow" "Z" (.int (1 : Int32))) (F_a1_bits : Fld Z h0 a1 "com/example/throng/throng/engine/Count$Array" "bits" "[J" (.ref t)) (A_t : Arv Z h0 t kt .long (2 : Int32) [(.long p0), (.long p1)] (.long 0)) (ne1 : a1 ≠ t) :
    own_Ct l Z EL n0 (⟨"com/example/throng/throng/engine/Count$Array", "set", "(IJ)V"⟩ : MethodName) prog_42_method_6_code 4 none ws ({ frames := 0, cells := 0, slots := 0, locals := 0 } : Room) #[(.ref a1), (.int (0 : Int32)), (.long vv)] h0 [t] (own_Q_setJN0 Z h0 a1 vv t kt p0 p1) := by
  refine own_enter (a0 := a0) own_pf9 hE O fun p e s m below meth c T0 w0 => ?_
  rw [own_ef_setJN0 m a1 vv]
  have K : Keep h0 h0 [t] := Keep.refl _ _
  refine own_aloadN (pc' := 1) w0 own_d9_0 rfl rfl rfl ?_
  refine own_getF (pc' := 4) w0 (host := "") (Or.inl (hw _ (List.mem_of_getElem? (i := 12) rfl))) Via.refl F_a1_narrow own_d9_1 rfl fun T1 w2 => ?_
  refine own_if (pc' := 7) w2 own_d9_4 rfl (by decide) (pcY := 17) rfl (fun (hb4 : (1 : Int32) = (0 : Int32)) => absurd hb4 (by decide)) (fun (hb4 : ¬ (1 : Int32) = (0 : Int32)) => ?_)
  refine own_aloadN (pc' := 8) w2 own_d9_7 rfl rfl rfl ?_
  refine own_getF (pc' := 11) w2 (host := "") (Or.inl (hw _ (List.mem_of_getElem? (i := 14) rfl))) Via.refl F_a1_bits own_d9_8 rfl fun T3 w4 => ?_
  refine own_iloadN (pc' := 12) w4 own_d9_11 rfl rfl ?_
  refine own_lloadN (pc' := 13) w4 own_d9_12 rfl rfl ?_
  refine own_stJ (pc' := 14) w4 (i := 0) (xv := (.long vv)) (vs' := [(.long vv), (.long p1)]) (by simp) A_t (by decide) rfl (Nat.lt_of_sub_eq_succ rfl) rfl rfl rfl own_d9_13 rfl fun T5 h7 w6 W8 A_new => ?_
  clear A_t
  replace F_a1_narrow := F_a1_narrow.other W8 (Or.inl ne1)
  replace F_a1_bits := F_a1_bits.other W8 (Or.inl ne1)
  replace K := K.wr W8 (Or.inl (by simp))
  have A_t := A_new
  clear A_new
  refine own_goto w6 own_d9_14 (by decide) (pc' := 40) rfl ?_
  exact own_ret0 w6 rfl own_d9_40 (by decide) (by decide) (ms' := []) all0 ⟨K, rfl, rfl, A_t⟩
theorem own_d10_0 : decode prog_42_method_5_code 0 = .ok (.aload_n 0, 1) := by decide +kernel
theorem own_d10_1 : decode prog_42_method_5_code 1 = .ok (.getfield 16, 3) := by decide +kernel
theorem own_d10_4 : decode prog_42_method_5_code 4 = .ok (.ifCond .eq 18, 3) := by decide +kernel
theorem own_d10_7 : decode prog_42_method_5_code 7 = .ok (.aload_n 0, 1) := by decide +kernel
theorem own_d10_8 : decode prog_42_method_5_code 8 = .ok (.getfield 20, 3) := by decide +kernel
theorem own_d10_11 : decode prog_42_method_5_code 11 = .ok (.iload_n 1, 1) := by decide +kernel
theorem own_d10_12 : decode prog_42_method_5_code 12 = .ok (.aload_n 2, 1) := by decide +kernel
theorem own_d10_13 : decode prog_42_method_5_code 13 = .ok (.getfield 20, 3) := by decide +kernel
theorem own_d10_16 : decode prog_42_method_5_code 16 = .ok (.iload_n 3, 1) := by decide +kernel
theorem own_d10_17 : decode prog_42_method_5_code 17 = .ok (.laload, 1) := by decide +kernel
theorem own_d10_18 : decode prog_42_method_5_code 18 = .ok (.lastore, 1) := by decide +kernel
theorem own_d10_19 : decode prog_42_method_5_code 19 = .ok (.goto 39, 3) := by decide +kernel
theorem own_d10_58 : decode prog_42_method_5_code 58 = .ok (.return_, 1) := by decide +kernel
theorem own_ef_setAN00 (m : MethodId) (a1 : Addr) (a3 : Addr) : entryFrame m #[(.ref a1), (.int (0 : Int32)), (.ref a3), (.int (0 : Int32))] 4 = mkF m 0 #[.val (.ref a1), .val (.int (0 : Int32)), .val (.ref a3), .val (.int (0 : Int32))] [] := by first | (simp [entryFrame, mkF, argsToLocals, Value.category]; done) | rfl
theorem own_pf10 : plainFor (⟨"com/example/throng/throng/engine/Count$Array", "set", "(ILcom/example/throng/throng/engine/Count$Array;I)V"⟩ : MethodName) = true := by first | exact plainFor_of_name (by first | (simp [plainName, overriddenIn]; done) | decide +kernel) | decide +kernel
def own_Q_setAN00 (Z : State) (h0 : Heap) (a1 : Addr) (a3 : Addr) (t : Addr) (kt : ClassId) (t3 : Addr) (kt3 : ClassId) (p0 : Int64) (p1 : Int64) (q0 : Int64) (q1 : Int64) (v : Option Value) (h : Heap) (ms : List Addr) : Prop := (Keep h0 h [t]) ∧ (ms = []) ∧ (v = none) ∧ (Arv Z h t kt .long (2 : Int32) [(.long q0), (.long p1)] (.long 0))
set_option maxRecDepth 65536 in
set_option maxHeartbeats 40000000 in
theorem own_ct_setAN00 (l : Launch) (Z : State) (a0 : Array Value) (hw : ∀ d ∈ tables_1, d.before a0 Z = true) (EL : List (String × Nat)) (hE : EW Z a0 EL) (n0 : Nat) (ws : List Jvm.Cond) (h0 : Heap) (O : Old Z n0 h0) (a1 : Addr) (a3 : Addr) (t : Addr) (kt : ClassId) (t3 : Addr) (kt3 : ClassId) (p0 : Int64) (p1 : Int64) (q0 : Int64) (q1 : Int64) (F_a1_narrow : Fld Z h0 a1 "com/example/throng/throng/engine/Count$Array" "narrow" "Z" (.int (1 : Int32))) (F_a1_bits : Fld Z h0 a1 "com/example/throng/throng/engine/Count$Array" "bits" "[J" (.ref t)) (A_t : Arv Z h0 t kt .long (2 : Int32) [(.long p0), (.long p1)] (.long 0)) (F_a3_bits : Fld Z h0 a3 "com/example/throng/throng/engine/Count$Array" "bits" "[J" (.ref t3)) (A_t3 : Arv Z h0 t3 kt3 .long (2 : Int32) [(.long q0), (.long q1)] (.long 0)) (ne1 : a1 ≠ t) (ne3 : a3 ≠ t) (ne33 : t3 ≠ t) :
    own_Ct l Z EL n0 (⟨"com/example/throng/throng/engine/Count$Array", "set", "(ILcom/example/throng/throng/engine/Count$Array;I)V"⟩ : MethodName) prog_42_method_5_code 4 none ws ({ frames := 0, cells := 0, slots := 0, locals := 0 } : Room) #[(.ref a1), (.int (0 : Int32)), (.ref a3), (.int (0 : Int32))] h0 [t] (own_Q_setAN00 Z h0 a1 a3 t kt t3 kt3 p0 p1 q0 q1) := by
  refine own_enter (a0 := a0) own_pf10 hE O fun p e s m below meth c T0 w0 => ?_
  rw [own_ef_setAN00 m a1 a3]
  have K : Keep h0 h0 [t] := Keep.refl _ _
  refine own_aloadN (pc' := 1) w0 own_d10_0 rfl rfl rfl ?_
  refine own_getF (pc' := 4) w0 (host := "") (Or.inl (hw _ (List.mem_of_getElem? (i := 12) rfl))) Via.refl F_a1_narrow own_d10_1 rfl fun T1 w2 => ?_
  refine own_if (pc' := 7) w2 own_d10_4 rfl (by decide) (pcY := 22) rfl (fun (hb4 : (1 : Int32) = (0 : Int32)) => absurd hb4 (by decide)) (fun (hb4 : ¬ (1 : Int32) = (0 : Int32)) => ?_)
  refine own_aloadN (pc' := 8) w2 own_d10_7 rfl rfl rfl ?_
  refine own_getF (pc' := 11) w2 (host := "") (Or.inl (hw _ (List.mem_of_getElem? (i := 14) rfl))) Via.refl F_a1_bits own_d10_8 rfl fun T3 w4 => ?_
  refine own_iloadN (pc' := 12) w4 own_d10_11 rfl rfl ?_
  refine own_aloadN (pc' := 13) w4 own_d10_12 rfl rfl rfl ?_
  refine own_getF (pc' := 16) w4 (host := "") (Or.inl (hw _ (List.mem_of_getElem? (i := 14) rfl))) Via.refl F_a3_bits own_d10_13 rfl fun T5 w6 => ?_
  refine own_iloadN (pc' := 17) w6 own_d10_16 rfl rfl ?_
  refine own_ldJ (pc' := 18) w6 (v := (.long q0)) A_t3 (by decide) rfl own_d10_17 rfl ?_
  refine own_stJ (pc' := 19) w6 (i := 0) (xv := (.long q0)) (vs' := [(.long q0), (.long p1)]) (by simp) A_t (by decide) rfl (Nat.lt_of_sub_eq_succ rfl) rfl rfl rfl own_d10_18 rfl fun T7 h9 w8 W10 A_new => ?_
  clear A_t
  replace F_a1_narrow := F_a1_narrow.other W10 (Or.inl ne1)
  replace F_a1_bits := F_a1_bits.other W10 (Or.inl ne1)
  replace F_a3_bits := F_a3_bits.other W10 (Or.inl ne3)
  replace A_t3 := A_t3.other W10 ne33
  replace K := K.wr W10 (Or.inl (by simp))
  have A_t := A_new
  clear A_new
  refine own_goto w8 own_d10_19 (by decide) (pc' := 58) rfl ?_
  exact own_ret0 w8 rfl own_d10_58 (by decide) (by decide) (ms' := []) all0 ⟨K, rfl, rfl, A_t⟩
theorem own_ef_setAN01 (m : MethodId) (a1 : Addr) (a3 : Addr) : entryFrame m #[(.ref a1), (.int (0 : Int32)), (.ref a3), (.int (1 : Int32))] 4 = mkF m 0 #[.val (.ref a1), .val (.int (0 : Int32)), .val (.ref a3), .val (.int (1 : Int32))] [] := by first | (simp [entryFrame, mkF, argsToLocals, Value.category]; done) | rfl
def own_Q_setAN01 (Z : State) (h0 : Heap) (a1 : Addr) (a3 : Addr) (t : Addr) (kt : ClassId) (t3 : Addr) (kt3 : ClassId) (p0 : Int64) (p1 : Int64) (q0 : Int64) (q1 : Int64) (v : Option Value) (h : Heap) (ms : List Addr) : Prop := (Keep h0 h [t]) ∧ (ms = []) ∧ (v = none) ∧ (Arv Z h t kt .long (2 : Int32) [(.long q1), (.long p1)] (.long 0))
set_option maxRecDepth 65536 in
set_option maxHeartbeats 40000000 in
theorem own_ct_setAN01 (l : Launch) (Z : State) (a0 : Array Value) (hw : ∀ d ∈ tables_1, d.before a0 Z = true) (EL : List (String × Nat)) (hE : EW Z a0 EL) (n0 : Nat) (ws : List Jvm.Cond) (h0 : Heap) (O : Old Z n0 h0) (a1 : Addr) (a3 : Addr) (t : Addr) (kt : ClassId) (t3 : Addr) (kt3 : ClassId) (p0 : Int64) (p1 : Int64) (q0 : Int64) (q1 : Int64) (F_a1_narrow : Fld Z h0 a1 "com/example/throng/throng/engine/Count$Array" "narrow" "Z" (.int (1 : Int32))) (F_a1_bits : Fld Z h0 a1 "com/example/throng/throng/engine/Count$Array" "bits" "[J" (.ref t)) (A_t : Arv Z h0 t kt .long (2 : Int32) [(.long p0), (.long p1)] (.long 0)) (F_a3_bits : Fld Z h0 a3 "com/example/throng/throng/engine/Count$Array" "bits" "[J" (.ref t3)) (A_t3 : Arv Z h0 t3 kt3 .long (2 : Int32) [(.long q0), (.long q1)] (.long 0)) (ne1 : a1 ≠ t) (ne3 : a3 ≠ t) (ne33 : t3 ≠ t) :
    own_Ct l Z EL n0 (⟨"com/example/throng/throng/engine/Count$Array", "set", "(ILcom/example/throng/throng/engine/Count$Array;I)V"⟩ : MethodName) prog_42_method_5_code 4 none ws ({ frames := 0, cells := 0, slots := 0, locals := 0 } : Room) #[(.ref a1), (.int (0 : Int32)), (.ref a3), (.int (1 : Int32))] h0 [t] (own_Q_setAN01 Z h0 a1 a3 t kt t3 kt3 p0 p1 q0 q1) := by
  refine own_enter (a0 := a0) own_pf10 hE O fun p e s m below meth c T0 w0 => ?_
  rw [own_ef_setAN01 m a1 a3]
  have K : Keep h0 h0 [t] := Keep.refl _ _
  refine own_aloadN (pc' := 1) w0 own_d10_0 rfl rfl rfl ?_
  refine own_getF (pc' := 4) w0 (host := "") (Or.inl (hw _ (List.mem_of_getElem? (i := 12) rfl))) Via.refl F_a1_narrow own_d10_1 rfl fun T1 w2 => ?_
  refine own_if (pc' := 7) w2 own_d10_4 rfl (by decide) (pcY := 22) rfl (fun (hb4 : (1 : Int32) = (0 : Int32)) => absurd hb4 (by decide)) (fun (hb4 : ¬ (1 : Int32) = (0 : Int32)) => ?_)
  refine own_aloadN (pc' := 8) w2 own_d10_7 rfl rfl rfl ?_
  refine own_getF (pc' := 11) w2 (host := "") (Or.inl (hw _ (List.mem_of_getElem? (i := 14) rfl))) Via.refl F_a1_bits own_d10_8 rfl fun T3 w4 => ?_
  refine own_iloadN (pc' := 12) w4 own_d10_11 rfl rfl ?_
  refine own_aloadN (pc' := 13) w4 own_d10_12 rfl rfl rfl ?_
  refine own_getF (pc' := 16) w4 (host := "") (Or.inl (hw _ (List.mem_of_getElem? (i := 14) rfl))) Via.refl F_a3_bits own_d10_13 rfl fun T5 w6 => ?_
  refine own_iloadN (pc' := 17) w6 own_d10_16 rfl rfl ?_
  refine own_ldJ (pc' := 18) w6 (v := (.long q1)) A_t3 (by decide) rfl own_d10_17 rfl ?_
  refine own_stJ (pc' := 19) w6 (i := 0) (xv := (.long q1)) (vs' := [(.long q1), (.long p1)]) (by simp) A_t (by decide) rfl (Nat.lt_of_sub_eq_succ rfl) rfl rfl rfl own_d10_18 rfl fun T7 h9 w8 W10 A_new => ?_
  clear A_t
  replace F_a1_narrow := F_a1_narrow.other W10 (Or.inl ne1)
  replace F_a1_bits := F_a1_bits.other W10 (Or.inl ne1)
  replace F_a3_bits := F_a3_bits.other W10 (Or.inl ne3)
  replace A_t3 := A_t3.other W10 ne33
  replace K := K.wr W10 (Or.inl (by simp))
  have A_t := A_new
  clear A_new
  refine own_goto w8 own_d10_19 (by decide) (pc' := 58) rfl ?_
  exact own_ret0 w8 rfl own_d10_58 (by decide) (by decide) (ms' := []) all0 ⟨K, rfl, rfl, A_t⟩
theorem own_d11_0 : decode prog_42_method_7_code 0 = .ok (.aload_n 0, 1) := by decide +kernel
theorem own_d11_1 : decode prog_42_method_7_code 1 = .ok (.getfield 16, 3) := by decide +kernel
theorem own_d11_4 : decode prog_42_method_7_code 4 = .ok (.ifCond .eq 16, 3) := by decide +kernel
theorem own_d11_7 : decode prog_42_method_7_code 7 = .ok (.aload_n 0, 1) := by decide +kernel
theorem own_d11_8 : decode prog_42_method_7_code 8 = .ok (.getfield 20, 3) := by decide +kernel
theorem own_d11_11 : decode prog_42_method_7_code 11 = .ok (.iload_n 1, 1) := by decide +kernel
theorem own_d11_12 : decode prog_42_method_7_code 12 = .ok (.laload, 1) := by decide +kernel
theorem own_d11_13 : decode prog_42_method_7_code 13 = .ok (.invokestatic 41, 3) := by decide +kernel
theorem own_pd3 : parseMethodDescriptor "(J)I" = some ⟨[.long], some .int⟩ := by decide +kernel
theorem own_d11_16 : decode prog_42_method_7_code 16 = .ok (.istore_n 2, 1) := by decide +kernel
theorem own_d11_17 : decode prog_42_method_7_code 17 = .ok (.goto 49, 3) := by decide +kernel
theorem own_d11_66 : decode prog_42_method_7_code 66 = .ok (.iload_n 2, 1) := by decide +kernel
theorem own_d11_67 : decode prog_42_method_7_code 67 = .ok (.ireturn, 1) := by decide +kernel
theorem own_ef_sigN0 (m : MethodId) (a1 : Addr) : entryFrame m #[(.ref a1), (.int (0 : Int32))] 5 = mkF m 0 #[.val (.ref a1), .val (.int (0 : Int32)), .unset, .unset, .unset] [] := by first | (simp [entryFrame, mkF, argsToLocals, Value.category]; done) | rfl
theorem own_pf11 : plainFor (⟨"com/example/throng/throng/engine/Count$Array", "signum", "(I)I"⟩ : MethodName) = true := by first | exact plainFor_of_name (by first | (simp [plainName, overriddenIn]; done) | decide +kernel) | decide +kernel
def own_Q_sigN0 (Z : State) (h0 : Heap) (a1 : Addr) (t : Addr) (kt : ClassId) (p1 : Int64) (v : Option Value) (h : Heap) (ms : List Addr) : Prop := (h0 = h) ∧ (ms = []) ∧ (v = some (.int 0))
set_option maxRecDepth 65536 in
set_option maxHeartbeats 40000000 in
theorem own_ct_sigN0 (l : Launch) (Z : State) (a0 : Array Value) (hw : ∀ d ∈ tables_1, d.before a0 Z = true) (EL : List (String × Nat)) (hE : EW Z a0 EL) (n0 : Nat) (ws : List Jvm.Cond) (h0 : Heap) (O : Old Z n0 h0) (a1 : Addr) (t : Addr) (kt : ClassId) (p1 : Int64) (F_a1_narrow : Fld Z h0 a1 "com/example/throng/throng/engine/Count$Array" "narrow" "Z" (.int (1 : Int32))) (F_a1_bits : Fld Z h0 a1 "com/example/throng/throng/engine/Count$Array" "bits" "[J" (.ref t)) (A_t : Arv Z h0 t kt .long (2 : Int32) [(.long 0), (.long p1)] (.long 0)) :
    own_Ct l Z EL n0 (⟨"com/example/throng/throng/engine/Count$Array", "signum", "(I)I"⟩ : MethodName) prog_42_method_7_code 5 (some .int) ws ({ frames := 1, cells := 0, slots := 0, locals := 13 } : Room) #[(.ref a1), (.int (0 : Int32))] h0 [] (own_Q_sigN0 Z h0 a1 t kt p1) := by
  refine own_enter (a0 := a0) own_pf11 hE O fun p e s m below meth c T0 w0 => ?_
  rw [own_ef_sigN0 m a1]
  refine own_aloadN (pc' := 1) w0 own_d11_0 rfl rfl rfl ?_
  refine own_getF (pc' := 4) w0 (host := "") (Or.inl (hw _ (List.mem_of_getElem? (i := 12) rfl))) Via.refl F_a1_narrow own_d11_1 rfl fun T1 w2 => ?_
  refine own_if (pc' := 7) w2 own_d11_4 rfl (by decide) (pcY := 20) rfl (fun (hb4 : (1 : Int32) = (0 : Int32)) => absurd hb4 (by decide)) (fun (hb4 : ¬ (1 : Int32) = (0 : Int32)) => ?_)
  refine own_aloadN (pc' := 8) w2 own_d11_7 rfl rfl rfl ?_
  refine own_getF (pc' := 11) w2 (host := "") (Or.inl (hw _ (List.mem_of_getElem? (i := 14) rfl))) Via.refl F_a1_bits own_d11_8 rfl fun T3 w4 => ?_
  refine own_iloadN (pc' := 12) w4 own_d11_11 rfl rfl ?_
  refine own_ldJ (pc' := 13) w4 (v := (.long 0)) A_t (by decide) rfl own_d11_12 rfl ?_
  refine own_callS (pc' := 16) w4 (hw _ (List.mem_of_getElem? (i := 76) rfl)) (hw _ (List.mem_of_getElem? (i := 77) rfl)) (hw _ (List.mem_of_getElem? (i := 78) rfl)) (hw _ (List.mem_of_getElem? (i := 79) rfl)) (by decide) (own_ct_lsig0 l Z a0 hw EL hE n0 [] h0 (own_old w4)  ) all0 (argsL := [(.long 0)]) (rest := []) rfl rfl own_pd3 rfl own_d11_13 rfl (by decide) (W := 0) rfl (by decide) (by decide) (by decide) fun T5 h7 v8 ms9 w6 q10 => ?_
  obtain ⟨rfl, rfl, rfl⟩ := q10
  show own_Go Z EL n0 p e below s _ _ _ (T5.setTop (mkF m 16 #[.val (.ref a1), .val (.int (0 : Int32)), .unset, .unset, .unset] [(.int (0 : Int32))]))
  refine own_istoreN (pc' := 17) w6 own_d11_16 (Ls' := #[.val (.ref a1), .val (.int (0 : Int32)), .val (.int (0 : Int32)), .unset, .unset]) rfl rfl ?_
  refine own_goto w6 own_d11_17 (by decide) (pc' := 66) rfl ?_
  refine own_iloadN (pc' := 67) w6 own_d11_66 rfl rfl ?_
  exact own_retV w6 (t := .int) rfl rfl (Or.inl ⟨rfl, by simp, _, rfl⟩) own_d11_67 (by decide) (by decide) (ms' := []) all0 ⟨rfl, rfl, rfl⟩
theorem own_d12_0 : decode prog_42_method_3_code 0 = .ok (.aload_n 0, 1) := by decide +kernel
theorem own_d12_1 : decode prog_42_method_3_code 1 = .ok (.getfield 16, 3) := by decide +kernel
theorem own_d12_4 : decode prog_42_method_3_code 4 = .ok (.ifCond .eq 15, 3) := by decide +kernel
theorem own_d12_7 : decode prog_42_method_3_code 7 = .ok (.aload_n 0, 1) := by decide +kernel
theorem own_d12_8 : decode prog_42_method_3_code 8 = .ok (.getfield 20, 3) := by decide +kernel
theorem own_d12_11 : decode prog_42_method_3_code 11 = .ok (.iload_n 1, 1) := by decide +kernel
theorem own_d12_12 : decode prog_42_method_3_code 12 = .ok (.laload, 1) := by decide +kernel
theorem own_d12_13 : decode prog_42_method_3_code 13 = .ok (.invokestatic 23, 3) := by decide +kernel
theorem own_pd4 : parseMethodDescriptor "(J)Lcom/example/throng/throng/engine/Count;" = some ⟨[.long], some (.object "com/example/throng/throng/engine/Count")⟩ := by decide +kernel
theorem own_d12_16 : decode prog_42_method_3_code 16 = .ok (.goto 28, 3) := by decide +kernel
theorem own_d12_44 : decode prog_42_method_3_code 44 = .ok (.areturn, 1) := by decide +kernel
theorem own_ef_getN0 (m : MethodId) (a1 : Addr) : entryFrame m #[(.ref a1), (.int (0 : Int32))] 2 = mkF m 0 #[.val (.ref a1), .val (.int (0 : Int32))] [] := by first | (simp [entryFrame, mkF, argsToLocals, Value.category]; done) | rfl
theorem own_pf12 : plainFor (⟨"com/example/throng/throng/engine/Count$Array", "get", "(I)Lcom/example/throng/throng/engine/Count;"⟩ : MethodName) = true := by first | exact plainFor_of_name (by first | (simp [plainName, overriddenIn]; done) | decide +kernel) | decide +kernel
def own_Q_getN0 (Z : State) (h0 : Heap) (a1 : Addr) (t : Addr) (kt : ClassId) (p0 : Int64) (p1 : Int64) (v : Option Value) (h : Heap) (ms : List Addr) : Prop := (Keep h0 h []) ∧ (∃ (r : Addr), (ms = []) ∧ (v = some (.ref r)) ∧ (Exa Z h r "com/example/throng/throng/engine/Count") ∧ (Fld Z h r "com/example/throng/throng/engine/Count" "low" "J" (.long p0)) ∧ (Fld Z h r "com/example/throng/throng/engine/Count" "high" "J" (.long (own_sgn p0))) ∧ (h0.size ≤ r))
set_option maxRecDepth 65536 in
set_option maxHeartbeats 40000000 in
theorem own_ct_getN0 (l : Launch) (Z : State) (a0 : Array Value) (hw : ∀ d ∈ tables_1, d.before a0 Z = true) (EL : List (String × Nat)) (hE : EW Z a0 EL) (n0 : Nat) (ws : List Jvm.Cond) (h0 : Heap) (O : Old Z n0 h0) (a1 : Addr) (t : Addr) (kt : ClassId) (p0 : Int64) (p1 : Int64) (F_a1_narrow : Fld Z h0 a1 "com/example/throng/throng/engine/Count$Array" "narrow" "Z" (.int (1 : Int32))) (F_a1_bits : Fld Z h0 a1 "com/example/throng/throng/engine/Count$Array" "bits" "[J" (.ref t)) (A_t : Arv Z h0 t kt .long (2 : Int32) [(.long p0), (.long p1)] (.long 0)) :
    own_Ct l Z EL n0 (⟨"com/example/throng/throng/engine/Count$Array", "get", "(I)Lcom/example/throng/throng/engine/Count;"⟩ : MethodName) prog_42_method_3_code 2 (some (.object "com/example/throng/throng/engine/Count")) ws ({ frames := 3, cells := 1, slots := 2, locals := 42 } : Room) #[(.ref a1), (.int (0 : Int32))] h0 [] (own_Q_getN0 Z h0 a1 t kt p0 p1) := by
  refine own_enter (a0 := a0) own_pf12 hE O fun p e s m below meth c T0 w0 => ?_
  rw [own_ef_getN0 m a1]
  have K : Keep h0 h0 [] := Keep.refl _ _
  refine own_aloadN (pc' := 1) w0 own_d12_0 rfl rfl rfl ?_
  refine own_getF (pc' := 4) w0 (host := "") (Or.inl (hw _ (List.mem_of_getElem? (i := 12) rfl))) Via.refl F_a1_narrow own_d12_1 rfl fun T1 w2 => ?_
  refine own_if (pc' := 7) w2 own_d12_4 rfl (by decide) (pcY := 19) rfl (fun (hb4 : (1 : Int32) = (0 : Int32)) => absurd hb4 (by decide)) (fun (hb4 : ¬ (1 : Int32) = (0 : Int32)) => ?_)
  refine own_aloadN (pc' := 8) w2 own_d12_7 rfl rfl rfl ?_
  refine own_getF (pc' := 11) w2 (host := "") (Or.inl (hw _ (List.mem_of_getElem? (i := 14) rfl))) Via.refl F_a1_bits own_d12_8 rfl fun T3 w4 => ?_
  refine own_iloadN (pc' := 12) w4 own_d12_11 rfl rfl ?_
  refine own_ldJ (pc' := 13) w4 (v := (.long p0)) A_t (by decide) rfl own_d12_12 rfl ?_
  refine own_callS (pc' := 16) w4 (hw _ (List.mem_of_getElem? (i := 64) rfl)) (hw _ (List.mem_of_getElem? (i := 17) rfl)) (hw _ (List.mem_of_getElem? (i := 18) rfl)) (hw _ (List.mem_of_getElem? (i := 19) rfl)) (by decide) (own_ct_cOf l Z a0 hw EL hE n0 [] h0 (own_old w4) p0 ) all0 (argsL := [(.long p0)]) (rest := []) rfl rfl own_pd4 rfl own_d12_13 rfl (by decide) (W := 0) rfl (by decide) (by decide) (by decide) fun T5 h7 v8 ms9 w6 q10 => ?_
  obtain ⟨K12, r_11, rfl, rfl, nw_E_r_11, nw_F_r_11_low, nw_F_r_11_high, p13_cOf_0⟩ := q10
  have ne_a1_r_11 : a1 ≠ r_11 := Nat.ne_of_lt (Nat.lt_of_lt_of_le F_a1_narrow.lt p13_cOf_0)
  have ne_t_r_11 : t ≠ r_11 := Nat.ne_of_lt (Nat.lt_of_lt_of_le A_t.lt p13_cOf_0)
  have nw_r_11 : h0.size ≤ r_11 := Nat.le_trans K.1 p13_cOf_0
  replace F_a1_narrow := F_a1_narrow.keep K12 nin0
  replace F_a1_bits := F_a1_bits.keep K12 nin0
  replace A_t := A_t.keep K12 nin0
  replace K := K.trans K12 all0
  have E_r_11 := nw_E_r_11; clear nw_E_r_11
  have F_r_11_low := nw_F_r_11_low; clear nw_F_r_11_low
  have F_r_11_high := nw_F_r_11_high; clear nw_F_r_11_high
  show own_Go Z EL n0 p e below s _ _ _ (T5.setTop (mkF m 16 #[.val (.ref a1), .val (.int (0 : Int32))] [(.ref r_11)]))
  refine own_goto w6 own_d12_16 (by decide) (pc' := 44) rfl ?_
  exact own_retV w6 (t := (.object "com/example/throng/throng/engine/Count")) rfl (own_narR rfl rfl) (Or.inr (Or.inr (Or.inr (Or.inr ⟨rfl, rfl, rfl⟩)))) own_d12_44 (by decide) (by decide) (ms' := []) all0 ⟨K, r_11, rfl, rfl, E_r_11, F_r_11_low, F_r_11_high, nw_r_11⟩
theorem own_ef_setCN1 (m : MethodId) (a1 : Addr) (a3 : Addr) : entryFrame m #[(.ref a1), (.int (1 : Int32)), (.ref a3)] 3 = mkF m 0 #[.val (.ref a1), .val (.int (1 : Int32)), .val (.ref a3)] [] := by first | (simp [entryFrame, mkF, argsToLocals, Value.category]; done) | rfl
def own_Q_setCN1 (Z : State) (h0 : Heap) (a1 : Addr) (a3 : Addr) (t : Addr) (kt : ClassId) (hi : Int64) (lo : Int64) (p0 : Int64) (p1 : Int64) (v : Option Value) (h : Heap) (ms : List Addr) : Prop := (Keep h0 h [t]) ∧ (ms = []) ∧ (v = none) ∧ (Arv Z h t kt .long (2 : Int32) [(.long p0), (.long lo)] (.long 0))
set_option maxRecDepth 65536 in
set_option maxHeartbeats 40000000 in
theorem own_ct_setCN1 (l : Launch) (Z : State) (a0 : Array Value) (hw : ∀ d ∈ tables_1, d.before a0 Z = true) (EL : List (String × Nat)) (hE : EW Z a0 EL) (n0 : Nat) (ws : List Jvm.Cond) (h0 : Heap) (O : Old Z n0 h0) (a1 : Addr) (a3 : Addr) (t : Addr) (kt : ClassId) (hi : Int64) (lo : Int64) (p0 : Int64) (p1 : Int64) (F_a1_narrow : Fld Z h0 a1 "com/example/throng/throng/engine/Count$Array" "narrow" "Z" (.int (1 : Int32))) (F_a1_bits : Fld Z h0 a1 "com/example/throng/throng/engine/Count$Array" "bits" "[J" (.ref t)) (A_t : Arv Z h0 t kt .long (2 : Int32) [(.long p0), (.long p1)] (.long 0)) (F_a3_low : Fld Z h0 a3 "com/example/throng/throng/engine/Count" "low" "J" (.long lo)) (F_a3_high : Fld Z h0 a3 "com/example/throng/throng/engine/Count" "high" "J" (.long hi)) (ne1 : a1 ≠ t) (ne3 : a3 ≠ t) :
    own_Ct l Z EL n0 (⟨"com/example/throng/throng/engine/Count$Array", "set", "(ILcom/example/throng/throng/engine/Count;)V"⟩ : MethodName) prog_42_method_4_code 3 none ws ({ frames := 0, cells := 0, slots := 0, locals := 0 } : Room) #[(.ref a1), (.int (1 : Int32)), (.ref a3)] h0 [t] (own_Q_setCN1 Z h0 a1 a3 t kt hi lo p0 p1) := by
  refine own_enter (a0 := a0) own_pf8 hE O fun p e s m below meth c T0 w0 => ?_
  rw [own_ef_setCN1 m a1 a3]
  have K : Keep h0 h0 [t] := Keep.refl _ _
  refine own_aloadN (pc' := 1) w0 own_d8_0 rfl rfl rfl ?_
  refine own_getF (pc' := 4) w0 (host := "") (Or.inl (hw _ (List.mem_of_getElem? (i := 12) rfl))) Via.refl F_a1_narrow own_d8_1 rfl fun T1 w2 => ?_
  refine own_if (pc' := 7) w2 own_d8_4 rfl (by decide) (pcY := 20) rfl (fun (hb4 : (1 : Int32) = (0 : Int32)) => absurd hb4 (by decide)) (fun (hb4 : ¬ (1 : Int32) = (0 : Int32)) => ?_)
  refine own_aloadN (pc' := 8) w2 own_d8_7 rfl rfl rfl ?_
  refine own_getF (pc' := 11) w2 (host := "") (Or.inl (hw _ (List.mem_of_getElem? (i := 14) rfl))) Via.refl F_a1_bits own_d8_8 rfl fun T3 w4 => ?_
  refine own_iloadN (pc' := 12) w4 own_d8_11 rfl rfl ?_
  refine own_aloadN (pc' := 13) w4 own_d8_12 rfl rfl rfl ?_
  refine own_getF (pc' := 16) w4 (Or.inr (hw _ (List.mem_of_getElem? (i := 48) rfl))) Via.refl F_a3_low own_d8_13 rfl fun T5 w6 => ?_
  refine own_stJ (pc' := 17) w6 (i := 1) (xv := (.long lo)) (vs' := [(.long p0), (.long lo)]) (by simp) A_t (by decide) rfl (Nat.lt_of_sub_eq_succ rfl) rfl rfl rfl own_d8_16 rfl fun T7 h9 w8 W10 A_new => ?_
  clear A_t
  replace F_a1_narrow := F_a1_narrow.other W10 (Or.inl ne1)
  replace F_a1_bits := F_a1_bits.other W10 (Or.inl ne1)
  replace F_a3_low := F_a3_low.other W10 (Or.inl ne3)
  replace F_a3_high := F_a3_high.other W10 (Or.inl ne3)
  replace K := K.wr W10 (Or.inl (by simp))
  have A_t := A_new
  clear A_new
  refine own_goto w8 own_d8_17 (by decide) (pc' := 46) rfl ?_
  exact own_ret0 w8 rfl own_d8_46 (by decide) (by decide) (ms' := []) all0 ⟨K, rfl, rfl, A_t⟩
theorem own_ef_setJN1 (m : MethodId) (a1 : Addr) (vv : Int64) : entryFrame m #[(.ref a1), (.int (1 : Int32)), (.long vv)] 4 = mkF m 0 #[.val (.ref a1), .val (.int (1 : Int32)), .val (.long vv), .second] [] := by first | (simp [entryFrame, mkF, argsToLocals, Value.category]; done) | rfl
def own_Q_setJN1 (Z : State) (h0 : Heap) (a1 : Addr) (vv : Int64) (t : Addr) (kt : ClassId) (p0 : Int64) (p1 : Int64) (v : Option Value) (h : Heap) (ms : List Addr) : Prop := (Keep h0 h [t]) ∧ (ms = []) ∧ (v = none) ∧ (Arv Z h t kt .long (2 : Int32) [(.long p0), (.long vv)] (.long 0))
set_option maxRecDepth 65536 in
set_option maxHeartbeats 40000000 in
theorem own_ct_setJN1 (l : Launch) (Z : State) (a0 : Array Value) (hw : ∀ d ∈ tables_1, d.before a0 Z = true) (EL : List (String × Nat)) (hE : EW Z a0 EL) (n0 : Nat) (ws : List Jvm.Cond) (h0 : Heap) (O : Old Z n0 h0) (a1 : Addr) (vv : Int64) (t : Addr) (kt : ClassId) (p0 : Int64) (p1 : Int64) (F_a1_narrow : Fld Z h0 a1 "com/example/throng/throng/engine/Count$Array" "narrow" "Z" (.int (1 : Int32))) (F_a1_bits : Fld Z h0 a1 "com/example/throng/throng/engine/Count$Array" "bits" "[J" (.ref t)) (A_t : Arv Z h0 t kt .long (2 : Int32) [(.long p0), (.long p1)] (.long 0)) (ne1 : a1 ≠ t) :
    own_Ct l Z EL n0 (⟨"com/example/throng/throng/engine/Count$Array", "set", "(IJ)V"⟩ : MethodName) prog_42_method_6_code 4 none ws ({ frames := 0, cells := 0, slots := 0, locals := 0 } : Room) #[(.ref a1), (.int (1 : Int32)), (.long vv)] h0 [t] (own_Q_setJN1 Z h0 a1 vv t kt p0 p1) := by
  refine own_enter (a0 := a0) own_pf9 hE O fun p e s m below meth c T0 w0 => ?_
  rw [own_ef_setJN1 m a1 vv]
  have K : Keep h0 h0 [t] := Keep.refl _ _
  refine own_aloadN (pc' := 1) w0 own_d9_0 rfl rfl rfl ?_
  refine own_getF (pc' := 4) w0 (host := "") (Or.inl (hw _ (List.mem_of_getElem? (i := 12) rfl))) Via.refl F_a1_narrow own_d9_1 rfl fun T1 w2 => ?_
  refine own_if (pc' := 7) w2 own_d9_4 rfl (by decide) (pcY := 17) rfl (fun (hb4 : (1 : Int32) = (0 : Int32)) => absurd hb4 (by decide)) (fun (hb4 : ¬ (1 : Int32) = (0 : Int32)) => ?_)
  refine own_aloadN (pc' := 8) w2 own_d9_7 rfl rfl rfl ?_
  refine own_getF (pc' := 11) w2 (host := "") (Or.inl (hw _ (List.mem_of_getElem? (i := 14) rfl))) Via.refl F_a1_bits own_d9_8 rfl fun T3 w4 => ?_
  refine own_iloadN (pc' := 12) w4 own_d9_11 rfl rfl ?_
  refine own_lloadN (pc' := 13) w4 own_d9_12 rfl rfl ?_
  refine own_stJ (pc' := 14) w4 (i := 1) (xv := (.long vv)) (vs' := [(.long p0), (.long vv)]) (by simp) A_t (by decide) rfl (Nat.lt_of_sub_eq_succ rfl) rfl rfl rfl own_d9_13 rfl fun T5 h7 w6 W8 A_new => ?_
  clear A_t
  replace F_a1_narrow := F_a1_narrow.other W8 (Or.inl ne1)
  replace F_a1_bits := F_a1_bits.other W8 (Or.inl ne1)
  replace K := K.wr W8 (Or.inl (by simp))
  have A_t := A_new
  clear A_new
  refine own_goto w6 own_d9_14 (by decide) (pc' := 40) rfl ?_
  exact own_ret0 w6 rfl own_d9_40 (by decide) (by decide) (ms' := []) all0 ⟨K, rfl, rfl, A_t⟩
theorem own_ef_setAN10 (m : MethodId) (a1 : Addr) (a3 : Addr) : entryFrame m #[(.ref a1), (.int (1 : Int32)), (.ref a3), (.int (0 : Int32))] 4 = mkF m 0 #[.val (.ref a1), .val (.int (1 : Int32)), .val (.ref a3), .val (.int (0 : Int32))] [] := by first | (simp [entryFrame, mkF, argsToLocals, Value.category]; done) | rfl
def own_Q_setAN10 (Z : State) (h0 : Heap) (a1 : Addr) (a3 : Addr) (t : Addr) (kt : ClassId) (t3 : Addr) (kt3 : ClassId) (p0 : Int64) (p1 : Int64) (q0 : Int64) (q1 : Int64) (v : Option Value) (h : Heap) (ms : List Addr) : Prop := (Keep h0 h [t]) ∧ (ms = []) ∧ (v = none) ∧ (Arv Z h t kt .long (2 : Int32) [(.long p0), (.long q0)] (.long 0))
set_option maxRecDepth 65536 in
set_option maxHeartbeats 40000000 in
theorem own_ct_setAN10 (l : Launch) (Z : State) (a0 : Array Value) (hw : ∀ d ∈ tables_1, d.before a0 Z = true) (EL : List (String × Nat)) (hE : EW Z a0 EL) (n0 : Nat) (ws : List Jvm.Cond) (h0 : Heap) (O : Old Z n0 h0) (a1 : Addr) (a3 : Addr) (t : Addr) (kt : ClassId) (t3 : Addr) (kt3 : ClassId) (p0 : Int64) (p1 : Int64) (q0 : Int64) (q1 : Int64) (F_a1_narrow : Fld Z h0 a1 "com/example/throng/throng/engine/Count$Array" "narrow" "Z" (.int (1 : Int32))) (F_a1_bits : Fld Z h0 a1 "com/example/throng/throng/engine/Count$Array" "bits" "[J" (.ref t)) (A_t : Arv Z h0 t kt .long (2 : Int32) [(.long p0), (.long p1)] (.long 0)) (F_a3_bits : Fld Z h0 a3 "com/example/throng/throng/engine/Count$Array" "bits" "[J" (.ref t3)) (A_t3 : Arv Z h0 t3 kt3 .long (2 : Int32) [(.long q0), (.long q1)] (.long 0)) (ne1 : a1 ≠ t) (ne3 : a3 ≠ t) (ne33 : t3 ≠ t) :
    own_Ct l Z EL n0 (⟨"com/example/throng/throng/engine/Count$Array", "set", "(ILcom/example/throng/throng/engine/Count$Array;I)V"⟩ : MethodName) prog_42_method_5_code 4 none ws ({ frames := 0, cells := 0, slots := 0, locals := 0 } : Room) #[(.ref a1), (.int (1 : Int32)), (.ref a3), (.int (0 : Int32))] h0 [t] (own_Q_setAN10 Z h0 a1 a3 t kt t3 kt3 p0 p1 q0 q1) := by
  refine own_enter (a0 := a0) own_pf10 hE O fun p e s m below meth c T0 w0 => ?_
  rw [own_ef_setAN10 m a1 a3]
  have K : Keep h0 h0 [t] := Keep.refl _ _
  refine own_aloadN (pc' := 1) w0 own_d10_0 rfl rfl rfl ?_
  refine own_getF (pc' := 4) w0 (host := "") (Or.inl (hw _ (List.mem_of_getElem? (i := 12) rfl))) Via.refl F_a1_narrow own_d10_1 rfl fun T1 w2 => ?_
  refine own_if (pc' := 7) w2 own_d10_4 rfl (by decide) (pcY := 22) rfl (fun (hb4 : (1 : Int32) = (0 : Int32)) => absurd hb4 (by decide)) (fun (hb4 : ¬ (1 : Int32) = (0 : Int32)) => ?_)
  refine own_aloadN (pc' := 8) w2 own_d10_7 rfl rfl rfl ?_
  refine own_getF (pc' := 11) w2 (host := "") (Or.inl (hw _ (List.mem_of_getElem? (i := 14) rfl))) Via.refl F_a1_bits own_d10_8 rfl fun T3 w4 => ?_
  refine own_iloadN (pc' := 12) w4 own_d10_11 rfl rfl ?_
  refine own_aloadN (pc' := 13) w4 own_d10_12 rfl rfl rfl ?_
  refine own_getF (pc' := 16) w4 (host := "") (Or.inl (hw _ (List.mem_of_getElem? (i := 14) rfl))) Via.refl F_a3_bits own_d10_13 rfl fun T5 w6 => ?_
  refine own_iloadN (pc' := 17) w6 own_d10_16 rfl rfl ?_
  refine own_ldJ (pc' := 18) w6 (v := (.long q0)) A_t3 (by decide) rfl own_d10_17 rfl ?_
  refine own_stJ (pc' := 19) w6 (i := 1) (xv := (.long q0)) (vs' := [(.long p0), (.long q0)]) (by simp) A_t (by decide) rfl (Nat.lt_of_sub_eq_succ rfl) rfl rfl rfl own_d10_18 rfl fun T7 h9 w8 W10 A_new => ?_
  clear A_t
  replace F_a1_narrow := F_a1_narrow.other W10 (Or.inl ne1)
  replace F_a1_bits := F_a1_bits.other W10 (Or.inl ne1)
  replace F_a3_bits := F_a3_bits.other W10 (Or.inl ne3)
  replace A_t3 := A_t3.other W10 ne33
  replace K := K.wr W10 (Or.inl (by simp))
  have A_t := A_new
  clear A_new
  refine own_goto w8 own_d10_19 (by decide) (pc' := 58) rfl ?_
  exact own_ret0 w8 rfl own_d10_58 (by decide) (by decide) (ms' := []) all0 ⟨K, rfl, rfl, A_t⟩
theorem own_ef_setAN11 (m : MethodId) (a1 : Addr) (a3 : Addr) : entryFrame m #[(.ref a1), (.int (1 : Int32)), (.ref a3), (.int (1 : Int32))] 4 = mkF m 0 #[.val (.ref a1), .val (.int (1 : Int32)), .val (.ref a3), .val (.int (1 : Int32))] [] := by first | (simp [entryFrame, mkF, argsToLocals, Value.category]; done) | rfl
def own_Q_setAN11 (Z : State) (h0 : Heap) (a1 : Addr) (a3 : Addr) (t : Addr) (kt : ClassId) (t3 : Addr) (kt3 : ClassId) (p0 : Int64) (p1 : Int64) (q0 : Int64) (q1 : Int64) (v : Option Value) (h : Heap) (ms : List Addr) : Prop := (Keep h0 h [t]) ∧ (ms = []) ∧ (v = none) ∧ (Arv Z h t kt .long (2 : Int32) [(.long p0), (.long q1)] (.long 0))
set_option maxRecDepth 65536 in
set_option maxHeartbeats 40000000 in
theorem own_ct_setAN11 (l : Launch) (Z : State) (a0 : Array Value) (hw : ∀ d ∈ tables_1, d.before a0 Z = true) (EL : List (String × Nat)) (hE : EW Z a0 EL) (n0 : Nat) (ws : List Jvm.Cond) (h0 : Heap) (O : Old Z n0 h0) (a1 : Addr) (a3 : Addr) (t : Addr) (kt : ClassId) (t3 : Addr) (kt3 : ClassId) (p0 : Int64) (p1 : Int64) (q0 : Int64) (q1 : Int64) (F_a1_narrow : Fld Z h0 a1 "com/example/throng/throng/engine/Count$Array" "narrow" "Z" (.int (1 : Int32))) (F_a1_bits : Fld Z h0 a1 "com/example/throng/throng/engine/Count$Array" "bits" "[J" (.ref t)) (A_t : Arv Z h0 t kt .long (2 : Int32) [(.long p0), (.long p1)] (.long 0)) (F_a3_bits : Fld Z h0 a3 "com/example/throng/throng/engine/Count$Array" "bits" "[J" (.ref t3)) (A_t3 : Arv Z h0 t3 kt3 .long (2 : Int32) [(.long q0), (.long q1)] (.long 0)) (ne1 : a1 ≠ t) (ne3 : a3 ≠ t) (ne33 : t3 ≠ t) :
    own_Ct l Z EL n0 (⟨"com/example/throng/throng/engine/Count$Array", "set", "(ILcom/example/throng/throng/engine/Count$Array;I)V"⟩ : MethodName) prog_42_method_5_code 4 none ws ({ frames := 0, cells := 0, slots := 0, locals := 0 } : Room) #[(.ref a1), (.int (1 : Int32)), (.ref a3), (.int (1 : Int32))] h0 [t] (own_Q_setAN11 Z h0 a1 a3 t kt t3 kt3 p0 p1 q0 q1) := by
  refine own_enter (a0 := a0) own_pf10 hE O fun p e s m below meth c T0 w0 => ?_
  rw [own_ef_setAN11 m a1 a3]
  have K : Keep h0 h0 [t] := Keep.refl _ _
  refine own_aloadN (pc' := 1) w0 own_d10_0 rfl rfl rfl ?_
  refine own_getF (pc' := 4) w0 (host := "") (Or.inl (hw _ (List.mem_of_getElem? (i := 12) rfl))) Via.refl F_a1_narrow own_d10_1 rfl fun T1 w2 => ?_
  refine own_if (pc' := 7) w2 own_d10_4 rfl (by decide) (pcY := 22) rfl (fun (hb4 : (1 : Int32) = (0 : Int32)) => absurd hb4 (by decide)) (fun (hb4 : ¬ (1 : Int32) = (0 : Int32)) => ?_)
  refine own_aloadN (pc' := 8) w2 own_d10_7 rfl rfl rfl ?_
  refine own_getF (pc' := 11) w2 (host := "") (Or.inl (hw _ (List.mem_of_getElem? (i := 14) rfl))) Via.refl F_a1_bits own_d10_8 rfl fun T3 w4 => ?_
  refine own_iloadN (pc' := 12) w4 own_d10_11 rfl rfl ?_
  refine own_aloadN (pc' := 13) w4 own_d10_12 rfl rfl rfl ?_
  refine own_getF (pc' := 16) w4 (host := "") (Or.inl (hw _ (List.mem_of_getElem? (i := 14) rfl))) Via.refl F_a3_bits own_d10_13 rfl fun T5 w6 => ?_
  refine own_iloadN (pc' := 17) w6 own_d10_16 rfl rfl ?_
  refine own_ldJ (pc' := 18) w6 (v := (.long q1)) A_t3 (by decide) rfl own_d10_17 rfl ?_
  refine own_stJ (pc' := 19) w6 (i := 1) (xv := (.long q1)) (vs' := [(.long p0), (.long q1)]) (by simp) A_t (by decide) rfl (Nat.lt_of_sub_eq_succ rfl) rfl rfl rfl own_d10_18 rfl fun T7 h9 w8 W10 A_new => ?_
  clear A_t
  replace F_a1_narrow := F_a1_narrow.other W10 (Or.inl ne1)
  replace F_a1_bits := F_a1_bits.other W10 (Or.inl ne1)
  replace F_a3_bits := F_a3_bits.other W10 (Or.inl ne3)
  replace A_t3 := A_t3.other W10 ne33
  replace K := K.wr W10 (Or.inl (by simp))
  have A_t := A_new
  clear A_new
  refine own_goto w8 own_d10_19 (by decide) (pc' := 58) rfl ?_
  exact own_ret0 w8 rfl own_d10_58 (by decide) (by decide) (ms' := []) all0 ⟨K, rfl, rfl, A_t⟩
theorem own_ef_sigN1 (m : MethodId) (a1 : Addr) : entryFrame m #[(.ref a1), (.int (1 : Int32))] 5 = mkF m 0 #[.val (.ref a1), .val (.int (1 : Int32)), .unset, .unset, .unset] [] := by first | (simp [entryFrame, mkF, argsToLocals, Value.category]; done) | rfl
def own_Q_sigN1 (Z : State) (h0 : Heap) (a1 : Addr) (t : Addr) (kt : ClassId) (p0 : Int64) (v : Option Value) (h : Heap) (ms : List Addr) : Prop := (h0 = h) ∧ (ms = []) ∧ (v = some (.int 0))
set_option maxRecDepth 65536 in
set_option maxHeartbeats 40000000 in
theorem own_ct_sigN1 (l : Launch) (Z : State) (a0 : Array Value) (hw : ∀ d ∈ tables_1, d.before a0 Z = true) (EL : List (String × Nat)) (hE : EW Z a0 EL) (n0 : Nat) (ws : List Jvm.Cond) (h0 : Heap) (O : Old Z n0 h0) (a1 : Addr) (t : Addr) (kt : ClassId) (p0 : Int64) (F_a1_narrow : Fld Z h0 a1 "com/example/throng/throng/engine/Count$Array" "narrow" "Z" (.int (1 : Int32))) (F_a1_bits : Fld Z h0 a1 "com/example/throng/throng/engine/Count$Array" "bits" "[J" (.ref t)) (A_t : Arv Z h0 t kt .long (2 : Int32) [(.long p0), (.long 0)] (.long 0)) :
    own_Ct l Z EL n0 (⟨"com/example/throng/throng/engine/Count$Array", "signum", "(I)I"⟩ : MethodName) prog_42_method_7_code 5 (some .int) ws ({ frames := 1, cells := 0, slots := 0, locals := 13 } : Room) #[(.ref a1), (.int (1 : Int32))] h0 [] (own_Q_sigN1 Z h0 a1 t kt p0) := by
  refine own_enter (a0 := a0) own_pf11 hE O fun p e s m below meth c T0 w0 => ?_
  rw [own_ef_sigN1 m a1]
  refine own_aloadN (pc' := 1) w0 own_d11_0 rfl rfl rfl ?_
  refine own_getF (pc' := 4) w0 (host := "") (Or.inl (hw _ (List.mem_of_getElem? (i := 12) rfl))) Via.refl F_a1_narrow own_d11_1 rfl fun T1 w2 => ?_
  refine own_if (pc' := 7) w2 own_d11_4 rfl (by decide) (pcY := 20) rfl (fun (hb4 : (1 : Int32) = (0 : Int32)) => absurd hb4 (by decide)) (fun (hb4 : ¬ (1 : Int32) = (0 : Int32)) => ?_)
  refine own_aloadN (pc' := 8) w2 own_d11_7 rfl rfl rfl ?_
  refine own_getF (pc' := 11) w2 (host := "") (Or.inl (hw _ (List.mem_of_getElem? (i := 14) rfl))) Via.refl F_a1_bits own_d11_8 rfl fun T3 w4 => ?_
  refine own_iloadN (pc' := 12) w4 own_d11_11 rfl rfl ?_
  refine own_ldJ (pc' := 13) w4 (v := (.long 0)) A_t (by decide) rfl own_d11_12 rfl ?_
  refine own_callS (pc' := 16) w4 (hw _ (List.mem_of_getElem? (i := 76) rfl)) (hw _ (List.mem_of_getElem? (i := 77) rfl)) (hw _ (List.mem_of_getElem? (i := 78) rfl)) (hw _ (List.mem_of_getElem? (i := 79) rfl)) (by decide) (own_ct_lsig0 l Z a0 hw EL hE n0 [] h0 (own_old w4)  ) all0 (argsL := [(.long 0)]) (rest := []) rfl rfl own_pd3 rfl own_d11_13 rfl (by decide) (W := 0) rfl (by decide) (by decide) (by decide) fun T5 h7 v8 ms9 w6 q10 => ?_
  obtain ⟨rfl, rfl, rfl⟩ := q10
  show own_Go Z EL n0 p e below s _ _ _ (T5.setTop (mkF m 16 #[.val (.ref a1), .val (.int (1 : Int32)), .unset, .unset, .unset] [(.int (0 : Int32))]))
  refine own_istoreN (pc' := 17) w6 own_d11_16 (Ls' := #[.val (.ref a1), .val (.int (1 : Int32)), .val (.int (0 : Int32)), .unset, .unset]) rfl rfl ?_
  refine own_goto w6 own_d11_17 (by decide) (pc' := 66) rfl ?_
  refine own_iloadN (pc' := 67) w6 own_d11_66 rfl rfl ?_
  exact own_retV w6 (t := .int) rfl rfl (Or.inl ⟨rfl, by simp, _, rfl⟩) own_d11_67 (by decide) (by decide) (ms' := []) all0 ⟨rfl, rfl, rfl⟩
theorem own_ef_getN1 (m : MethodId) (a1 : Addr) : entryFrame m #[(.ref a1), (.int (1 : Int32))] 2 = mkF m 0 #[.val (.ref a1), .val (.int (1 : Int32))] [] := by first | (simp [entryFrame, mkF, argsToLocals, Value.category]; done) | rfl
def own_Q_getN1 (Z : State) (h0 : Heap) (a1 : Addr) (t : Addr) (kt : ClassId) (p0 : Int64) (p1 : Int64) (v : Option Value) (h : Heap) (ms : List Addr) : Prop := (Keep h0 h []) ∧ (∃ (r : Addr), (ms = []) ∧ (v = some (.ref r)) ∧ (Exa Z h r "com/example/throng/throng/engine/Count") ∧ (Fld Z h r "com/example/throng/throng/engine/Count" "low" "J" (.long p1)) ∧ (Fld Z h r "com/example/throng/throng/engine/Count" "high" "J" (.long (own_sgn p1))) ∧ (h0.size ≤ r))
set_option maxRecDepth 65536 in
set_option maxHeartbeats 40000000 in
theorem own_ct_getN1 (l : Launch) (Z : State) (a0 : Array Value) (hw : ∀ d ∈ tables_1, d.before a0 Z = true) (EL : List (String × Nat)) (hE : EW Z a0 EL) (n0 : Nat) (ws : List Jvm.Cond) (h0 : Heap) (O : Old Z n0 h0) (a1 : Addr) (t : Addr) (kt : ClassId) (p0 : Int64) (p1 : Int64) (F_a1_narrow : Fld Z h0 a1 "com/example/throng/throng/engine/Count$Array" "narrow" "Z" (.int (1 : Int32))) (F_a1_bits : Fld Z h0 a1 "com/example/throng/throng/engine/Count$Array" "bits" "[J" (.ref t)) (A_t : Arv Z h0 t kt .long (2 : Int32) [(.long p0), (.long p1)] (.long 0)) :
    own_Ct l Z EL n0 (⟨"com/example/throng/throng/engine/Count$Array", "get", "(I)Lcom/example/throng/throng/engine/Count;"⟩ : MethodName) prog_42_method_3_code 2 (some (.object "com/example/throng/throng/engine/Count")) ws ({ frames := 3, cells := 1, slots := 2, locals := 42 } : Room) #[(.ref a1), (.int (1 : Int32))] h0 [] (own_Q_getN1 Z h0 a1 t kt p0 p1) := by
  refine own_enter (a0 := a0) own_pf12 hE O fun p e s m below meth c T0 w0 => ?_
  rw [own_ef_getN1 m a1]
  have K : Keep h0 h0 [] := Keep.refl _ _
  refine own_aloadN (pc' := 1) w0 own_d12_0 rfl rfl rfl ?_
  refine own_getF (pc' := 4) w0 (host := "") (Or.inl (hw _ (List.mem_of_getElem? (i := 12) rfl))) Via.refl F_a1_narrow own_d12_1 rfl fun T1 w2 => ?_
  refine own_if (pc' := 7) w2 own_d12_4 rfl (by decide) (pcY := 19) rfl (fun (hb4 : (1 : Int32) = (0 : Int32)) => absurd hb4 (by decide)) (fun (hb4 : ¬ (1 : Int32) = (0 : Int32)) => ?_)
  refine own_aloadN (pc' := 8) w2 own_d12_7 rfl rfl rfl ?_
  refine own_getF (pc' := 11) w2 (host := "") (Or.inl (hw _ (List.mem_of_getElem? (i := 14) rfl))) Via.refl F_a1_bits own_d12_8 rfl fun T3 w4 => ?_
  refine own_iloadN (pc' := 12) w4 own_d12_11 rfl rfl ?_
  refine own_ldJ (pc' := 13) w4 (v := (.long p1)) A_t (by decide) rfl own_d12_12 rfl ?_
  refine own_callS (pc' := 16) w4 (hw _ (List.mem_of_getElem? (i := 64) rfl)) (hw _ (List.mem_of_getElem? (i := 17) rfl)) (hw _ (List.mem_of_getElem? (i := 18) rfl)) (hw _ (List.mem_of_getElem? (i := 19) rfl)) (by decide) (own_ct_cOf l Z a0 hw EL hE n0 [] h0 (own_old w4) p1 ) all0 (argsL := [(.long p1)]) (rest := []) rfl rfl own_pd4 rfl own_d12_13 rfl (by decide) (W := 0) rfl (by decide) (by decide) (by decide) fun T5 h7 v8 ms9 w6 q10 => ?_
  obtain ⟨K12, r_11, rfl, rfl, nw_E_r_11, nw_F_r_11_low, nw_F_r_11_high, p13_cOf_0⟩ := q10
  have ne_a1_r_11 : a1 ≠ r_11 := Nat.ne_of_lt (Nat.lt_of_lt_of_le F_a1_narrow.lt p13_cOf_0)
  have ne_t_r_11 : t ≠ r_11 := Nat.ne_of_lt (Nat.lt_of_lt_of_le A_t.lt p13_cOf_0)
  have nw_r_11 : h0.size ≤ r_11 := Nat.le_trans K.1 p13_cOf_0
  replace F_a1_narrow := F_a1_narrow.keep K12 nin0
  replace F_a1_bits := F_a1_bits.keep K12 nin0
  replace A_t := A_t.keep K12 nin0
  replace K := K.trans K12 all0
  have E_r_11 := nw_E_r_11; clear nw_E_r_11
  have F_r_11_low := nw_F_r_11_low; clear nw_F_r_11_low
  have F_r_11_high := nw_F_r_11_high; clear nw_F_r_11_high
  show own_Go Z EL n0 p e below s _ _ _ (T5.setTop (mkF m 16 #[.val (.ref a1), .val (.int (1 : Int32))] [(.ref r_11)]))
  refine own_goto w6 own_d12_16 (by decide) (pc' := 44) rfl ?_
  exact own_retV w6 (t := (.object "com/example/throng/throng/engine/Count")) rfl (own_narR rfl rfl) (Or.inr (Or.inr (Or.inr (Or.inr ⟨rfl, rfl, rfl⟩)))) own_d12_44 (by decide) (by decide) (ms' := []) all0 ⟨K, r_11, rfl, rfl, E_r_11, F_r_11_low, F_r_11_high, nw_r_11⟩
theorem own_d7_25 : decode prog_42_method_2_code 25 = .ok (.iconst 2, 1) := by decide +kernel
theorem own_d7_26 : decode prog_42_method_2_code 26 = .ok (.iload_n 1, 1) := by decide +kernel
theorem own_d7_27 : decode prog_42_method_2_code 27 = .ok (.imul, 1) := by decide +kernel
theorem own_ef_aInitW (m : MethodId) (a1 : Addr) : entryFrame m #[(.ref a1), (.int (2 : Int32)), (.int (0 : Int32))] 3 = mkF m 0 #[.val (.ref a1), .val (.int (2 : Int32)), .val (.int (0 : Int32))] [] := by first | (simp [entryFrame, mkF, argsToLocals, Value.category]; done) | rfl
def own_Q_aInitW (Z : State) (h0 : Heap) (a1 : Addr) (u1 : Value) (u2 : Value) (u3 : Value) (v : Option Value) (h : Heap) (ms : List Addr) : Prop := (Keep h0 h [a1]) ∧ (∃ (t : Addr) (kt : ClassId), (ms = [t]) ∧ (v = none) ∧ (Exa Z h a1 "com/example/throng/throng/engine/Count$Array") ∧ (Fld Z h a1 "com/example/throng/throng/engine/Count$Array" "narrow" "Z" (.int (0 : Int32))) ∧ (Fld Z h a1 "com/example/throng/throng/engine/Count$Array" "bits" "[J" (.ref t)) ∧ (Arv Z h t kt .long (4 : Int32) [(.long 0), (.long 0), (.long 0), (.long 0)] (.long 0)) ∧ (h0.size ≤ t))
set_option maxRecDepth 65536 in
set_option maxHeartbeats 40000000 in
theorem own_ct_aInitW (l : Launch) (Z : State) (a0 : Array Value) (hw : ∀ d ∈ tables_1, d.before a0 Z = true) (EL : List (String × Nat)) (hE : EW Z a0 EL) (n0 : Nat) (ws : List Jvm.Cond) (h0 : Heap) (O : Old Z n0 h0) (a1 : Addr) (u1 : Value) (u2 : Value) (u3 : Value) (E_a1 : Exa Z h0 a1 "com/example/throng/throng/engine/Count$Array") (F_a1_product : Fld Z h0 a1 "com/example/throng/throng/engine/Count$Array" "product" "[J" u1) (F_a1_narrow : Fld Z h0 a1 "com/example/throng/throng/engine/Count$Array" "narrow" "Z" u2) (F_a1_bits : Fld Z h0 a1 "com/example/throng/throng/engine/Count$Array" "bits" "[J" u3) :
    own_Ct l Z EL n0 (⟨"com/example/throng/throng/engine/Count$Array", "<init>", "(IZ)V"⟩ : MethodName) prog_42_method_2_code 3 none ws ({ frames := 1, cells := 2, slots := 6, locals := 12 } : Room) #[(.ref a1), (.int (2 : Int32)), (.int (0 : Int32))] h0 [a1] (own_Q_aInitW Z h0 a1 u1 u2 u3) := by
  refine own_enter (a0 := a0) own_pf7 hE O fun p e s m below meth c T0 w0 => ?_
  rw [own_ef_aInitW m a1]
  have K : Keep h0 h0 [a1] := Keep.refl _ _
  refine own_aloadN (pc' := 1) w0 own_d7_0 rfl rfl rfl ?_
  refine own_initO (pc' := 4) w0 (hw _ (List.mem_of_getElem? (i := 6) rfl)) (hw _ (List.mem_of_getElem? (i := 7) rfl)) (hw _ (List.mem_of_getElem? (i := 8) rfl)) rfl own_d7_1 rfl (by decide) (W := 0) (Nat.le_of_eq rfl) (by decide) fun T1 w2 => ?_
  refine own_aloadN (pc' := 5) w2 own_d7_4 rfl rfl rfl ?_
  refine own_iconst (pc' := 6) w2 own_d7_5 (x := (2 : Int32)) rfl rfl ?_
  refine own_newP (pc' := 8) w2 (vs := [(.long 0), (.long 0)]) (dv := (.long 0)) (cap := 2) (hw _ (List.mem_of_getElem? (i := 9) rfl)) own_d7_6 rfl (by decide) (by decide) (by decide) rfl (own_rep 2 (.long 0)) (by decide) (by decide) fun T3 h5 a7 g_a7 w4 E6 ⟨k_a7, A_a7⟩ => ?_
  have ne_a1_a7 : a1 ≠ a7 := Nat.ne_of_lt (Nat.lt_of_lt_of_le E_a1.lt (Nat.le_of_eq g_a7))
  have nw_a7 : h0.size ≤ a7 := Nat.le_trans K.1 (Nat.le_of_eq g_a7)
  replace E_a1 := E_a1.ext E6
  replace F_a1_product := F_a1_product.ext E6
  replace F_a1_narrow := F_a1_narrow.ext E6
  replace F_a1_bits := F_a1_bits.ext E6
  replace K := K.ext E6
  refine own_putF (pc' := 11) w4 (host := "") (Or.inl (hw _ (List.mem_of_getElem? (i := 10) rfl))) Via.refl (by simp) F_a1_product E_a1 (Or.inr ⟨(hw _ (List.mem_of_getElem? (i := 11) rfl)), rfl, rfl⟩) (hw _ (List.mem_of_getElem? (i := 1) rfl)) (ty := (.array .long)) (by decide) rfl rfl own_d7_8 rfl fun T8 h10 w9 W11 => ?_
  replace F_a1_product := F_a1_product.same W11
  replace E_a1 := E_a1.wr W11
  replace F_a1_narrow := F_a1_narrow.other W11 (Or.inr (slot_ne (Or.inr (hw _ (List.mem_of_getElem? (i := 13) rfl))) (Or.inr (hw _ (List.mem_of_getElem? (i := 11) rfl))) (by decide) (t := .boolean) (t' := (.array .long)) (by decide) (by decide)))
  replace F_a1_bits := F_a1_bits.other W11 (Or.inr (slot_ne (Or.inr (hw _ (List.mem_of_getElem? (i := 15) rfl))) (Or.inr (hw _ (List.mem_of_getElem? (i := 11) rfl))) (by decide) (t := (.array .long)) (t' := (.array .long)) (by decide) (by decide)))
  replace A_a7 := A_a7.other W11 (Ne.symm ne_a1_a7)
  replace K := K.wr W11 (Or.inl (by simp))
  refine own_aloadN (pc' := 12) w9 own_d7_11 rfl rfl rfl ?_
  refine own_iloadN (pc' := 13) w9 own_d7_12 rfl rfl ?_
  refine own_putF (pc' := 16) w9 (host := "") (Or.inl (hw _ (List.mem_of_getElem? (i := 12) rfl))) Via.refl (by simp) F_a1_narrow E_a1 (Or.inr ⟨(hw _ (List.mem_of_getElem? (i := 13) rfl)), rfl, rfl⟩) (hw _ (List.mem_of_getElem? (i := 1) rfl)) (ty := .boolean) (by decide) rfl rfl own_d7_13 rfl fun T12 h14 w13 W15 => ?_
  replace F_a1_narrow := F_a1_narrow.same W15
  replace E_a1 := E_a1.wr W15
  replace F_a1_product := F_a1_product.other W15 (Or.inr (slot_ne (Or.inr (hw _ (List.mem_of_getElem? (i := 11) rfl))) (Or.inr (hw _ (List.mem_of_getElem? (i := 13) rfl))) (by decide) (t := (.array .long)) (t' := .boolean) (by decide) (by decide)))
  replace F_a1_bits := F_a1_bits.other W15 (Or.inr (slot_ne (Or.inr (hw _ (List.mem_of_getElem? (i := 15) rfl))) (Or.inr (hw _ (List.mem_of_getElem? (i := 13) rfl))) (by decide) (t := (.array .long)) (t' := .boolean) (by decide) (by decide)))
  replace A_a7 := A_a7.other W15 (Ne.symm ne_a1_a7)
  replace K := K.wr W15 (Or.inl (by simp))
  refine own_aloadN (pc' := 17) w13 own_d7_16 rfl rfl rfl ?_
  refine own_iloadN (pc' := 18) w13 own_d7_17 rfl rfl ?_
  refine own_if (pc' := 21) w13 own_d7_18 rfl (by decide) (pcY := 25) rfl (fun (hb18 : (0 : Int32) = (0 : Int32)) => ?_) (fun (hb18 : ¬ (0 : Int32) = (0 : Int32)) => absurd hb18 (by decide))
  refine own_iconst (pc' := 26) w13 own_d7_25 (x := (2 : Int32)) rfl rfl ?_
  refine own_iloadN (pc' := 27) w13 own_d7_26 rfl rfl ?_
  refine own_imul (pc' := 28) w13 own_d7_27 (z := (4 : Int32)) (by decide) rfl ?_
  refine own_newP (pc' := 30) w13 (vs := [(.long 0), (.long 0), (.long 0), (.long 0)]) (dv := (.long 0)) (cap := 4) (hw _ (List.mem_of_getElem? (i := 9) rfl)) own_d7_28 rfl (by decide) (by decide) (by decide) rfl (own_rep 4 (.long 0)) (by decide) (by decide) fun T16 h18 a20 g_a20 w17 E19 ⟨k_a20, A_a20⟩ => ?_
  have ne_a1_a20 : a1 ≠ a20 := Nat.ne_of_lt (Nat.lt_of_lt_of_le E_a1.lt (Nat.le_of_eq g_a20))
  have ne_a7_a20 : a7 ≠ a20 := Nat.ne_of_lt (Nat.lt_of_lt_of_le A_a7.lt (Nat.le_of_eq g_a20))
  have nw_a20 : h0.size ≤ a20 := Nat.le_trans K.1 (Nat.le_of_eq g_a20)
  replace E_a1 := E_a1.ext E19
  replace F_a1_product := F_a1_product.ext E19
  replace F_a1_narrow := F_a1_narrow.ext E19
  replace F_a1_bits := F_a1_bits.ext E19
  replace A_a7 := A_a7.ext E19
  replace K := K.ext E19
  refine own_putF (pc' := 33) w17 (host := "") (Or.inl (hw _ (List.mem_of_getElem? (i := 14) rfl))) Via.refl (by simp) F_a1_bits E_a1 (Or.inr ⟨(hw _ (List.mem_of_getElem? (i := 15) rfl)), rfl, rfl⟩) (hw _ (List.mem_of_getElem? (i := 1) rfl)) (ty := (.array .long)) (by decide) rfl rfl own_d7_30 rfl fun T21 h23 w22 W24 => ?_
  replace F_a1_bits := F_a1_bits.same W24
  replace E_a1 := E_a1.wr W24
  replace F_a1_product := F_a1_product.other W24 (Or.inr (slot_ne (Or.inr (hw _ (List.mem_of_getElem? (i := 11) rfl))) (Or.inr (hw _ (List.mem_of_getElem? (i := 15) rfl))) (by decide) (t := (.array .long)) (t' := (.array .long)) (by decide) (by decide)))
  replace F_a1_narrow := F_a1_narrow.other W24 (Or.inr (slot_ne (Or.inr (hw _ (List.mem_of_getElem? (i := 13) rfl))) (Or.inr (hw _ (List.mem_of_getElem? (i := 15) rfl))) (by decide) (t := .boolean) (t' := (.array .long)) (by decide) (by decide)))
  replace A_a7 := A_a7.other W24 (Ne.symm ne_a1_a7)
  replace A_a20 := A_a20.other W24 (Ne.symm ne_a1_a20)
  replace K := K.wr W24 (Or.inl (by simp))
  exact own_ret0 w22 rfl own_d7_33 (by decide) (by decide) (ms' := [a20]) (allS (P := fun x => x ∈ _) (by simp) all0) ⟨K, a20, k_a20, rfl, rfl, E_a1, F_a1_narrow, F_a1_bits, A_a20, nw_a20⟩
theorem own_d8_20 : decode prog_42_method_4_code 20 = .ok (.aload_n 0, 1) := by decide +kernel
theorem own_d8_21 : decode prog_42_method_4_code 21 = .ok (.getfield 20, 3) := by decide +kernel
theorem own_d8_24 : decode prog_42_method_4_code 24 = .ok (.iconst 2, 1) := by decide +kernel
theorem own_d8_25 : decode prog_42_method_4_code 25 = .ok (.iload_n 1, 1) := by decide +kernel
theorem own_d8_26 : decode prog_42_method_4_code 26 = .ok (.imul, 1) := by decide +kernel
theorem own_d8_27 : decode prog_42_method_4_code 27 = .ok (.aload_n 2, 1) := by decide +kernel
theorem own_d8_28 : decode prog_42_method_4_code 28 = .ok (.getfield 36, 3) := by decide +kernel
theorem own_d8_31 : decode prog_42_method_4_code 31 = .ok (.lastore, 1) := by decide +kernel
theorem own_d8_32 : decode prog_42_method_4_code 32 = .ok (.aload_n 0, 1) := by decide +kernel
theorem own_d8_33 : decode prog_42_method_4_code 33 = .ok (.getfield 20, 3) := by decide +kernel
theorem own_d8_36 : decode prog_42_method_4_code 36 = .ok (.iconst 2, 1) := by decide +kernel
theorem own_d8_37 : decode prog_42_method_4_code 37 = .ok (.iload_n 1, 1) := by decide +kernel
theorem own_d8_38 : decode prog_42_method_4_code 38 = .ok (.imul, 1) := by decide +kernel
theorem own_d8_39 : decode prog_42_method_4_code 39 = .ok (.iconst 1, 1) := by decide +kernel
theorem own_d8_40 : decode prog_42_method_4_code 40 = .ok (.iadd, 1) := by decide +kernel
theorem own_d8_41 : decode prog_42_method_4_code 41 = .ok (.aload_n 2, 1) := by decide +kernel
theorem own_d8_42 : decode prog_42_method_4_code 42 = .ok (.getfield 32, 3) := by decide +kernel
theorem own_d8_45 : decode prog_42_method_4_code 45 = .ok (.lastore, 1) := by decide +kernel
theorem own_ef_setCW0 (m : MethodId) (a1 : Addr) (a3 : Addr) : entryFrame m #[(.ref a1), (.int (0 : Int32)), (.ref a3)] 3 = mkF m 0 #[.val (.ref a1), .val (.int (0 : Int32)), .val (.ref a3)] [] := by first | (simp [entryFrame, mkF, argsToLocals, Value.category]; done) | rfl
def own_Q_setCW0 (Z : State) (h0 : Heap) (a1 : Addr) (a3 : Addr) (t : Addr) (kt : ClassId) (hi : Int64) (lo : Int64) (p0 : Int64) (p1 : Int64) (p2 : Int64) (p3 : Int64) (v : Option Value) (h : Heap) (ms : List Addr) : Prop := (Keep h0 h [t]) ∧ (ms = []) ∧ (v = none) ∧ (Arv Z h t kt .long (4 : Int32) [(.long hi), (.long lo), (.long p2), (.long p3)] (.long 0))
set_option maxRecDepth 65536 in
set_option maxHeartbeats 40000000 in
theorem own_ct_setCW0 (l : Launch) (Z : State) (a0 : Array Value) (hw : ∀ d ∈ tables_1, d.before a0 Z = true) (EL : List (String × Nat)) (hE : EW Z a0 EL) (n0 : Nat) (ws : List Jvm.Cond) (h0 : Heap) (O : Old Z n0 h0) (a1 : Addr) (a3 : Addr) (t : Addr) (kt : ClassId) (hi : Int64) (lo : Int64) (p0 : Int64) (p1 : Int64) (p2 : Int64) (p3 : Int64) (F_a1_narrow : Fld Z h0 a1 "com/example/throng/throng/engine/Count$Array" "narrow" "Z" (.int (0 : Int32))) (F_a1_bits : Fld Z h0 a1 "com/example/throng/throng/engine/Count$Array" "bits" "[J" (.ref t)) (A_t : Arv Z h0 t kt .long (4 : Int32) [(.long p0), (.long p1), (.long p2), (.long p3)] (.long 0)) (F_a3_low : Fld Z h0 a3 "com/example/throng/throng/engine/Count" "low" "J" (.long lo)) (F_a3_high : Fld Z h0 a3 "com/example/throng/throng/engine/Count" "high" "J" (.long hi)) (ne1 : a1 ≠ t) (ne3 : a3 ≠ t) :
    own_Ct l Z EL n0 (⟨"com/example/throng/throng/engine/Count$Array", "set", "(ILcom/example/throng/throng/engine/Count;)V"⟩ : MethodName) prog_42_method_4_code 3 none ws ({ frames := 0, cells := 0, slots := 0, locals := 0 } : Room) #[(.ref a1), (.int (0 : Int32)), (.ref a3)] h0 [t] (own_Q_setCW0 Z h0 a1 a3 t kt hi lo p0 p1 p2 p3) := by
  refine own_enter (a0 := a0) own_pf8 hE O fun p e s m below meth c T0 w0 => ?_
  rw [own_ef_setCW0 m a1 a3]
  have K : Keep h0 h0 [t] := Keep.refl _ _
  refine own_aloadN (pc' := 1) w0 own_d8_0 rfl rfl rfl ?_
  refine own_getF (pc' := 4) w0 (host := "") (Or.inl (hw _ (List.mem_of_getElem? (i := 12) rfl))) Via.refl F_a1_narrow own_d8_1 rfl fun T1 w2 => ?_
  refine own_if (pc' := 7) w2 own_d8_4 rfl (by decide) (pcY := 20) rfl (fun (hb4 : (0 : Int32) = (0 : Int32)) => ?_) (fun (hb4 : ¬ (0 : Int32) = (0 : Int32)) => absurd hb4 (by decide))
  refine own_aloadN (pc' := 21) w2 own_d8_20 rfl rfl rfl ?_
  refine own_getF (pc' := 24) w2 (host := "") (Or.inl (hw _ (List.mem_of_getElem? (i := 14) rfl))) Via.refl F_a1_bits own_d8_21 rfl fun T3 w4 => ?_
  refine own_iconst (pc' := 25) w4 own_d8_24 (x := (2 : Int32)) rfl rfl ?_
  refine own_iloadN (pc' := 26) w4 own_d8_25 rfl rfl ?_
  refine own_imul (pc' := 27) w4 own_d8_26 (z := (0 : Int32)) (by decide) rfl ?_
  refine own_aloadN (pc' := 28) w4 own_d8_27 rfl rfl rfl ?_
  refine own_getF (pc' := 31) w4 (Or.inr (hw _ (List.mem_of_getElem? (i := 80) rfl))) Via.refl F_a3_high own_d8_28 rfl fun T5 w6 => ?_
  refine own_stJ (pc' := 32) w6 (i := 0) (xv := (.long hi)) (vs' := [(.long hi), (.long p1), (.long p2), (.long p3)]) (by simp) A_t (by decide) rfl (Nat.lt_of_sub_eq_succ rfl) rfl rfl rfl own_d8_31 rfl fun T7 h9 w8 W10 A_new => ?_
  clear A_t
  replace F_a1_narrow := F_a1_narrow.other W10 (Or.inl ne1)
  replace F_a1_bits := F_a1_bits.other W10 (Or.inl ne1)
  replace F_a3_low := F_a3_low.other W10 (Or.inl ne3)
  replace F_a3_high := F_a3_high.other W10 (Or.inl ne3)
  replace K := K.wr W10 (Or.inl (by simp))
  have A_t := A_new
  clear A_new
  refine own_aloadN (pc' := 33) w8 own_d8_32 rfl rfl rfl ?_
  refine own_getF (pc' := 36) w8 (host := "") (Or.inl (hw _ (List.mem_of_getElem? (i := 14) rfl))) Via.refl F_a1_bits own_d8_33 rfl fun T11 w12 => ?_
  refine own_iconst (pc' := 37) w12 own_d8_36 (x := (2 : Int32)) rfl rfl ?_
  refine own_iloadN (pc' := 38) w12 own_d8_37 rfl rfl ?_
  refine own_imul (pc' := 39) w12 own_d8_38 (z := (0 : Int32)) (by decide) rfl ?_
  refine own_iconst (pc' := 40) w12 own_d8_39 (x := (1 : Int32)) rfl rfl ?_
  refine own_iadd (pc' := 41) w12 own_d8_40 (z := (1 : Int32)) (by decide) rfl ?_
  refine own_aloadN (pc' := 42) w12 own_d8_41 rfl rfl rfl ?_
  refine own_getF (pc' := 45) w12 (Or.inr (hw _ (List.mem_of_getElem? (i := 48) rfl))) Via.refl F_a3_low own_d8_42 rfl fun T13 w14 => ?_
  refine own_stJ (pc' := 46) w14 (i := 1) (xv := (.long lo)) (vs' := [(.long hi), (.long lo), (.long p2), (.long p3)]) (by simp) A_t (by decide) rfl (Nat.lt_of_sub_eq_succ rfl) rfl rfl rfl own_d8_45 rfl fun T15 h17 w16 W18 A_new => ?_
  clear A_t
  replace F_a1_narrow := F_a1_narrow.other W18 (Or.inl ne1)
  replace F_a1_bits := F_a1_bits.other W18 (Or.inl ne1)
  replace F_a3_low := F_a3_low.other W18 (Or.inl ne3)
  replace F_a3_high := F_a3_high.other W18 (Or.inl ne3)
  replace K := K.wr W18 (Or.inl (by simp))
  have A_t := A_new
  clear A_new
  exact own_ret0 w16 rfl own_d8_46 (by decide) (by decide) (ms' := []) all0 ⟨K, rfl, rfl, A_t⟩
theorem own_d9_17 : decode prog_42_method_6_code 17 = .ok (.aload_n 0, 1) := by decide +kernel
theorem own_d9_18 : decode prog_42_method_6_code 18 = .ok (.getfield 20, 3) := by decide +kernel
theorem own_d9_21 : decode prog_42_method_6_code 21 = .ok (.iconst 2, 1) := by decide +kernel
theorem own_d9_22 : decode prog_42_method_6_code 22 = .ok (.iload_n 1, 1) := by decide +kernel
theorem own_d9_23 : decode prog_42_method_6_code 23 = .ok (.imul, 1) := by decide +kernel
theorem own_d9_24 : decode prog_42_method_6_code 24 = .ok (.lload_n 2, 1) := by decide +kernel
theorem own_d9_25 : decode prog_42_method_6_code 25 = .ok (.bipush 63, 2) := by decide +kernel
theorem own_d9_27 : decode prog_42_method_6_code 27 = .ok (.lshr, 1) := by decide +kernel
theorem own_d9_28 : decode prog_42_method_6_code 28 = .ok (.lastore, 1) := by decide +kernel
theorem own_d9_29 : decode prog_42_method_6_code 29 = .ok (.aload_n 0, 1) := by decide +kernel
theorem own_d9_30 : decode prog_42_method_6_code 30 = .ok (.getfield 20, 3) := by decide +kernel
theorem own_d9_33 : decode prog_42_method_6_code 33 = .ok (.iconst 2, 1) := by decide +kernel
theorem own_d9_34 : decode prog_42_method_6_code 34 = .ok (.iload_n 1, 1) := by decide +kernel
theorem own_d9_35 : decode prog_42_method_6_code 35 = .ok (.imul, 1) := by decide +kernel
theorem own_d9_36 : decode prog_42_method_6_code 36 = .ok (.iconst 1, 1) := by decide +kernel
theorem own_d9_37 : decode prog_42_method_6_code 37 = .ok (.iadd, 1) := by decide +kernel
theorem own_d9_38 : decode prog_42_method_6_code 38 = .ok (.lload_n 2, 1) := by decide +kernel
theorem own_d9_39 : decode prog_42_method_6_code 39 = .ok (.lastore, 1) := by decide +kernel
theorem own_ef_setJW0 (m : MethodId) (a1 : Addr) (vv : Int64) : entryFrame m #[(.ref a1), (.int (0 : Int32)), (.long vv)] 4 = mkF m 0 #[.val (.ref a1), .val (.int (0 : Int32)), .val (.long vv), .second] [] := by first | (simp [entryFrame, mkF, argsToLocals, Value.category]; done) | rfl
def own_Q_setJW0 (Z : State) (h0 : Heap) (a1 : Addr) (vv : Int64) (t : Addr) (kt : ClassId) (p0 : Int64) (p1 : Int64) (p2 : Int64) (p3 : Int64) (v : Option Value) (h : Heap) (ms : List Addr) : Prop := (Keep h0 h [t]) ∧ (ms = []) ∧ (v = none) ∧ (Arv Z h t kt .long (4 : Int32) [(.long (own_sgn vv)), (.long vv), (.long p2), (.long p3)] (.long 0))
set_option maxRecDepth 65536 in
set_option maxHeartbeats 40000000 in
theorem own_ct_setJW0 (l : Launch) (Z : State) (a0 : Array Value) (hw : ∀ d ∈ tables_1, d.before a0 Z = true) (EL : List (String × Nat)) (hE : EW Z a0 EL) (n0 : Nat) (ws : List Jvm.Cond) (h0 : Heap) (O : Old Z n0 h0) (a1 : Addr) (vv : Int64) (t : Addr) (kt : ClassId) (p0 : Int64) (p1 : Int64) (p2 : Int64) (p3 : Int64) (F_a1_narrow : Fld Z h0 a1 "com/example/throng/throng/engine/Count$Array" "narrow" "Z" (.int (0 : Int32))) (F_a1_bits : Fld Z h0 a1 "com/example/throng/throng/engine/Count$Array" "bits" "[J" (.ref t)) (A_t : Arv Z h0 t kt .long (4 : Int32) [(.long p0), (.long p1), (.long p2), (.long p3)] (.long 0)) (ne1 : a1 ≠ t) :
    own_Ct l Z EL n0 (⟨"com/example/throng/throng/engine/Count$Array", "set", "(IJ)V"⟩ : MethodName) prog_42_method_6_code 4 none ws ({ frames := 0, cells := 0, slots := 0, locals := 0 } : Room) #[(.ref a1), (.int (0 : Int32)), (.long vv)] h0 [t] (own_Q_setJW0 Z h0 a1 vv t kt p0 p1 p2 p3) := by
  refine own_enter (a0 := a0) own_pf9 hE O fun p e s m below meth c T0 w0 => ?_
  rw [own_ef_setJW0 m a1 vv]
  have K : Keep h0 h0 [t] := Keep.refl _ _
  refine own_aloadN (pc' := 1) w0 own_d9_0 rfl rfl rfl ?_
  refine own_getF (pc' := 4) w0 (host := "") (Or.inl (hw _ (List.mem_of_getElem? (i := 12) rfl))) Via.refl F_a1_narrow own_d9_1 rfl fun T1 w2 => ?_
  refine own_if (pc' := 7) w2 own_d9_4 rfl (by decide) (pcY := 17) rfl (fun (hb4 : (0 : Int32) = (0 : Int32)) => ?_) (fun (hb4 : ¬ (0 : Int32) = (0 : Int32)) => absurd hb4 (by decide))
  refine own_aloadN (pc' := 18) w2 own_d9_17 rfl rfl rfl ?_
  refine own_getF (pc' := 21) w2 (host := "") (Or.inl (hw _ (List.mem_of_getElem? (i := 14) rfl))) Via.refl F_a1_bits own_d9_18 rfl fun T3 w4 => ?_
  refine own_iconst (pc' := 22) w4 own_d9_21 (x := (2 : Int32)) rfl rfl ?_
  refine own_iloadN (pc' := 23) w4 own_d9_22 rfl rfl ?_
  refine own_imul (pc' := 24) w4 own_d9_23 (z := (0 : Int32)) (by decide) rfl ?_
  refine own_lloadN (pc' := 25) w4 own_d9_24 rfl rfl ?_
  refine own_bipush (pc' := 27) w4 own_d9_25 (x := (63 : Int32)) rfl rfl ?_
  refine own_lshr (pc' := 28) w4 own_d9_27 (z := (own_sgn vv)) rfl rfl ?_
  refine own_stJ (pc' := 29) w4 (i := 0) (xv := (.long (own_sgn vv))) (vs' := [(.long (own_sgn vv)), (.long p1), (.long p2), (.long p3)]) (by simp) A_t (by decide) rfl (Nat.lt_of_sub_eq_succ rfl) rfl rfl rfl own_d9_28 rfl fun T5 h7 w6 W8 A_new => ?_
  clear A_t
  replace F_a1_narrow := F_a1_narrow.other W8 (Or.inl ne1)
  replace F_a1_bits := F_a1_bits.other W8 (Or.inl ne1)
  replace K := K.wr W8 (Or.inl (by simp))
  have A_t := A_new
  clear A_new
  refine own_aloadN (pc' := 30) w6 own_d9_29 rfl rfl rfl ?_
  refine own_getF (pc' := 33) w6 (host := "") (Or.inl (hw _ (List.mem_of_getElem? (i := 14) rfl))) Via.refl F_a1_bits own_d9_30 rfl fun T9 w10 => ?_
  refine own_iconst (pc' := 34) w10 own_d9_33 (x := (2 : Int32)) rfl rfl ?_
  refine own_iloadN (pc' := 35) w10 own_d9_34 rfl rfl ?_
  refine own_imul (pc' := 36) w10 own_d9_35 (z := (0 : Int32)) (by decide) rfl ?_
  refine own_iconst (pc' := 37) w10 own_d9_36 (x := (1 : Int32)) rfl rfl ?_
  refine own_iadd (pc' := 38) w10 own_d9_37 (z := (1 : Int32)) (by decide) rfl ?_
  refine own_lloadN (pc' := 39) w10 own_d9_38 rfl rfl ?_
  refine own_stJ (pc' := 40) w10 (i := 1) (xv := (.long vv)) (vs' := [(.long (own_sgn vv)), (.long vv), (.long p2), (.long p3)]) (by simp) A_t (by decide) rfl (Nat.lt_of_sub_eq_succ rfl) rfl rfl rfl own_d9_39 rfl fun T11 h13 w12 W14 A_new => ?_
  clear A_t
  replace F_a1_narrow := F_a1_narrow.other W14 (Or.inl ne1)
  replace F_a1_bits := F_a1_bits.other W14 (Or.inl ne1)
  replace K := K.wr W14 (Or.inl (by simp))
  have A_t := A_new
  clear A_new
  exact own_ret0 w12 rfl own_d9_40 (by decide) (by decide) (ms' := []) all0 ⟨K, rfl, rfl, A_t⟩
theorem own_d10_22 : decode prog_42_method_5_code 22 = .ok (.aload_n 0, 1) := by decide +kernel
theorem own_d10_23 : decode prog_42_method_5_code 23 = .ok (.getfield 20, 3) := by decide +kernel
theorem own_d10_26 : decode prog_42_method_5_code 26 = .ok (.iconst 2, 1) := by decide +kernel
theorem own_d10_27 : decode prog_42_method_5_code 27 = .ok (.iload_n 1, 1) := by decide +kernel
theorem own_d10_28 : decode prog_42_method_5_code 28 = .ok (.imul, 1) := by decide +kernel
theorem own_d10_29 : decode prog_42_method_5_code 29 = .ok (.aload_n 2, 1) := by decide +kernel
theorem own_d10_30 : decode prog_42_method_5_code 30 = .ok (.getfield 20, 3) := by decide +kernel
theorem own_d10_33 : decode prog_42_method_5_code 33 = .ok (.iconst 2, 1) := by decide +kernel
theorem own_d10_34 : decode prog_42_method_5_code 34 = .ok (.iload_n 3, 1) := by decide +kernel
theorem own_d10_35 : decode prog_42_method_5_code 35 = .ok (.imul, 1) := by decide +kernel
theorem own_d10_36 : decode prog_42_method_5_code 36 = .ok (.laload, 1) := by decide +kernel
theorem own_d10_37 : decode prog_42_method_5_code 37 = .ok (.lastore, 1) := by decide +kernel
theorem own_d10_38 : decode prog_42_method_5_code 38 = .ok (.aload_n 0, 1) := by decide +kernel
theorem own_d10_39 : decode prog_42_method_5_code 39 = .ok (.getfield 20, 3) := by decide +kernel
theorem own_d10_42 : decode prog_42_method_5_code 42 = .ok (.iconst 2, 1) := by decide +kernel
theorem own_d10_43 : decode prog_42_method_5_code 43 = .ok (.iload_n 1, 1) := by decide +kernel
theorem own_d10_44 : decode prog_42_method_5_code 44 = .ok (.imul, 1) := by decide +kernel
theorem own_d10_45 : decode prog_42_method_5_code 45 = .ok (.iconst 1, 1) := by decide +kernel
theorem own_d10_46 : decode prog_42_method_5_code 46 = .ok (.iadd, 1) := by decide +kernel
theorem own_d10_47 : decode prog_42_method_5_code 47 = .ok (.aload_n 2, 1) := by decide +kernel
theorem own_d10_48 : decode prog_42_method_5_code 48 = .ok (.getfield 20, 3) := by decide +kernel
theorem own_d10_51 : decode prog_42_method_5_code 51 = .ok (.iconst 2, 1) := by decide +kernel
theorem own_d10_52 : decode prog_42_method_5_code 52 = .ok (.iload_n 3, 1) := by decide +kernel
theorem own_d10_53 : decode prog_42_method_5_code 53 = .ok (.imul, 1) := by decide +kernel
theorem own_d10_54 : decode prog_42_method_5_code 54 = .ok (.iconst 1, 1) := by decide +kernel
theorem own_d10_55 : decode prog_42_method_5_code 55 = .ok (.iadd, 1) := by decide +kernel
theorem own_d10_56 : decode prog_42_method_5_code 56 = .ok (.laload, 1) := by decide +kernel
theorem own_d10_57 : decode prog_42_method_5_code 57 = .ok (.lastore, 1) := by decide +kernel
theorem own_ef_setAW00 (m : MethodId) (a1 : Addr) (a3 : Addr) : entryFrame m #[(.ref a1), (.int (0 : Int32)), (.ref a3), (.int (0 : Int32))] 4 = mkF m 0 #[.val (.ref a1), .val (.int (0 : Int32)), .val (.ref a3), .val (.int (0 : Int32))] [] := by first | (simp [entryFrame, mkF, argsToLocals, Value.category]; done) | rfl
def own_Q_setAW00 (Z : State) (h0 : Heap) (a1 : Addr) (a3 : Addr) (t : Addr) (kt : ClassId) (t3 : Addr) (kt3 : ClassId) (p0 : Int64) (p1 : Int64) (p2 : Int64) (p3 : Int64) (q0 : Int64) (q1 : Int64) (q2 : Int64) (q3 : Int64) (v : Option Value) (h : Heap) (ms : List Addr) : Prop := (Keep h0 h [t]) ∧ (ms = []) ∧ (v = none) ∧ (Arv Z h t kt .long (4 : Int32) [(.long q0), (.long q1), (.long p2), (.long p3)] (.long 0))
set_option maxRecDepth 65536 in
set_option maxHeartbeats 40000000 in
theorem own_ct_setAW00 (l : Launch) (Z : State) (a0 : Array Value) (hw : ∀ d ∈ tables_1, d.before a0 Z = true) (EL : List (String × Nat)) (hE : EW Z a0 EL) (n0 : Nat) (ws : List Jvm.Cond) (h0 : Heap) (O : Old Z n0 h0) (a1 : Addr) (a3 : Addr) (t : Addr) (kt : ClassId) (t3 : Addr) (kt3 : ClassId) (p0 : Int64) (p1 : Int64) (p2 : Int64) (p3 : Int64) (q0 : Int64) (q1 : Int64) (q2 : Int64) (q3 : Int64) (F_a1_narrow : Fld Z h0 a1 "com/example/throng/throng/engine/Count$Array" "narrow" "Z" (.int (0 : Int32))) (F_a1_bits : Fld Z h0 a1 "com/example/throng/throng/engine/Count$Array" "bits" "[J" (.ref t)) (A_t : Arv Z h0 t kt .long (4 : Int32) [(.long p0), (.long p1), (.long p2), (.long p3)] (.long 0)) (F_a3_bits : Fld Z h0 a3 "com/example/throng/throng/engine/Count$Array" "bits" "[J" (.ref t3)) (A_t3 : Arv Z h0 t3 kt3 .long (4 : Int32) [(.long q0), (.long q1), (.long q2), (.long q3)] (.long 0)) (ne1 : a1 ≠ t) (ne3 : a3 ≠ t) (ne33 : t3 ≠ t) :
    own_Ct l Z EL n0 (⟨"com/example/throng/throng/engine/Count$Array", "set", "(ILcom/example/throng/throng/engine/Count$Array;I)V"⟩ : MethodName) prog_42_method_5_code 4 none ws ({ frames := 0, cells := 0, slots := 0, locals := 0 } : Room) #[(.ref a1), (.int (0 : Int32)), (.ref a3), (.int (0 : Int32))] h0 [t] (own_Q_setAW00 Z h0 a1 a3 t kt t3 kt3 p0 p1 p2 p3 q0 q1 q2 q3) := by
  refine own_enter (a0 := a0) own_pf10 hE O fun p e s m below meth c T0 w0 => ?_
  rw [own_ef_setAW00 m a1 a3]
  have K : Keep h0 h0 [t] := Keep.refl _ _
  refine own_aloadN (pc' := 1) w0 own_d10_0 rfl rfl rfl ?_
  refine own_getF (pc' := 4) w0 (host := "") (Or.inl (hw _ (List.mem_of_getElem? (i := 12) rfl))) Via.refl F_a1_narrow own_d10_1 rfl fun T1 w2 => ?_
  refine own_if (pc' := 7) w2 own_d10_4 rfl (by decide) (pcY := 22) rfl (fun (hb4 : (0 : Int32) = (0 : Int32)) => ?_) (fun (hb4 : ¬ (0 : Int32) = (0 : Int32)) => absurd hb4 (by decide))
  refine own_aloadN (pc' := 23) w2 own_d10_22 rfl rfl rfl ?_
  refine own_getF (pc' := 26) w2 (host := "") (Or.inl (hw _ (List.mem_of_getElem? (i := 14) rfl))) Via.refl F_a1_bits own_d10_23 rfl fun T3 w4 => ?_
  refine own_iconst (pc' := 27) w4 own_d10_26 (x := (2 : Int32)) rfl rfl ?_
  refine own_iloadN (pc' := 28) w4 own_d10_27 rfl rfl ?_
  refine own_imul (pc' := 29) w4 own_d10_28 (z := (0 : Int32)) (by decide) rfl ?_
  refine own_aloadN (pc' := 30) w4 own_d10_29 rfl rfl rfl ?_
  refine own_getF (pc' := 33) w4 (host := "") (Or.inl (hw _ (List.mem_of_getElem? (i := 14) rfl))) Via.refl F_a3_bits own_d10_30 rfl fun T5 w6 => ?_
  refine own_iconst (pc' := 34) w6 own_d10_33 (x := (2 : Int32)) rfl rfl ?_
  refine own_iloadN (pc' := 35) w6 own_d10_34 rfl rfl ?_
  refine own_imul (pc' := 36) w6 own_d10_35 (z := (0 : Int32)) (by decide) rfl ?_
  refine own_ldJ (pc' := 37) w6 (v := (.long q0)) A_t3 (by decide) rfl own_d10_36 rfl ?_
  refine own_stJ (pc' := 38) w6 (i := 0) (xv := (.long q0)) (vs' := [(.long q0), (.long p1), (.long p2), (.long p3)]) (by simp) A_t (by decide) rfl (Nat.lt_of_sub_eq_succ rfl) rfl rfl rfl own_d10_37 rfl fun T7 h9 w8 W10 A_new => ?_
  clear A_t
  replace F_a1_narrow := F_a1_narrow.other W10 (Or.inl ne1)
  replace F_a1_bits := F_a1_bits.other W10 (Or.inl ne1)
  replace F_a3_bits := F_a3_bits.other W10 (Or.inl ne3)
  replace A_t3 := A_t3.other W10 ne33
  replace K := K.wr W10 (Or.inl (by simp))
  have A_t := A_new
  clear A_new
  refine own_aloadN (pc' := 39) w8 own_d10_38 rfl rfl rfl ?_
  refine own_getF (pc' := 42) w8 (host := "") (Or.inl (hw _ (List.mem_of_getElem? (i := 14) rfl))) Via.refl F_a1_bits own_d10_39 rfl fun T11 w12 => ?_
  refine own_iconst (pc' := 43) w12 own_d10_42 (x := (2 : Int32)) rfl rfl ?_
  refine own_iloadN (pc' := 44) w12 own_d10_43 rfl rfl ?_
  refine own_imul (pc' := 45) w12 own_d10_44 (z := (0 : Int32)) (by decide) rfl ?_
  refine own_iconst (pc' := 46) w12 own_d10_45 (x := (1 : Int32)) rfl rfl ?_
  refine own_iadd (pc' := 47) w12 own_d10_46 (z := (1 : Int32)) (by decide) rfl ?_
  refine own_aloadN (pc' := 48) w12 own_d10_47 rfl rfl rfl ?_
  refine own_getF (pc' := 51) w12 (host := "") (Or.inl (hw _ (List.mem_of_getElem? (i := 14) rfl))) Via.refl F_a3_bits own_d10_48 rfl fun T13 w14 => ?_
  refine own_iconst (pc' := 52) w14 own_d10_51 (x := (2 : Int32)) rfl rfl ?_
  refine own_iloadN (pc' := 53) w14 own_d10_52 rfl rfl ?_
  refine own_imul (pc' := 54) w14 own_d10_53 (z := (0 : Int32)) (by decide) rfl ?_
  refine own_iconst (pc' := 55) w14 own_d10_54 (x := (1 : Int32)) rfl rfl ?_
  refine own_iadd (pc' := 56) w14 own_d10_55 (z := (1 : Int32)) (by decide) rfl ?_
  refine own_ldJ (pc' := 57) w14 (v := (.long q1)) A_t3 (by decide) rfl own_d10_56 rfl ?_
  refine own_stJ (pc' := 58) w14 (i := 1) (xv := (.long q1)) (vs' := [(.long q0), (.long q1), (.long p2), (.long p3)]) (by simp) A_t (by decide) rfl (Nat.lt_of_sub_eq_succ rfl) rfl rfl rfl own_d10_57 rfl fun T15 h17 w16 W18 A_new => ?_
  clear A_t
  replace F_a1_narrow := F_a1_narrow.other W18 (Or.inl ne1)
  replace F_a1_bits := F_a1_bits.other W18 (Or.inl ne1)
  replace F_a3_bits := F_a3_bits.other W18 (Or.inl ne3)
  replace A_t3 := A_t3.other W18 ne33
  replace K := K.wr W18 (Or.inl (by simp))
  have A_t := A_new
  clear A_new
  exact own_ret0 w16 rfl own_d10_58 (by decide) (by decide) (ms' := []) all0 ⟨K, rfl, rfl, A_t⟩
theorem own_ef_setAW01 (m : MethodId) (a1 : Addr) (a3 : Addr) : entryFrame m #[(.ref a1), (.int (0 : Int32)), (.ref a3), (.int (1 : Int32))] 4 = mkF m 0 #[.val (.ref a1), .val (.int (0 : Int32)), .val (.ref a3), .val (.int (1 : Int32))] [] := by first | (simp [entryFrame, mkF, argsToLocals, Value.category]; done) | rfl
def own_Q_setAW01 (Z : State) (h0 : Heap) (a1 : Addr) (a3 : Addr) (t : Addr) (kt : ClassId) (t3 : Addr) (kt3 : ClassId) (p0 : Int64) (p1 : Int64) (p2 : Int64) (p3 : Int64) (q0 : Int64) (q1 : Int64) (q2 : Int64) (q3 : Int64) (v : Option Value) (h : Heap) (ms : List Addr) : Prop := (Keep h0 h [t]) ∧ (ms = []) ∧ (v = none) ∧ (Arv Z h t kt .long (4 : Int32) [(.long q2), (.long q3), (.long p2), (.long p3)] (.long 0))
set_option maxRecDepth 65536 in
set_option maxHeartbeats 40000000 in
theorem own_ct_setAW01 (l : Launch) (Z : State) (a0 : Array Value) (hw : ∀ d ∈ tables_1, d.before a0 Z = true) (EL : List (String × Nat)) (hE : EW Z a0 EL) (n0 : Nat) (ws : List Jvm.Cond) (h0 : Heap) (O : Old Z n0 h0) (a1 : Addr) (a3 : Addr) (t : Addr) (kt : ClassId) (t3 : Addr) (kt3 : ClassId) (p0 : Int64) (p1 : Int64) (p2 : Int64) (p3 : Int64) (q0 : Int64) (q1 : Int64) (q2 : Int64) (q3 : Int64) (F_a1_narrow : Fld Z h0 a1 "com/example/throng/throng/engine/Count$Array" "narrow" "Z" (.int (0 : Int32))) (F_a1_bits : Fld Z h0 a1 "com/example/throng/throng/engine/Count$Array" "bits" "[J" (.ref t)) (A_t : Arv Z h0 t kt .long (4 : Int32) [(.long p0), (.long p1), (.long p2), (.long p3)] (.long 0)) (F_a3_bits : Fld Z h0 a3 "com/example/throng/throng/engine/Count$Array" "bits" "[J" (.ref t3)) (A_t3 : Arv Z h0 t3 kt3 .long (4 : Int32) [(.long q0), (.long q1), (.long q2), (.long q3)] (.long 0)) (ne1 : a1 ≠ t) (ne3 : a3 ≠ t) (ne33 : t3 ≠ t) :
    own_Ct l Z EL n0 (⟨"com/example/throng/throng/engine/Count$Array", "set", "(ILcom/example/throng/throng/engine/Count$Array;I)V"⟩ : MethodName) prog_42_method_5_code 4 none ws ({ frames := 0, cells := 0, slots := 0, locals := 0 } : Room) #[(.ref a1), (.int (0 : Int32)), (.ref a3), (.int (1 : Int32))] h0 [t] (own_Q_setAW01 Z h0 a1 a3 t kt t3 kt3 p0 p1 p2 p3 q0 q1 q2 q3) := by
  refine own_enter (a0 := a0) own_pf10 hE O fun p e s m below meth c T0 w0 => ?_
  rw [own_ef_setAW01 m a1 a3]
  have K : Keep h0 h0 [t] := Keep.refl _ _
  refine own_aloadN (pc' := 1) w0 own_d10_0 rfl rfl rfl ?_
  refine own_getF (pc' := 4) w0 (host := "") (Or.inl (hw _ (List.mem_of_getElem? (i := 12) rfl))) Via.refl F_a1_narrow own_d10_1 rfl fun T1 w2 => ?_
  refine own_if (pc' := 7) w2 own_d10_4 rfl (by decide) (pcY := 22) rfl (fun (hb4 : (0 : Int32) = (0 : Int32)) => ?_) (fun (hb4 : ¬ (0 : Int32) = (0 : Int32)) => absurd hb4 (by decide))
  refine own_aloadN (pc' := 23) w2 own_d10_22 rfl rfl rfl ?_
  refine own_getF (pc' := 26) w2 (host := "") (Or.inl (hw _ (List.mem_of_getElem? (i := 14) rfl))) Via.refl F_a1_bits own_d10_23 rfl fun T3 w4 => ?_
  refine own_iconst (pc' := 27) w4 own_d10_26 (x := (2 : Int32)) rfl rfl ?_
  refine own_iloadN (pc' := 28) w4 own_d10_27 rfl rfl ?_
  refine own_imul (pc' := 29) w4 own_d10_28 (z := (0 : Int32)) (by decide) rfl ?_
  refine own_aloadN (pc' := 30) w4 own_d10_29 rfl rfl rfl ?_
  refine own_getF (pc' := 33) w4 (host := "") (Or.inl (hw _ (List.mem_of_getElem? (i := 14) rfl))) Via.refl F_a3_bits own_d10_30 rfl fun T5 w6 => ?_
  refine own_iconst (pc' := 34) w6 own_d10_33 (x := (2 : Int32)) rfl rfl ?_
  refine own_iloadN (pc' := 35) w6 own_d10_34 rfl rfl ?_
  refine own_imul (pc' := 36) w6 own_d10_35 (z := (2 : Int32)) (by decide) rfl ?_
  refine own_ldJ (pc' := 37) w6 (v := (.long q2)) A_t3 (by decide) rfl own_d10_36 rfl ?_
  refine own_stJ (pc' := 38) w6 (i := 0) (xv := (.long q2)) (vs' := [(.long q2), (.long p1), (.long p2), (.long p3)]) (by simp) A_t (by decide) rfl (Nat.lt_of_sub_eq_succ rfl) rfl rfl rfl own_d10_37 rfl fun T7 h9 w8 W10 A_new => ?_
  clear A_t
  replace F_a1_narrow := F_a1_narrow.other W10 (Or.inl ne1)
  replace F_a1_bits := F_a1_bits.other W10 (Or.inl ne1)
  replace F_a3_bits := F_a3_bits.other W10 (Or.inl ne3)
  replace A_t3 := A_t3.other W10 ne33
  replace K := K.wr W10 (Or.inl (by simp))
  have A_t := A_new
  clear A_new
  refine own_aloadN (pc' := 39) w8 own_d10_38 rfl rfl rfl ?_
  refine own_getF (pc' := 42) w8 (host := "") (Or.inl (hw _ (List.mem_of_getElem? (i := 14) rfl))) Via.refl F_a1_bits own_d10_39 rfl fun T11 w12 => ?_
  refine own_iconst (pc' := 43) w12 own_d10_42 (x := (2 : Int32)) rfl rfl ?_
  refine own_iloadN (pc' := 44) w12 own_d10_43 rfl rfl ?_
  refine own_imul (pc' := 45) w12 own_d10_44 (z := (0 : Int32)) (by decide) rfl ?_
  refine own_iconst (pc' := 46) w12 own_d10_45 (x := (1 : Int32)) rfl rfl ?_
  refine own_iadd (pc' := 47) w12 own_d10_46 (z := (1 : Int32)) (by decide) rfl ?_
  refine own_aloadN (pc' := 48) w12 own_d10_47 rfl rfl rfl ?_
  refine own_getF (pc' := 51) w12 (host := "") (Or.inl (hw _ (List.mem_of_getElem? (i := 14) rfl))) Via.refl F_a3_bits own_d10_48 rfl fun T13 w14 => ?_
  refine own_iconst (pc' := 52) w14 own_d10_51 (x := (2 : Int32)) rfl rfl ?_
  refine own_iloadN (pc' := 53) w14 own_d10_52 rfl rfl ?_
  refine own_imul (pc' := 54) w14 own_d10_53 (z := (2 : Int32)) (by decide) rfl ?_
  refine own_iconst (pc' := 55) w14 own_d10_54 (x := (1 : Int32)) rfl rfl ?_
  refine own_iadd (pc' := 56) w14 own_d10_55 (z := (3 : Int32)) (by decide) rfl ?_
  refine own_ldJ (pc' := 57) w14 (v := (.long q3)) A_t3 (by decide) rfl own_d10_56 rfl ?_
  refine own_stJ (pc' := 58) w14 (i := 1) (xv := (.long q3)) (vs' := [(.long q2), (.long q3), (.long p2), (.long p3)]) (by simp) A_t (by decide) rfl (Nat.lt_of_sub_eq_succ rfl) rfl rfl rfl own_d10_57 rfl fun T15 h17 w16 W18 A_new => ?_
  clear A_t
  replace F_a1_narrow := F_a1_narrow.other W18 (Or.inl ne1)
  replace F_a1_bits := F_a1_bits.other W18 (Or.inl ne1)
  replace F_a3_bits := F_a3_bits.other W18 (Or.inl ne3)
  replace A_t3 := A_t3.other W18 ne33
  replace K := K.wr W18 (Or.inl (by simp))
  have A_t := A_new
  clear A_new
  exact own_ret0 w16 rfl own_d10_58 (by decide) (by decide) (ms' := []) all0 ⟨K, rfl, rfl, A_t⟩
theorem own_d11_20 : decode prog_42_method_7_code 20 = .ok (.aload_n 0, 1) := by decide +kernel
theorem own_d11_21 : decode prog_42_method_7_code 21 = .ok (.getfield 20, 3) := by decide +kernel
theorem own_d11_24 : decode prog_42_method_7_code 24 = .ok (.iconst 2, 1) := by decide +kernel
theorem own_d11_25 : decode prog_42_method_7_code 25 = .ok (.iload_n 1, 1) := by decide +kernel
theorem own_d11_26 : decode prog_42_method_7_code 26 = .ok (.imul, 1) := by decide +kernel
theorem own_d11_27 : decode prog_42_method_7_code 27 = .ok (.laload, 1) := by decide +kernel
theorem own_d11_28 : decode prog_42_method_7_code 28 = .ok (.lstore_n 3, 1) := by decide +kernel
theorem own_d11_29 : decode prog_42_method_7_code 29 = .ok (.lload_n 3, 1) := by decide +kernel
theorem own_d11_30 : decode prog_42_method_7_code 30 = .ok (.lconst 0, 1) := by decide +kernel
theorem own_d11_31 : decode prog_42_method_7_code 31 = .ok (.lcmp, 1) := by decide +kernel
theorem own_d11_32 : decode prog_42_method_7_code 32 = .ok (.ifCond .ge 7, 3) := by decide +kernel
theorem own_d11_39 : decode prog_42_method_7_code 39 = .ok (.lload_n 3, 1) := by decide +kernel
theorem own_d11_40 : decode prog_42_method_7_code 40 = .ok (.lconst 0, 1) := by decide +kernel
theorem own_d11_41 : decode prog_42_method_7_code 41 = .ok (.lcmp, 1) := by decide +kernel
theorem own_d11_42 : decode prog_42_method_7_code 42 = .ok (.ifCond .ne 22, 3) := by decide +kernel
theorem own_d11_45 : decode prog_42_method_7_code 45 = .ok (.aload_n 0, 1) := by decide +kernel
theorem own_d11_46 : decode prog_42_method_7_code 46 = .ok (.getfield 20, 3) := by decide +kernel
theorem own_d11_49 : decode prog_42_method_7_code 49 = .ok (.iconst 2, 1) := by decide +kernel
theorem own_d11_50 : decode prog_42_method_7_code 50 = .ok (.iload_n 1, 1) := by decide +kernel
theorem own_d11_51 : decode prog_42_method_7_code 51 = .ok (.imul, 1) := by decide +kernel
theorem own_d11_52 : decode prog_42_method_7_code 52 = .ok (.iconst 1, 1) := by decide +kernel
theorem own_d11_53 : decode prog_42_method_7_code 53 = .ok (.iadd, 1) := by decide +kernel
theorem own_d11_54 : decode prog_42_method_7_code 54 = .ok (.laload, 1) := by decide +kernel
theorem own_d11_55 : decode prog_42_method_7_code 55 = .ok (.lconst 0, 1) := by decide +kernel
theorem own_d11_56 : decode prog_42_method_7_code 56 = .ok (.lcmp, 1) := by decide +kernel
theorem own_d11_57 : decode prog_42_method_7_code 57 = .ok (.ifCond .ne 7, 3) := by decide +kernel
theorem own_d11_60 : decode prog_42_method_7_code 60 = .ok (.iconst 0, 1) := by decide +kernel
theorem own_d11_61 : decode prog_42_method_7_code 61 = .ok (.goto 4, 3) := by decide +kernel
theorem own_d11_65 : decode prog_42_method_7_code 65 = .ok (.istore_n 2, 1) := by decide +kernel
theorem own_ef_sigW0 (m : MethodId) (a1 : Addr) : entryFrame m #[(.ref a1), (.int (0 : Int32))] 5 = mkF m 0 #[.val (.ref a1), .val (.int (0 : Int32)), .unset, .unset, .unset] [] := by first | (simp [entryFrame, mkF, argsToLocals, Value.category]; done) | rfl
def own_Q_sigW0 (Z : State) (h0 : Heap) (a1 : Addr) (t : Addr) (kt : ClassId) (p2 : Int64) (p3 : Int64) (v : Option Value) (h : Heap) (ms : List Addr) : Prop := (h0 = h) ∧ (ms = []) ∧ (v = some (.int 0))
set_option maxRecDepth 65536 in
set_option maxHeartbeats 40000000 in
theorem own_ct_sigW0 (l : Launch) (Z : State) (a0 : Array Value) (hw : ∀ d ∈ tables_1, d.before a0 Z = true) (EL : List (String × Nat)) (hE : EW Z a0 EL) (n0 : Nat) (ws : List Jvm.Cond) (h0 : Heap) (O : Old Z n0 h0) (a1 : Addr) (t : Addr) (kt : ClassId) (p2 : Int64) (p3 : Int64) (F_a1_narrow : Fld Z h0 a1 "com/example/throng/throng/engine/Count$Array" "narrow" "Z" (.int (0 : Int32))) (F_a1_bits : Fld Z h0 a1 "com/example/throng/throng/engine/Count$Array" "bits" "[J" (.ref t)) (A_t : Arv Z h0 t kt .long (4 : Int32) [(.long 0), (.long 0), (.long p2), (.long p3)] (.long 0)) :
    own_Ct l Z EL n0 (⟨"com/example/throng/throng/engine/Count$Array", "signum", "(I)I"⟩ : MethodName) prog_42_method_7_code 5 (some .int) ws ({ frames := 0, cells := 0, slots := 0, locals := 0 } : Room) #[(.ref a1), (.int (0 : Int32))] h0 [] (own_Q_sigW0 Z h0 a1 t kt p2 p3) := by
  refine own_enter (a0 := a0) own_pf11 hE O fun p e s m below meth c T0 w0 => ?_
  rw [own_ef_sigW0 m a1]
  refine own_aloadN (pc' := 1) w0 own_d11_0 rfl rfl rfl ?_
  refine own_getF (pc' := 4) w0 (host := "") (Or.inl (hw _ (List.mem_of_getElem? (i := 12) rfl))) Via.refl F_a1_narrow own_d11_1 rfl fun T1 w2 => ?_
  refine own_if (pc' := 7) w2 own_d11_4 rfl (by decide) (pcY := 20) rfl (fun (hb4 : (0 : Int32) = (0 : Int32)) => ?_) (fun (hb4 : ¬ (0 : Int32) = (0 : Int32)) => absurd hb4 (by decide))
  refine own_aloadN (pc' := 21) w2 own_d11_20 rfl rfl rfl ?_
  refine own_getF (pc' := 24) w2 (host := "") (Or.inl (hw _ (List.mem_of_getElem? (i := 14) rfl))) Via.refl F_a1_bits own_d11_21 rfl fun T3 w4 => ?_
  refine own_iconst (pc' := 25) w4 own_d11_24 (x := (2 : Int32)) rfl rfl ?_
  refine own_iloadN (pc' := 26) w4 own_d11_25 rfl rfl ?_
  refine own_imul (pc' := 27) w4 own_d11_26 (z := (0 : Int32)) (by decide) rfl ?_
  refine own_ldJ (pc' := 28) w4 (v := (.long 0)) A_t (by decide) rfl own_d11_27 rfl ?_
  refine own_lstoreN (pc' := 29) w4 own_d11_28 (Ls' := #[.val (.ref a1), .val (.int (0 : Int32)), .unset, .val (.long 0), .second]) rfl rfl ?_
  refine own_lloadN (pc' := 30) w4 own_d11_29 rfl rfl ?_
  refine own_lconst (pc' := 31) w4 own_d11_30 (x := (0 : Int64)) rfl rfl ?_
  refine own_lcmp (pc' := 32) w4 own_d11_31 (z := (XT.cmpL 0 (0 : Int64))) rfl rfl ?_
  refine own_if (pc' := 35) w4 own_d11_32 rfl (by decide) (pcY := 39) rfl (fun (hb32 : ¬ (XT.cmpL 0 (0 : Int64)) < (0 : Int32)) => ?_) (fun (hb32 : (XT.cmpL 0 (0 : Int64)) < (0 : Int32)) => absurd hb32 (by decide))
  refine own_lloadN (pc' := 40) w4 own_d11_39 rfl rfl ?_
  refine own_lconst (pc' := 41) w4 own_d11_40 (x := (0 : Int64)) rfl rfl ?_
  refine own_lcmp (pc' := 42) w4 own_d11_41 (z := (XT.cmpL 0 (0 : Int64))) rfl rfl ?_
  refine own_if (pc' := 45) w4 own_d11_42 rfl (by decide) (pcY := 64) rfl (fun (hb42 : ¬ (XT.cmpL 0 (0 : Int64)) = (0 : Int32)) => absurd (by decide) hb42) (fun (hb42 : (XT.cmpL 0 (0 : Int64)) = (0 : Int32)) => ?_)
  refine own_aloadN (pc' := 46) w4 own_d11_45 rfl rfl rfl ?_
  refine own_getF (pc' := 49) w4 (host := "") (Or.inl (hw _ (List.mem_of_getElem? (i := 14) rfl))) Via.refl F_a1_bits own_d11_46 rfl fun T5 w6 => ?_
  refine own_iconst (pc' := 50) w6 own_d11_49 (x := (2 : Int32)) rfl rfl ?_
  refine own_iloadN (pc' := 51) w6 own_d11_50 rfl rfl ?_
  refine own_imul (pc' := 52) w6 own_d11_51 (z := (0 : Int32)) (by decide) rfl ?_
  refine own_iconst (pc' := 53) w6 own_d11_52 (x := (1 : Int32)) rfl rfl ?_
  refine own_iadd (pc' := 54) w6 own_d11_53 (z := (1 : Int32)) (by decide) rfl ?_
  refine own_ldJ (pc' := 55) w6 (v := (.long 0)) A_t (by decide) rfl own_d11_54 rfl ?_
  refine own_lconst (pc' := 56) w6 own_d11_55 (x := (0 : Int64)) rfl rfl ?_
  refine own_lcmp (pc' := 57) w6 own_d11_56 (z := (XT.cmpL 0 (0 : Int64))) rfl rfl ?_
  refine own_if (pc' := 60) w6 own_d11_57 rfl (by decide) (pcY := 64) rfl (fun (hb57 : ¬ (XT.cmpL 0 (0 : Int64)) = (0 : Int32)) => absurd (by decide) hb57) (fun (hb57 : (XT.cmpL 0 (0 : Int64)) = (0 : Int32)) => ?_)
  refine own_iconst (pc' := 61) w6 own_d11_60 (x := (0 : Int32)) rfl rfl ?_
  refine own_goto w6 own_d11_61 (by decide) (pc' := 65) rfl ?_
  refine own_istoreN (pc' := 66) w6 own_d11_65 (Ls' := #[.val (.ref a1), .val (.int (0 : Int32)), .val (.int (0 : Int32)), .val (.long 0), .second]) rfl rfl ?_
  refine own_iloadN (pc' := 67) w6 own_d11_66 rfl rfl ?_
  exact own_retV w6 (t := .int) rfl rfl (Or.inl ⟨rfl, by simp, _, rfl⟩) own_d11_67 (by decide) (by decide) (ms' := []) all0 ⟨rfl, rfl, rfl⟩
theorem own_d12_19 : decode prog_42_method_3_code 19 = .ok (.new 24, 3) := by decide +kernel
theorem own_d12_22 : decode prog_42_method_3_code 22 = .ok (.dup, 1) := by decide +kernel
theorem own_d12_23 : decode prog_42_method_3_code 23 = .ok (.aload_n 0, 1) := by decide +kernel
theorem own_d12_24 : decode prog_42_method_3_code 24 = .ok (.getfield 20, 3) := by decide +kernel
theorem own_d12_27 : decode prog_42_method_3_code 27 = .ok (.iconst 2, 1) := by decide +kernel
theorem own_d12_28 : decode prog_42_method_3_code 28 = .ok (.iload_n 1, 1) := by decide +kernel
theorem own_d12_29 : decode prog_42_method_3_code 29 = .ok (.imul, 1) := by decide +kernel
theorem own_d12_30 : decode prog_42_method_3_code 30 = .ok (.laload, 1) := by decide +kernel
theorem own_d12_31 : decode prog_42_method_3_code 31 = .ok (.aload_n 0, 1) := by decide +kernel
theorem own_d12_32 : decode prog_42_method_3_code 32 = .ok (.getfield 20, 3) := by decide +kernel
theorem own_d12_35 : decode prog_42_method_3_code 35 = .ok (.iconst 2, 1) := by decide +kernel
theorem own_d12_36 : decode prog_42_method_3_code 36 = .ok (.iload_n 1, 1) := by decide +kernel
theorem own_d12_37 : decode prog_42_method_3_code 37 = .ok (.imul, 1) := by decide +kernel
theorem own_d12_38 : decode prog_42_method_3_code 38 = .ok (.iconst 1, 1) := by decide +kernel
theorem own_d12_39 : decode prog_42_method_3_code 39 = .ok (.iadd, 1) := by decide +kernel
theorem own_d12_40 : decode prog_42_method_3_code 40 = .ok (.laload, 1) := by decide +kernel
theorem own_d12_41 : decode prog_42_method_3_code 41 = .ok (.invokespecial 29, 3) := by decide +kernel
theorem own_ef_getW0 (m : MethodId) (a1 : Addr) : entryFrame m #[(.ref a1), (.int (0 : Int32))] 2 = mkF m 0 #[.val (.ref a1), .val (.int (0 : Int32))] [] := by first | (simp [entryFrame, mkF, argsToLocals, Value.category]; done) | rfl
def own_Q_getW0 (Z : State) (h0 : Heap) (a1 : Addr) (t : Addr) (kt : ClassId) (p0 : Int64) (p1 : Int64) (p2 : Int64) (p3 : Int64) (v : Option Value) (h : Heap) (ms : List Addr) : Prop := (Keep h0 h []) ∧ (∃ (r : Addr), (ms = []) ∧ (v = some (.ref r)) ∧ (Exa Z h r "com/example/throng/throng/engine/Count") ∧ (Fld Z h r "com/example/throng/throng/engine/Count" "low" "J" (.long p1)) ∧ (Fld Z h r "com/example/throng/throng/engine/Count" "high" "J" (.long p0)) ∧ (h0.size ≤ r))
set_option maxRecDepth 65536 in
set_option maxHeartbeats 40000000 in
theorem own_ct_getW0 (l : Launch) (Z : State) (a0 : Array Value) (hw : ∀ d ∈ tables_1, d.before a0 Z = true) (EL : List (String × Nat)) (hE : EW Z a0 EL) (n0 : Nat) (ws : List Jvm.Cond) (h0 : Heap) (O : Old Z n0 h0) (a1 : Addr) (t : Addr) (kt : ClassId) (p0 : Int64) (p1 : Int64) (p2 : Int64) (p3 : Int64) (F_a1_narrow : Fld Z h0 a1 "com/example/throng/throng/engine/Count$Array" "narrow" "Z" (.int (0 : Int32))) (F_a1_bits : Fld Z h0 a1 "com/example/throng/throng/engine/Count$Array" "bits" "[J" (.ref t)) (A_t : Arv Z h0 t kt .long (4 : Int32) [(.long p0), (.long p1), (.long p2), (.long p3)] (.long 0)) :
    own_Ct l Z EL n0 (⟨"com/example/throng/throng/engine/Count$Array", "get", "(I)Lcom/example/throng/throng/engine/Count;"⟩ : MethodName) prog_42_method_3_code 2 (some (.object "com/example/throng/throng/engine/Count")) ws ({ frames := 2, cells := 1, slots := 2, locals := 29 } : Room) #[(.ref a1), (.int (0 : Int32))] h0 [] (own_Q_getW0 Z h0 a1 t kt p0 p1 p2 p3) := by
  refine own_enter (a0 := a0) own_pf12 hE O fun p e s m below meth c T0 w0 => ?_
  rw [own_ef_getW0 m a1]
  have K : Keep h0 h0 [] := Keep.refl _ _
  refine own_aloadN (pc' := 1) w0 own_d12_0 rfl rfl rfl ?_
  refine own_getF (pc' := 4) w0 (host := "") (Or.inl (hw _ (List.mem_of_getElem? (i := 12) rfl))) Via.refl F_a1_narrow own_d12_1 rfl fun T1 w2 => ?_
  refine own_if (pc' := 7) w2 own_d12_4 rfl (by decide) (pcY := 19) rfl (fun (hb4 : (0 : Int32) = (0 : Int32)) => ?_) (fun (hb4 : ¬ (0 : Int32) = (0 : Int32)) => absurd hb4 (by decide))
  refine own_newO (pc' := 22) w2 (hw _ (List.mem_of_getElem? (i := 81) rfl)) (hw _ (List.mem_of_getElem? (i := 21) rfl)) (hw _ (List.mem_of_getElem? (i := 18) rfl)) own_d12_19 rfl (by decide) (by decide) fun T3 h5 a7 g_a7 w4 E6 ⟨E_a7, D8⟩ => ?_
  have ne_a1_a7 : a1 ≠ a7 := Nat.ne_of_lt (Nat.lt_of_lt_of_le F_a1_narrow.lt (Nat.le_of_eq g_a7))
  have ne_t_a7 : t ≠ a7 := Nat.ne_of_lt (Nat.lt_of_lt_of_le A_t.lt (Nat.le_of_eq g_a7))
  have nw_a7 : h0.size ≤ a7 := Nat.le_trans K.1 (Nat.le_of_eq g_a7)
  replace F_a1_narrow := F_a1_narrow.ext E6
  replace F_a1_bits := F_a1_bits.ext E6
  replace A_t := A_t.ext E6
  replace K := K.ext E6
  have F_a7_high : Fld Z h5 a7 "com/example/throng/throng/engine/Count" "high" "J" (.long 0) := D8 (Or.inr (hw _ (List.mem_of_getElem? (i := 27) rfl))) (ty := .long) (by decide)
  have F_a7_low : Fld Z h5 a7 "com/example/throng/throng/engine/Count" "low" "J" (.long 0) := D8 (Or.inr (hw _ (List.mem_of_getElem? (i := 29) rfl))) (ty := .long) (by decide)
  refine own_dup (pc' := 23) w4 own_d12_22 rfl rfl ?_
  refine own_aloadN (pc' := 24) w4 own_d12_23 rfl rfl rfl ?_
  refine own_getF (pc' := 27) w4 (host := "") (Or.inl (hw _ (List.mem_of_getElem? (i := 14) rfl))) Via.refl F_a1_bits own_d12_24 rfl fun T9 w10 => ?_
  refine own_iconst (pc' := 28) w10 own_d12_27 (x := (2 : Int32)) rfl rfl ?_
  refine own_iloadN (pc' := 29) w10 own_d12_28 rfl rfl ?_
  refine own_imul (pc' := 30) w10 own_d12_29 (z := (0 : Int32)) (by decide) rfl ?_
  refine own_ldJ (pc' := 31) w10 (v := (.long p0)) A_t (by decide) rfl own_d12_30 rfl ?_
  refine own_aloadN (pc' := 32) w10 own_d12_31 rfl rfl rfl ?_
  refine own_getF (pc' := 35) w10 (host := "") (Or.inl (hw _ (List.mem_of_getElem? (i := 14) rfl))) Via.refl F_a1_bits own_d12_32 rfl fun T11 w12 => ?_
  refine own_iconst (pc' := 36) w12 own_d12_35 (x := (2 : Int32)) rfl rfl ?_
  refine own_iloadN (pc' := 37) w12 own_d12_36 rfl rfl ?_
  refine own_imul (pc' := 38) w12 own_d12_37 (z := (0 : Int32)) (by decide) rfl ?_
  refine own_iconst (pc' := 39) w12 own_d12_38 (x := (1 : Int32)) rfl rfl ?_
  refine own_iadd (pc' := 40) w12 own_d12_39 (z := (1 : Int32)) (by decide) rfl ?_
  refine own_ldJ (pc' := 41) w12 (v := (.long p1)) A_t (by decide) rfl own_d12_40 rfl ?_
  refine own_callIN (pc' := 44) w12 rfl (hw _ (List.mem_of_getElem? (i := 82) rfl)) (hw _ (List.mem_of_getElem? (i := 23) rfl)) (hw _ (List.mem_of_getElem? (i := 18) rfl)) (hw _ (List.mem_of_getElem? (i := 24) rfl)) (by decide) (own_ct_cInit l Z a0 hw EL hE n0 [] h5 (own_old w12) a7 p0 p1 (.long 0) (.long 0) E_a7 F_a7_high F_a7_low) (allS (P := fun x => x ∈ _) (by simp) all0) (argsL := [(.long p0), (.long p1)]) (rest := [(.ref a7)]) rfl rfl own_pd0 rfl own_d12_41 rfl (by decide) (W := 1) rfl (by decide) (by decide) (by decide) fun T13 h15 v16 ms17 w14 q18 => ?_
  obtain ⟨K19, rfl, rfl, nw_E_a7, nw_F_a7_low, nw_F_a7_high⟩ := q18
  replace F_a1_narrow := F_a1_narrow.keep K19 (ninS ne_a1_a7 nin0)
  replace F_a1_bits := F_a1_bits.keep K19 (ninS ne_a1_a7 nin0)
  replace A_t := A_t.keep K19 (ninS ne_t_a7 nin0)
  replace K := K.trans K19 (allS (P := fun x => x ∈ ([] : List Addr) ∨ h0.size ≤ x) (Or.inr nw_a7) all0)
  have E_a7 := nw_E_a7; clear nw_E_a7
  have F_a7_low := nw_F_a7_low; clear nw_F_a7_low
  have F_a7_high := nw_F_a7_high; clear nw_F_a7_high
  show own_Go Z EL n0 p e below s _ _ _ (T13.setTop (mkF m 44 #[.val (.ref a1), .val (.int (0 : Int32))] [(.ref a7)]))
  exact own_retV w14 (t := (.object "com/example/throng/throng/engine/Count")) rfl (own_narR rfl rfl) (Or.inr (Or.inr (Or.inr (Or.inr ⟨rfl, rfl, rfl⟩)))) own_d12_44 (by decide) (by decide) (ms' := []) all0 ⟨K, a7, rfl, rfl, E_a7, F_a7_low, F_a7_high, nw_a7⟩
theorem own_ef_setCW1 (m : MethodId) (a1 : Addr) (a3 : Addr) : entryFrame m #[(.ref a1), (.int (1 : Int32)), (.ref a3)] 3 = mkF m 0 #[.val (.ref a1), .val (.int (1 : Int32)), .val (.ref a3)] [] := by first | (simp [entryFrame, mkF, argsToLocals, Value.category]; done) | rfl
def own_Q_setCW1 (Z : State) (h0 : Heap) (a1 : Addr) (a3 : Addr) (t : Addr) (kt : ClassId) (hi : Int64) (lo : Int64) (p0 : Int64) (p1 : Int64) (p2 : Int64) (p3 : Int64) (v : Option Value) (h : Heap) (ms : List Addr) : Prop := (Keep h0 h [t]) ∧ (ms = []) ∧ (v = none) ∧ (Arv Z h t kt .long (4 : Int32) [(.long p0), (.long p1), (.long hi), (.long lo)] (.long 0))
set_option maxRecDepth 65536 in
set_option maxHeartbeats 40000000 in
theorem own_ct_setCW1 (l : Launch) (Z : State) (a0 : Array Value) (hw : ∀ d ∈ tables_1, d.before a0 Z = true) (EL : List (String × Nat)) (hE : EW Z a0 EL) (n0 : Nat) (ws : List Jvm.Cond) (h0 : Heap) (O : Old Z n0 h0) (a1 : Addr) (a3 : Addr) (t : Addr) (kt : ClassId) (hi : Int64) (lo : Int64) (p0 : Int64) (p1 : Int64) (p2 : Int64) (p3 : Int64) (F_a1_narrow : Fld Z h0 a1 "com/example/throng/throng/engine/Count$Array" "narrow" "Z" (.int (0 : Int32))) (F_a1_bits : Fld Z h0 a1 "com/example/throng/throng/engine/Count$Array" "bits" "[J" (.ref t)) (A_t : Arv Z h0 t kt .long (4 : Int32) [(.long p0), (.long p1), (.long p2), (.long p3)] (.long 0)) (F_a3_low : Fld Z h0 a3 "com/example/throng/throng/engine/Count" "low" "J" (.long lo)) (F_a3_high : Fld Z h0 a3 "com/example/throng/throng/engine/Count" "high" "J" (.long hi)) (ne1 : a1 ≠ t) (ne3 : a3 ≠ t) :
    own_Ct l Z EL n0 (⟨"com/example/throng/throng/engine/Count$Array", "set", "(ILcom/example/throng/throng/engine/Count;)V"⟩ : MethodName) prog_42_method_4_code 3 none ws ({ frames := 0, cells := 0, slots := 0, locals := 0 } : Room) #[(.ref a1), (.int (1 : Int32)), (.ref a3)] h0 [t] (own_Q_setCW1 Z h0 a1 a3 t kt hi lo p0 p1 p2 p3) := by
  refine own_enter (a0 := a0) own_pf8 hE O fun p e s m below meth c T0 w0 => ?_
  rw [own_ef_setCW1 m a1 a3]
  have K : Keep h0 h0 [t] := Keep.refl _ _
  refine own_aloadN (pc' := 1) w0 own_d8_0 rfl rfl rfl ?_
  refine own_getF (pc' := 4) w0 (host := "") (Or.inl (hw _ (List.mem_of_getElem? (i := 12) rfl))) Via.refl F_a1_narrow own_d8_1 rfl fun T1 w2 => ?_
  refine own_if (pc' := 7) w2 own_d8_4 rfl (by decide) (pcY := 20) rfl (fun (hb4 : (0 : Int32) = (0 : Int32)) => ?_) (fun (hb4 : ¬ (0 : Int32) = (0 : Int32)) => absurd hb4 (by decide))
  refine own_aloadN (pc' := 21) w2 own_d8_20 rfl rfl rfl ?_
  refine own_getF (pc' := 24) w2 (host := "") (Or.inl (hw _ (List.mem_of_getElem? (i := 14) rfl))) Via.refl F_a1_bits own_d8_21 rfl fun T3 w4 => ?_
  refine own_iconst (pc' := 25) w4 own_d8_24 (x := (2 : Int32)) rfl rfl ?_
  refine own_iloadN (pc' := 26) w4 own_d8_25 rfl rfl ?_
  refine own_imul (pc' := 27) w4 own_d8_26 (z := (2 : Int32)) (by decide) rfl ?_
  refine own_aloadN (pc' := 28) w4 own_d8_27 rfl rfl rfl ?_
  refine own_getF (pc' := 31) w4 (Or.inr (hw _ (List.mem_of_getElem? (i := 80) rfl))) Via.refl F_a3_high own_d8_28 rfl fun T5 w6 => ?_
  refine own_stJ (pc' := 32) w6 (i := 2) (xv := (.long hi)) (vs' := [(.long p0), (.long p1), (.long hi), (.long p3)]) (by simp) A_t (by decide) rfl (Nat.lt_of_sub_eq_succ rfl) rfl rfl rfl own_d8_31 rfl fun T7 h9 w8 W10 A_new => ?_
  clear A_t
  replace F_a1_narrow := F_a1_narrow.other W10 (Or.inl ne1)
  replace F_a1_bits := F_a1_bits.other W10 (Or.inl ne1)
  replace F_a3_low := F_a3_low.other W10 (Or.inl ne3)
  replace F_a3_high := F_a3_high.other W10 (Or.inl ne3)
  replace K := K.wr W10 (Or.inl (by simp))
  have A_t := A_new
  clear A_new
  refine own_aloadN (pc' := 33) w8 own_d8_32 rfl rfl rfl ?_
  refine own_getF (pc' := 36) w8 (host := "") (Or.inl (hw _ (List.mem_of_getElem? (i := 14) rfl))) Via.refl F_a1_bits own_d8_33 rfl fun T11 w12 => ?_
  refine own_iconst (pc' := 37) w12 own_d8_36 (x := (2 : Int32)) rfl rfl ?_
  refine own_iloadN (pc' := 38) w12 own_d8_37 rfl rfl ?_
  refine own_imul (pc' := 39) w12 own_d8_38 (z := (2 : Int32)) (by decide) rfl ?_
  refine own_iconst (pc' := 40) w12 own_d8_39 (x := (1 : Int32)) rfl rfl ?_
  refine own_iadd (pc' := 41) w12 own_d8_40 (z := (3 : Int32)) (by decide) rfl ?_
  refine own_aloadN (pc' := 42) w12 own_d8_41 rfl rfl rfl ?_
  refine own_getF (pc' := 45) w12 (Or.inr (hw _ (List.mem_of_getElem? (i := 48) rfl))) Via.refl F_a3_low own_d8_42 rfl fun T13 w14 => ?_
  refine own_stJ (pc' := 46) w14 (i := 3) (xv := (.long lo)) (vs' := [(.long p0), (.long p1), (.long hi), (.long lo)]) (by simp) A_t (by decide) rfl (Nat.lt_of_sub_eq_succ rfl) rfl rfl rfl own_d8_45 rfl fun T15 h17 w16 W18 A_new => ?_
  clear A_t
  replace F_a1_narrow := F_a1_narrow.other W18 (Or.inl ne1)
  replace F_a1_bits := F_a1_bits.other W18 (Or.inl ne1)
  replace F_a3_low := F_a3_low.other W18 (Or.inl ne3)
  replace F_a3_high := F_a3_high.other W18 (Or.inl ne3)
  replace K := K.wr W18 (Or.inl (by simp))
  have A_t := A_new
  clear A_new
  exact own_ret0 w16 rfl own_d8_46 (by decide) (by decide) (ms' := []) all0 ⟨K, rfl, rfl, A_t⟩
theorem own_ef_setJW1 (m : MethodId) (a1 : Addr) (vv : Int64) : entryFrame m #[(.ref a1), (.int (1 : Int32)), (.long vv)] 4 = mkF m 0 #[.val (.ref a1), .val (.int (1 : Int32)), .val (.long vv), .second] [] := by first | (simp [entryFrame, mkF, argsToLocals, Value.category]; done) | rfl
def own_Q_setJW1 (Z : State) (h0 : Heap) (a1 : Addr) (vv : Int64) (t : Addr) (kt : ClassId) (p0 : Int64) (p1 : Int64) (p2 : Int64) (p3 : Int64) (v : Option Value) (h : Heap) (ms : List Addr) : Prop := (Keep h0 h [t]) ∧ (ms = []) ∧ (v = none) ∧ (Arv Z h t kt .long (4 : Int32) [(.long p0), (.long p1), (.long (own_sgn vv)), (.long vv)] (.long 0))
set_option maxRecDepth 65536 in
set_option maxHeartbeats 40000000 in
theorem own_ct_setJW1 (l : Launch) (Z : State) (a0 : Array Value) (hw : ∀ d ∈ tables_1, d.before a0 Z = true) (EL : List (String × Nat)) (hE : EW Z a0 EL) (n0 : Nat) (ws : List Jvm.Cond) (h0 : Heap) (O : Old Z n0 h0) (a1 : Addr) (vv : Int64) (t : Addr) (kt : ClassId) (p0 : Int64) (p1 : Int64) (p2 : Int64) (p3 : Int64) (F_a1_narrow : Fld Z h0 a1 "com/example/throng/throng/engine/Count$Array" "narrow" "Z" (.int (0 : Int32))) (F_a1_bits : Fld Z h0 a1 "com/example/throng/throng/engine/Count$Array" "bits" "[J" (.ref t)) (A_t : Arv Z h0 t kt .long (4 : Int32) [(.long p0), (.long p1), (.long p2), (.long p3)] (.long 0)) (ne1 : a1 ≠ t) :
    own_Ct l Z EL n0 (⟨"com/example/throng/throng/engine/Count$Array", "set", "(IJ)V"⟩ : MethodName) prog_42_method_6_code 4 none ws ({ frames := 0, cells := 0, slots := 0, locals := 0 } : Room) #[(.ref a1), (.int (1 : Int32)), (.long vv)] h0 [t] (own_Q_setJW1 Z h0 a1 vv t kt p0 p1 p2 p3) := by
  refine own_enter (a0 := a0) own_pf9 hE O fun p e s m below meth c T0 w0 => ?_
  rw [own_ef_setJW1 m a1 vv]
  have K : Keep h0 h0 [t] := Keep.refl _ _
  refine own_aloadN (pc' := 1) w0 own_d9_0 rfl rfl rfl ?_
  refine own_getF (pc' := 4) w0 (host := "") (Or.inl (hw _ (List.mem_of_getElem? (i := 12) rfl))) Via.refl F_a1_narrow own_d9_1 rfl fun T1 w2 => ?_
  refine own_if (pc' := 7) w2 own_d9_4 rfl (by decide) (pcY := 17) rfl (fun (hb4 : (0 : Int32) = (0 : Int32)) => ?_) (fun (hb4 : ¬ (0 : Int32) = (0 : Int32)) => absurd hb4 (by decide))
  refine own_aloadN (pc' := 18) w2 own_d9_17 rfl rfl rfl ?_
  refine own_getF (pc' := 21) w2 (host := "") (Or.inl (hw _ (List.mem_of_getElem? (i := 14) rfl))) Via.refl F_a1_bits own_d9_18 rfl fun T3 w4 => ?_
  refine own_iconst (pc' := 22) w4 own_d9_21 (x := (2 : Int32)) rfl rfl ?_
  refine own_iloadN (pc' := 23) w4 own_d9_22 rfl rfl ?_
  refine own_imul (pc' := 24) w4 own_d9_23 (z := (2 : Int32)) (by decide) rfl ?_
  refine own_lloadN (pc' := 25) w4 own_d9_24 rfl rfl ?_
  refine own_bipush (pc' := 27) w4 own_d9_25 (x := (63 : Int32)) rfl rfl ?_
  refine own_lshr (pc' := 28) w4 own_d9_27 (z := (own_sgn vv)) rfl rfl ?_
  refine own_stJ (pc' := 29) w4 (i := 2) (xv := (.long (own_sgn vv))) (vs' := [(.long p0), (.long p1), (.long (own_sgn vv)), (.long p3)]) (by simp) A_t (by decide) rfl (Nat.lt_of_sub_eq_succ rfl) rfl rfl rfl own_d9_28 rfl fun T5 h7 w6 W8 A_new => ?_
  clear A_t
  replace F_a1_narrow := F_a1_narrow.other W8 (Or.inl ne1)
  replace F_a1_bits := F_a1_bits.other W8 (Or.inl ne1)
  replace K := K.wr W8 (Or.inl (by simp))
  have A_t := A_new
  clear A_new
  refine own_aloadN (pc' := 30) w6 own_d9_29 rfl rfl rfl ?_
  refine own_getF (pc' := 33) w6 (host := "") (Or.inl (hw _ (List.mem_of_getElem? (i := 14) rfl))) Via.refl F_a1_bits own_d9_30 rfl fun T9 w10 => ?_
  refine own_iconst (pc' := 34) w10 own_d9_33 (x := (2 : Int32)) rfl rfl ?_
  refine own_iloadN (pc' := 35) w10 own_d9_34 rfl rfl ?_
  refine own_imul (pc' := 36) w10 own_d9_35 (z := (2 : Int32)) (by decide) rfl ?_
  refine own_iconst (pc' := 37) w10 own_d9_36 (x := (1 : Int32)) rfl rfl ?_
  refine own_iadd (pc' := 38) w10 own_d9_37 (z := (3 : Int32)) (by decide) rfl ?_
  refine own_lloadN (pc' := 39) w10 own_d9_38 rfl rfl ?_
  refine own_stJ (pc' := 40) w10 (i := 3) (xv := (.long vv)) (vs' := [(.long p0), (.long p1), (.long (own_sgn vv)), (.long vv)]) (by simp) A_t (by decide) rfl (Nat.lt_of_sub_eq_succ rfl) rfl rfl rfl own_d9_39 rfl fun T11 h13 w12 W14 A_new => ?_
  clear A_t
  replace F_a1_narrow := F_a1_narrow.other W14 (Or.inl ne1)
  replace F_a1_bits := F_a1_bits.other W14 (Or.inl ne1)
  replace K := K.wr W14 (Or.inl (by simp))
  have A_t := A_new
  clear A_new
  exact own_ret0 w12 rfl own_d9_40 (by decide) (by decide) (ms' := []) all0 ⟨K, rfl, rfl, A_t⟩
theorem own_ef_setAW10 (m : MethodId) (a1 : Addr) (a3 : Addr) : entryFrame m #[(.ref a1), (.int (1 : Int32)), (.ref a3), (.int (0 : Int32))] 4 = mkF m 0 #[.val (.ref a1), .val (.int (1 : Int32)), .val (.ref a3), .val (.int (0 : Int32))] [] := by first | (simp [entryFrame, mkF, argsToLocals, Value.category]; done) | rfl
def own_Q_setAW10 (Z : State) (h0 : Heap) (a1 : Addr) (a3 : Addr) (t : Addr) (kt : ClassId) (t3 : Addr) (kt3 : ClassId) (p0 : Int64) (p1 : Int64) (p2 : Int64) (p3 : Int64) (q0 : Int64) (q1 : Int64) (q2 : Int64) (q3 : Int64) (v : Option Value) (h : Heap) (ms : List Addr) : Prop := (Keep h0 h [t]) ∧ (ms = []) ∧ (v = none) ∧ (Arv Z h t kt .long (4 : Int32) [(.long p0), (.long p1), (.long q0), (.long q1)] (.long 0))
set_option maxRecDepth 65536 in
set_option maxHeartbeats 40000000 in
theorem own_ct_setAW10 (l : Launch) (Z : State) (a0 : Array Value) (hw : ∀ d ∈ tables_1, d.before a0 Z = true) (EL : List (String × Nat)) (hE : EW Z a0 EL) (n0 : Nat) (ws : List Jvm.Cond) (h0 : Heap) (O : Old Z n0 h0) (a1 : Addr) (a3 : Addr) (t : Addr) (kt : ClassId) (t3 : Addr) (kt3 : ClassId) (p0 : Int64) (p1 : Int64) (p2 : Int64) (p3 : Int64) (q0 : Int64) (q1 : Int64) (q2 : Int64) (q3 : Int64) (F_a1_narrow : Fld Z h0 a1 "com/example/throng/throng/engine/Count$Array" "narrow" "Z" (.int (0 : Int32))) (F_a1_bits : Fld Z h0 a1 "com/example/throng/throng/engine/Count$Array" "bits" "[J" (.ref t)) (A_t : Arv Z h0 t kt .long (4 : Int32) [(.long p0), (.long p1), (.long p2), (.long p3)] (.long 0)) (F_a3_bits : Fld Z h0 a3 "com/example/throng/throng/engine/Count$Array" "bits" "[J" (.ref t3)) (A_t3 : Arv Z h0 t3 kt3 .long (4 : Int32) [(.long q0), (.long q1), (.long q2), (.long q3)] (.long 0)) (ne1 : a1 ≠ t) (ne3 : a3 ≠ t) (ne33 : t3 ≠ t) :
    own_Ct l Z EL n0 (⟨"com/example/throng/throng/engine/Count$Array", "set", "(ILcom/example/throng/throng/engine/Count$Array;I)V"⟩ : MethodName) prog_42_method_5_code 4 none ws ({ frames := 0, cells := 0, slots := 0, locals := 0 } : Room) #[(.ref a1), (.int (1 : Int32)), (.ref a3), (.int (0 : Int32))] h0 [t] (own_Q_setAW10 Z h0 a1 a3 t kt t3 kt3 p0 p1 p2 p3 q0 q1 q2 q3) := by
  refine own_enter (a0 := a0) own_pf10 hE O fun p e s m below meth c T0 w0 => ?_
  rw [own_ef_setAW10 m a1 a3]
  have K : Keep h0 h0 [t] := Keep.refl _ _
  refine own_aloadN (pc' := 1) w0 own_d10_0 rfl rfl rfl ?_
  refine own_getF (pc' := 4) w0 (host := "") (Or.inl (hw _ (List.mem_of_getElem? (i := 12) rfl))) Via.refl F_a1_narrow own_d10_1 rfl fun T1 w2 => ?_
  refine own_if (pc' := 7) w2 own_d10_4 rfl (by decide) (pcY := 22) rfl (fun (hb4 : (0 : Int32) = (0 : Int32)) => ?_) (fun (hb4 : ¬ (0 : Int32) = (0 : Int32)) => absurd hb4 (by decide))
  refine own_aloadN (pc' := 23) w2 own_d10_22 rfl rfl rfl ?_
  refine own_getF (pc' := 26) w2 (host := "") (Or.inl (hw _ (List.mem_of_getElem? (i := 14) rfl))) Via.refl F_a1_bits own_d10_23 rfl fun T3 w4 => ?_
  refine own_iconst (pc' := 27) w4 own_d10_26 (x := (2 : Int32)) rfl rfl ?_
  refine own_iloadN (pc' := 28) w4 own_d10_27 rfl rfl ?_
  refine own_imul (pc' := 29) w4 own_d10_28 (z := (2 : Int32)) (by decide) rfl ?_
  refine own_aloadN (pc' := 30) w4 own_d10_29 rfl rfl rfl ?_
  refine own_getF (pc' := 33) w4 (host := "") (Or.inl (hw _ (List.mem_of_getElem? (i := 14) rfl))) Via.refl F_a3_bits own_d10_30 rfl fun T5 w6 => ?_
  refine own_iconst (pc' := 34) w6 own_d10_33 (x := (2 : Int32)) rfl rfl ?_
  refine own_iloadN (pc' := 35) w6 own_d10_34 rfl rfl ?_
  refine own_imul (pc' := 36) w6 own_d10_35 (z := (0 : Int32)) (by decide) rfl ?_
  refine own_ldJ (pc' := 37) w6 (v := (.long q0)) A_t3 (by decide) rfl own_d10_36 rfl ?_
  refine own_stJ (pc' := 38) w6 (i := 2) (xv := (.long q0)) (vs' := [(.long p0), (.long p1), (.long q0), (.long p3)]) (by simp) A_t (by decide) rfl (Nat.lt_of_sub_eq_succ rfl) rfl rfl rfl own_d10_37 rfl fun T7 h9 w8 W10 A_new => ?_
  clear A_t
  replace F_a1_narrow := F_a1_narrow.other W10 (Or.inl ne1)
  replace F_a1_bits := F_a1_bits.other W10 (Or.inl ne1)
  replace F_a3_bits := F_a3_bits.other W10 (Or.inl ne3)
  replace A_t3 := A_t3.other W10 ne33
  replace K := K.wr W10 (Or.inl (by simp))
  have A_t := A_new
  clear A_new
  refine own_aloadN (pc' := 39) w8 own_d10_38 rfl rfl rfl ?_
  refine own_getF (pc' := 42) w8 (host := "") (Or.inl (hw _ (List.mem_of_getElem? (i := 14) rfl))) Via.refl F_a1_bits own_d10_39 rfl fun T11 w12 => ?_
  refine own_iconst (pc' := 43) w12 own_d10_42 (x := (2 : Int32)) rfl rfl ?_
  refine own_iloadN (pc' := 44) w12 own_d10_43 rfl rfl ?_
  refine own_imul (pc' := 45) w12 own_d10_44 (z := (2 : Int32)) (by decide) rfl ?_
  refine own_iconst (pc' := 46) w12 own_d10_45 (x := (1 : Int32)) rfl rfl ?_
  refine own_iadd (pc' := 47) w12 own_d10_46 (z := (3 : Int32)) (by decide) rfl ?_
  refine own_aloadN (pc' := 48) w12 own_d10_47 rfl rfl rfl ?_
  refine own_getF (pc' := 51) w12 (host := "") (Or.inl (hw _ (List.mem_of_getElem? (i := 14) rfl))) Via.refl F_a3_bits own_d10_48 rfl fun T13 w14 => ?_
  refine own_iconst (pc' := 52) w14 own_d10_51 (x := (2 : Int32)) rfl rfl ?_
  refine own_iloadN (pc' := 53) w14 own_d10_52 rfl rfl ?_
  refine own_imul (pc' := 54) w14 own_d10_53 (z := (0 : Int32)) (by decide) rfl ?_
  refine own_iconst (pc' := 55) w14 own_d10_54 (x := (1 : Int32)) rfl rfl ?_
  refine own_iadd (pc' := 56) w14 own_d10_55 (z := (1 : Int32)) (by decide) rfl ?_
  refine own_ldJ (pc' := 57) w14 (v := (.long q1)) A_t3 (by decide) rfl own_d10_56 rfl ?_
  refine own_stJ (pc' := 58) w14 (i := 3) (xv := (.long q1)) (vs' := [(.long p0), (.long p1), (.long q0), (.long q1)]) (by simp) A_t (by decide) rfl (Nat.lt_of_sub_eq_succ rfl) rfl rfl rfl own_d10_57 rfl fun T15 h17 w16 W18 A_new => ?_
  clear A_t
  replace F_a1_narrow := F_a1_narrow.other W18 (Or.inl ne1)
  replace F_a1_bits := F_a1_bits.other W18 (Or.inl ne1)
  replace F_a3_bits := F_a3_bits.other W18 (Or.inl ne3)
  replace A_t3 := A_t3.other W18 ne33
  replace K := K.wr W18 (Or.inl (by simp))
  have A_t := A_new
  clear A_new
  exact own_ret0 w16 rfl own_d10_58 (by decide) (by decide) (ms' := []) all0 ⟨K, rfl, rfl, A_t⟩
theorem own_ef_setAW11 (m : MethodId) (a1 : Addr) (a3 : Addr) : entryFrame m #[(.ref a1), (.int (1 : Int32)), (.ref a3), (.int (1 : Int32))] 4 = mkF m 0 #[.val (.ref a1), .val (.int (1 : Int32)), .val (.ref a3), .val (.int (1 : Int32))] [] := by first | (simp [entryFrame, mkF, argsToLocals, Value.category]; done) | rfl
def own_Q_setAW11 (Z : State) (h0 : Heap) (a1 : Addr) (a3 : Addr) (t : Addr) (kt : ClassId) (t3 : Addr) (kt3 : ClassId) (p0 : Int64) (p1 : Int64) (p2 : Int64) (p3 : Int64) (q0 : Int64) (q1 : Int64) (q2 : Int64) (q3 : Int64) (v : Option Value) (h : Heap) (ms : List Addr) : Prop := (Keep h0 h [t]) ∧ (ms = []) ∧ (v = none) ∧ (Arv Z h t kt .long (4 : Int32) [(.long p0), (.long p1), (.long q2), (.long q3)] (.long 0))
set_option maxRecDepth 65536 in
set_option maxHeartbeats 40000000 in
theorem own_ct_setAW11 (l : Launch) (Z : State) (a0 : Array Value) (hw : ∀ d ∈ tables_1, d.before a0 Z = true) (EL : List (String × Nat)) (hE : EW Z a0 EL) (n0 : Nat) (ws : List Jvm.Cond) (h0 : Heap) (O : Old Z n0 h0) (a1 : Addr) (a3 : Addr) (t : Addr) (kt : ClassId) (t3 : Addr) (kt3 : ClassId) (p0 : Int64) (p1 : Int64) (p2 : Int64) (p3 : Int64) (q0 : Int64) (q1 : Int64) (q2 : Int64) (q3 : Int64) (F_a1_narrow : Fld Z h0 a1 "com/example/throng/throng/engine/Count$Array" "narrow" "Z" (.int (0 : Int32))) (F_a1_bits : Fld Z h0 a1 "com/example/throng/throng/engine/Count$Array" "bits" "[J" (.ref t)) (A_t : Arv Z h0 t kt .long (4 : Int32) [(.long p0), (.long p1), (.long p2), (.long p3)] (.long 0)) (F_a3_bits : Fld Z h0 a3 "com/example/throng/throng/engine/Count$Array" "bits" "[J" (.ref t3)) (A_t3 : Arv Z h0 t3 kt3 .long (4 : Int32) [(.long q0), (.long q1), (.long q2), (.long q3)] (.long 0)) (ne1 : a1 ≠ t) (ne3 : a3 ≠ t) (ne33 : t3 ≠ t) :
    own_Ct l Z EL n0 (⟨"com/example/throng/throng/engine/Count$Array", "set", "(ILcom/example/throng/throng/engine/Count$Array;I)V"⟩ : MethodName) prog_42_method_5_code 4 none ws ({ frames := 0, cells := 0, slots := 0, locals := 0 } : Room) #[(.ref a1), (.int (1 : Int32)), (.ref a3), (.int (1 : Int32))] h0 [t] (own_Q_setAW11 Z h0 a1 a3 t kt t3 kt3 p0 p1 p2 p3 q0 q1 q2 q3) := by
  refine own_enter (a0 := a0) own_pf10 hE O fun p e s m below meth c T0 w0 => ?_
  rw [own_ef_setAW11 m a1 a3]
  have K : Keep h0 h0 [t] := Keep.refl _ _
  refine own_aloadN (pc' := 1) w0 own_d10_0 rfl rfl rfl ?_
  refine own_getF (pc' := 4) w0 (host := "") (Or.inl (hw _ (List.mem_of_getElem? (i := 12) rfl))) Via.refl F_a1_narrow own_d10_1 rfl fun T1 w2 => ?_
  refine own_if (pc' := 7) w2 own_d10_4 rfl (by decide) (pcY := 22) rfl (fun (hb4 : (0 : Int32) = (0 : Int32)) => ?_) (fun (hb4 : ¬ (0 : Int32) = (0 : Int32)) => absurd hb4 (by decide))
  refine own_aloadN (pc' := 23) w2 own_d10_22 rfl rfl rfl ?_
  refine own_getF (pc' := 26) w2 (host := "") (Or.inl (hw _ (List.mem_of_getElem? (i := 14) rfl))) Via.refl F_a1_bits own_d10_23 rfl fun T3 w4 => ?_
  refine own_iconst (pc' := 27) w4 own_d10_26 (x := (2 : Int32)) rfl rfl ?_
  refine own_iloadN (pc' := 28) w4 own_d10_27 rfl rfl ?_
  refine own_imul (pc' := 29) w4 own_d10_28 (z := (2 : Int32)) (by decide) rfl ?_
  refine own_aloadN (pc' := 30) w4 own_d10_29 rfl rfl rfl ?_
  refine own_getF (pc' := 33) w4 (host := "") (Or.inl (hw _ (List.mem_of_getElem? (i := 14) rfl))) Via.refl F_a3_bits own_d10_30 rfl fun T5 w6 => ?_
  refine own_iconst (pc' := 34) w6 own_d10_33 (x := (2 : Int32)) rfl rfl ?_
  refine own_iloadN (pc' := 35) w6 own_d10_34 rfl rfl ?_
  refine own_imul (pc' := 36) w6 own_d10_35 (z := (2 : Int32)) (by decide) rfl ?_
  refine own_ldJ (pc' := 37) w6 (v := (.long q2)) A_t3 (by decide) rfl own_d10_36 rfl ?_
  refine own_stJ (pc' := 38) w6 (i := 2) (xv := (.long q2)) (vs' := [(.long p0), (.long p1), (.long q2), (.long p3)]) (by simp) A_t (by decide) rfl (Nat.lt_of_sub_eq_succ rfl) rfl rfl rfl own_d10_37 rfl fun T7 h9 w8 W10 A_new => ?_
  clear A_t
  replace F_a1_narrow := F_a1_narrow.other W10 (Or.inl ne1)
  replace F_a1_bits := F_a1_bits.other W10 (Or.inl ne1)
  replace F_a3_bits := F_a3_bits.other W10 (Or.inl ne3)
  replace A_t3 := A_t3.other W10 ne33
  replace K := K.wr W10 (Or.inl (by simp))
  have A_t := A_new
  clear A_new
  refine own_aloadN (pc' := 39) w8 own_d10_38 rfl rfl rfl ?_
  refine own_getF (pc' := 42) w8 (host := "") (Or.inl (hw _ (List.mem_of_getElem? (i := 14) rfl))) Via.refl F_a1_bits own_d10_39 rfl fun T11 w12 => ?_
  refine own_iconst (pc' := 43) w12 own_d10_42 (x := (2 : Int32)) rfl rfl ?_
  refine own_iloadN (pc' := 44) w12 own_d10_43 rfl rfl ?_
  refine own_imul (pc' := 45) w12 own_d10_44 (z := (2 : Int32)) (by decide) rfl ?_
  refine own_iconst (pc' := 46) w12 own_d10_45 (x := (1 : Int32)) rfl rfl ?_
  refine own_iadd (pc' := 47) w12 own_d10_46 (z := (3 : Int32)) (by decide) rfl ?_
  refine own_aloadN (pc' := 48) w12 own_d10_47 rfl rfl rfl ?_
  refine own_getF (pc' := 51) w12 (host := "") (Or.inl (hw _ (List.mem_of_getElem? (i := 14) rfl))) Via.refl F_a3_bits own_d10_48 rfl fun T13 w14 => ?_
  refine own_iconst (pc' := 52) w14 own_d10_51 (x := (2 : Int32)) rfl rfl ?_
  refine own_iloadN (pc' := 53) w14 own_d10_52 rfl rfl ?_
  refine own_imul (pc' := 54) w14 own_d10_53 (z := (2 : Int32)) (by decide) rfl ?_
  refine own_iconst (pc' := 55) w14 own_d10_54 (x := (1 : Int32)) rfl rfl ?_
  refine own_iadd (pc' := 56) w14 own_d10_55 (z := (3 : Int32)) (by decide) rfl ?_
  refine own_ldJ (pc' := 57) w14 (v := (.long q3)) A_t3 (by decide) rfl own_d10_56 rfl ?_
  refine own_stJ (pc' := 58) w14 (i := 3) (xv := (.long q3)) (vs' := [(.long p0), (.long p1), (.long q2), (.long q3)]) (by simp) A_t (by decide) rfl (Nat.lt_of_sub_eq_succ rfl) rfl rfl rfl own_d10_57 rfl fun T15 h17 w16 W18 A_new => ?_
  clear A_t
  replace F_a1_narrow := F_a1_narrow.other W18 (Or.inl ne1)
  replace F_a1_bits := F_a1_bits.other W18 (Or.inl ne1)
  replace F_a3_bits := F_a3_bits.other W18 (Or.inl ne3)
  replace A_t3 := A_t3.other W18 ne33
  replace K := K.wr W18 (Or.inl (by simp))
  have A_t := A_new
  clear A_new
  exact own_ret0 w16 rfl own_d10_58 (by decide) (by decide) (ms' := []) all0 ⟨K, rfl, rfl, A_t⟩
theorem own_ef_sigW1 (m : MethodId) (a1 : Addr) : entryFrame m #[(.ref a1), (.int (1 : Int32))] 5 = mkF m 0 #[.val (.ref a1), .val (.int (1 : Int32)), .unset, .unset, .unset] [] := by first | (simp [entryFrame, mkF, argsToLocals, Value.category]; done) | rfl
def own_Q_sigW1 (Z : State) (h0 : Heap) (a1 : Addr) (t : Addr) (kt : ClassId) (p0 : Int64) (p1 : Int64) (v : Option Value) (h : Heap) (ms : List Addr) : Prop := (h0 = h) ∧ (ms = []) ∧ (v = some (.int 0))
set_option maxRecDepth 65536 in
set_option maxHeartbeats 40000000 in
theorem own_ct_sigW1 (l : Launch) (Z : State) (a0 : Array Value) (hw : ∀ d ∈ tables_1, d.before a0 Z = true) (EL : List (String × Nat)) (hE : EW Z a0 EL) (n0 : Nat) (ws : List Jvm.Cond) (h0 : Heap) (O : Old Z n0 h0) (a1 : Addr) (t : Addr) (kt : ClassId) (p0 : Int64) (p1 : Int64) (F_a1_narrow : Fld Z h0 a1 "com/example/throng/throng/engine/Count$Array" "narrow" "Z" (.int (0 : Int32))) (F_a1_bits : Fld Z h0 a1 "com/example/throng/throng/engine/Count$Array" "bits" "[J" (.ref t)) (A_t : Arv Z h0 t kt .long (4 : Int32) [(.long p0), (.long p1), (.long 0), (.long 0)] (.long 0)) :
    own_Ct l Z EL n0 (⟨"com/example/throng/throng/engine/Count$Array", "signum", "(I)I"⟩ : MethodName) prog_42_method_7_code 5 (some .int) ws ({ frames := 0, cells := 0, slots := 0, locals := 0 } : Room) #[(.ref a1), (.int (1 : Int32))] h0 [] (own_Q_sigW1 Z h0 a1 t kt p0 p1) := by
  refine own_enter (a0 := a0) own_pf11 hE O fun p e s m below meth c T0 w0 => ?_
  rw [own_ef_sigW1 m a1]
  refine own_aloadN (pc' := 1) w0 own_d11_0 rfl rfl rfl ?_
  refine own_getF (pc' := 4) w0 (host := "") (Or.inl (hw _ (List.mem_of_getElem? (i := 12) rfl))) Via.refl F_a1_narrow own_d11_1 rfl fun T1 w2 => ?_
  refine own_if (pc' := 7) w2 own_d11_4 rfl (by decide) (pcY := 20) rfl (fun (hb4 : (0 : Int32) = (0 : Int32)) => ?_) (fun (hb4 : ¬ (0 : Int32) = (0 : Int32)) => absurd hb4 (by decide))
  refine own_aloadN (pc' := 21) w2 own_d11_20 rfl rfl rfl ?_
  refine own_getF (pc' := 24) w2 (host := "") (Or.inl (hw _ (List.mem_of_getElem? (i := 14) rfl))) Via.refl F_a1_bits own_d11_21 rfl fun T3 w4 => ?_
  refine own_iconst (pc' := 25) w4 own_d11_24 (x := (2 : Int32)) rfl rfl ?_
  refine own_iloadN (pc' := 26) w4 own_d11_25 rfl rfl ?_
  refine own_imul (pc' := 27) w4 own_d11_26 (z := (2 : Int32)) (by decide) rfl ?_
  refine own_ldJ (pc' := 28) w4 (v := (.long 0)) A_t (by decide) rfl own_d11_27 rfl ?_
  refine own_lstoreN (pc' := 29) w4 own_d11_28 (Ls' := #[.val (.ref a1), .val (.int (1 : Int32)), .unset, .val (.long 0), .second]) rfl rfl ?_
  refine own_lloadN (pc' := 30) w4 own_d11_29 rfl rfl ?_
  refine own_lconst (pc' := 31) w4 own_d11_30 (x := (0 : Int64)) rfl rfl ?_
  refine own_lcmp (pc' := 32) w4 own_d11_31 (z := (XT.cmpL 0 (0 : Int64))) rfl rfl ?_
  refine own_if (pc' := 35) w4 own_d11_32 rfl (by decide) (pcY := 39) rfl (fun (hb32 : ¬ (XT.cmpL 0 (0 : Int64)) < (0 : Int32)) => ?_) (fun (hb32 : (XT.cmpL 0 (0 : Int64)) < (0 : Int32)) => absurd hb32 (by decide))
  refine own_lloadN (pc' := 40) w4 own_d11_39 rfl rfl ?_
  refine own_lconst (pc' := 41) w4 own_d11_40 (x := (0 : Int64)) rfl rfl ?_
  refine own_lcmp (pc' := 42) w4 own_d11_41 (z := (XT.cmpL 0 (0 : Int64))) rfl rfl ?_
  refine own_if (pc' := 45) w4 own_d11_42 rfl (by decide) (pcY := 64) rfl (fun (hb42 : ¬ (XT.cmpL 0 (0 : Int64)) = (0 : Int32)) => absurd (by decide) hb42) (fun (hb42 : (XT.cmpL 0 (0 : Int64)) = (0 : Int32)) => ?_)
  refine own_aloadN (pc' := 46) w4 own_d11_45 rfl rfl rfl ?_
  refine own_getF (pc' := 49) w4 (host := "") (Or.inl (hw _ (List.mem_of_getElem? (i := 14) rfl))) Via.refl F_a1_bits own_d11_46 rfl fun T5 w6 => ?_
  refine own_iconst (pc' := 50) w6 own_d11_49 (x := (2 : Int32)) rfl rfl ?_
  refine own_iloadN (pc' := 51) w6 own_d11_50 rfl rfl ?_
  refine own_imul (pc' := 52) w6 own_d11_51 (z := (2 : Int32)) (by decide) rfl ?_
  refine own_iconst (pc' := 53) w6 own_d11_52 (x := (1 : Int32)) rfl rfl ?_
  refine own_iadd (pc' := 54) w6 own_d11_53 (z := (3 : Int32)) (by decide) rfl ?_
  refine own_ldJ (pc' := 55) w6 (v := (.long 0)) A_t (by decide) rfl own_d11_54 rfl ?_
  refine own_lconst (pc' := 56) w6 own_d11_55 (x := (0 : Int64)) rfl rfl ?_
  refine own_lcmp (pc' := 57) w6 own_d11_56 (z := (XT.cmpL 0 (0 : Int64))) rfl rfl ?_
  refine own_if (pc' := 60) w6 own_d11_57 rfl (by decide) (pcY := 64) rfl (fun (hb57 : ¬ (XT.cmpL 0 (0 : Int64)) = (0 : Int32)) => absurd (by decide) hb57) (fun (hb57 : (XT.cmpL 0 (0 : Int64)) = (0 : Int32)) => ?_)
  refine own_iconst (pc' := 61) w6 own_d11_60 (x := (0 : Int32)) rfl rfl ?_
  refine own_goto w6 own_d11_61 (by decide) (pc' := 65) rfl ?_
  refine own_istoreN (pc' := 66) w6 own_d11_65 (Ls' := #[.val (.ref a1), .val (.int (1 : Int32)), .val (.int (0 : Int32)), .val (.long 0), .second]) rfl rfl ?_
  refine own_iloadN (pc' := 67) w6 own_d11_66 rfl rfl ?_
  exact own_retV w6 (t := .int) rfl rfl (Or.inl ⟨rfl, by simp, _, rfl⟩) own_d11_67 (by decide) (by decide) (ms' := []) all0 ⟨rfl, rfl, rfl⟩
theorem own_ef_getW1 (m : MethodId) (a1 : Addr) : entryFrame m #[(.ref a1), (.int (1 : Int32))] 2 = mkF m 0 #[.val (.ref a1), .val (.int (1 : Int32))] [] := by first | (simp [entryFrame, mkF, argsToLocals, Value.category]; done) | rfl
def own_Q_getW1 (Z : State) (h0 : Heap) (a1 : Addr) (t : Addr) (kt : ClassId) (p0 : Int64) (p1 : Int64) (p2 : Int64) (p3 : Int64) (v : Option Value) (h : Heap) (ms : List Addr) : Prop := (Keep h0 h []) ∧ (∃ (r : Addr), (ms = []) ∧ (v = some (.ref r)) ∧ (Exa Z h r "com/example/throng/throng/engine/Count") ∧ (Fld Z h r "com/example/throng/throng/engine/Count" "low" "J" (.long p3)) ∧ (Fld Z h r "com/example/throng/throng/engine/Count" "high" "J" (.long p2)) ∧ (h0.size ≤ r))
set_option maxRecDepth 65536 in
set_option maxHeartbeats 40000000 in
theorem own_ct_getW1 (l : Launch) (Z : State) (a0 : Array Value) (hw : ∀ d ∈ tables_1, d.before a0 Z = true) (EL : List (String × Nat)) (hE : EW Z a0 EL) (n0 : Nat) (ws : List Jvm.Cond) (h0 : Heap) (O : Old Z n0 h0) (a1 : Addr) (t : Addr) (kt : ClassId) (p0 : Int64) (p1 : Int64) (p2 : Int64) (p3 : Int64) (F_a1_narrow : Fld Z h0 a1 "com/example/throng/throng/engine/Count$Array" "narrow" "Z" (.int (0 : Int32))) (F_a1_bits : Fld Z h0 a1 "com/example/throng/throng/engine/Count$Array" "bits" "[J" (.ref t)) (A_t : Arv Z h0 t kt .long (4 : Int32) [(.long p0), (.long p1), (.long p2), (.long p3)] (.long 0)) :
    own_Ct l Z EL n0 (⟨"com/example/throng/throng/engine/Count$Array", "get", "(I)Lcom/example/throng/throng/engine/Count;"⟩ : MethodName) prog_42_method_3_code 2 (some (.object "com/example/throng/throng/engine/Count")) ws ({ frames := 2, cells := 1, slots := 2, locals := 29 } : Room) #[(.ref a1), (.int (1 : Int32))] h0 [] (own_Q_getW1 Z h0 a1 t kt p0 p1 p2 p3) := by
  refine own_enter (a0 := a0) own_pf12 hE O fun p e s m below meth c T0 w0 => ?_
  rw [own_ef_getW1 m a1]
  have K : Keep h0 h0 [] := Keep.refl _ _
  refine own_aloadN (pc' := 1) w0 own_d12_0 rfl rfl rfl ?_
  refine own_getF (pc' := 4) w0 (host := "") (Or.inl (hw _ (List.mem_of_getElem? (i := 12) rfl))) Via.refl F_a1_narrow own_d12_1 rfl fun T1 w2 => ?_
  refine own_if (pc' := 7) w2 own_d12_4 rfl (by decide) (pcY := 19) rfl (fun (hb4 : (0 : Int32) = (0 : Int32)) => ?_) (fun (hb4 : ¬ (0 : Int32) = (0 : Int32)) => absurd hb4 (by decide))
  refine own_newO (pc' := 22) w2 (hw _ (List.mem_of_getElem? (i := 81) rfl)) (hw _ (List.mem_of_getElem? (i := 21) rfl)) (hw _ (List.mem_of_getElem? (i := 18) rfl)) own_d12_19 rfl (by decide) (by decide) fun T3 h5 a7 g_a7 w4 E6 ⟨E_a7, D8⟩ => ?_
  have ne_a1_a7 : a1 ≠ a7 := Nat.ne_of_lt (Nat.lt_of_lt_of_le F_a1_narrow.lt (Nat.le_of_eq g_a7))
  have ne_t_a7 : t ≠ a7 := Nat.ne_of_lt (Nat.lt_of_lt_of_le A_t.lt (Nat.le_of_eq g_a7))
  have nw_a7 : h0.size ≤ a7 := Nat.le_trans K.1 (Nat.le_of_eq g_a7)
  replace F_a1_narrow := F_a1_narrow.ext E6
  replace F_a1_bits := F_a1_bits.ext E6
  replace A_t := A_t.ext E6
  replace K := K.ext E6
  have F_a7_high : Fld Z h5 a7 "com/example/throng/throng/engine/Count" "high" "J" (.long 0) := D8 (Or.inr (hw _ (List.mem_of_getElem? (i := 27) rfl))) (ty := .long) (by decide)
  have F_a7_low : Fld Z h5 a7 "com/example/throng/throng/engine/Count" "low" "J" (.long 0) := D8 (Or.inr (hw _ (List.mem_of_getElem? (i := 29) rfl))) (ty := .long) (by decide)
  refine own_dup (pc' := 23) w4 own_d12_22 rfl rfl ?_
  refine own_aloadN (pc' := 24) w4 own_d12_23 rfl rfl rfl ?_
  refine own_getF (pc' := 27) w4 (host := "") (Or.inl (hw _ (List.mem_of_getElem? (i := 14) rfl))) Via.refl F_a1_bits own_d12_24 rfl fun T9 w10 => ?_
  refine own_iconst (pc' := 28) w10 own_d12_27 (x := (2 : Int32)) rfl rfl ?_
  refine own_iloadN (pc' := 29) w10 own_d12_28 rfl rfl ?_
  refine own_imul (pc' := 30) w10 own_d12_29 (z := (2 : Int32)) (by decide) rfl ?_
  refine own_ldJ (pc' := 31) w10 (v := (.long p2)) A_t (by decide) rfl own_d12_30 rfl ?_
  refine own_aloadN (pc' := 32) w10 own_d12_31 rfl rfl rfl ?_
  refine own_getF (pc' := 35) w10 (host := "") (Or.inl (hw _ (List.mem_of_getElem? (i := 14) rfl))) Via.refl F_a1_bits own_d12_32 rfl fun T11 w12 => ?_
  refine own_iconst (pc' := 36) w12 own_d12_35 (x := (2 : Int32)) rfl rfl ?_
  refine own_iloadN (pc' := 37) w12 own_d12_36 rfl rfl ?_
  refine own_imul (pc' := 38) w12 own_d12_37 (z := (2 : Int32)) (by decide) rfl ?_
  refine own_iconst (pc' := 39) w12 own_d12_38 (x := (1 : Int32)) rfl rfl ?_
  refine own_iadd (pc' := 40) w12 own_d12_39 (z := (3 : Int32)) (by decide) rfl ?_
  refine own_ldJ (pc' := 41) w12 (v := (.long p3)) A_t (by decide) rfl own_d12_40 rfl ?_
  refine own_callIN (pc' := 44) w12 rfl (hw _ (List.mem_of_getElem? (i := 82) rfl)) (hw _ (List.mem_of_getElem? (i := 23) rfl)) (hw _ (List.mem_of_getElem? (i := 18) rfl)) (hw _ (List.mem_of_getElem? (i := 24) rfl)) (by decide) (own_ct_cInit l Z a0 hw EL hE n0 [] h5 (own_old w12) a7 p2 p3 (.long 0) (.long 0) E_a7 F_a7_high F_a7_low) (allS (P := fun x => x ∈ _) (by simp) all0) (argsL := [(.long p2), (.long p3)]) (rest := [(.ref a7)]) rfl rfl own_pd0 rfl own_d12_41 rfl (by decide) (W := 1) rfl (by decide) (by decide) (by decide) fun T13 h15 v16 ms17 w14 q18 => ?_
  obtain ⟨K19, rfl, rfl, nw_E_a7, nw_F_a7_low, nw_F_a7_high⟩ := q18
  replace F_a1_narrow := F_a1_narrow.keep K19 (ninS ne_a1_a7 nin0)
  replace F_a1_bits := F_a1_bits.keep K19 (ninS ne_a1_a7 nin0)
  replace A_t := A_t.keep K19 (ninS ne_t_a7 nin0)
  replace K := K.trans K19 (allS (P := fun x => x ∈ ([] : List Addr) ∨ h0.size ≤ x) (Or.inr nw_a7) all0)
  have E_a7 := nw_E_a7; clear nw_E_a7
  have F_a7_low := nw_F_a7_low; clear nw_F_a7_low
  have F_a7_high := nw_F_a7_high; clear nw_F_a7_high
  show own_Go Z EL n0 p e below s _ _ _ (T13.setTop (mkF m 44 #[.val (.ref a1), .val (.int (1 : Int32))] [(.ref a7)]))
  exact own_retV w14 (t := (.object "com/example/throng/throng/engine/Count")) rfl (own_narR rfl rfl) (Or.inr (Or.inr (Or.inr (Or.inr ⟨rfl, rfl, rfl⟩)))) own_d12_44 (by decide) (by decide) (ms' := []) all0 ⟨K, a7, rfl, rfl, E_a7, F_a7_low, F_a7_high, nw_a7⟩
theorem own_d13_0 : decode code 0 = .ok (.iload 8, 2) := by decide +kernel
theorem own_d13_2 : decode code 2 = .ok (.iconst 1, 1) := by decide +kernel
theorem own_d13_3 : decode code 3 = .ok (.iand, 1) := by decide +kernel
theorem own_d13_4 : decode code 4 = .ok (.ifCond .eq 7, 3) := by decide +kernel
theorem own_d13_11 : decode code 11 = .ok (.iconst 0, 1) := by decide +kernel
theorem own_d13_12 : decode code 12 = .ok (.istore 9, 2) := by decide +kernel
theorem own_d13_14 : decode code 14 = .ok (.iload 8, 2) := by decide +kernel
theorem own_d13_16 : decode code 16 = .ok (.iconst 1, 1) := by decide +kernel
theorem own_d13_17 : decode code 17 = .ok (.iushr, 1) := by decide +kernel
theorem own_d13_18 : decode code 18 = .ok (.iconst 1, 1) := by decide +kernel
theorem own_d13_19 : decode code 19 = .ok (.iand, 1) := by decide +kernel
theorem own_d13_20 : decode code 20 = .ok (.istore 10, 2) := by decide +kernel
theorem own_d13_22 : decode code 22 = .ok (.iload 8, 2) := by decide +kernel
theorem own_d13_24 : decode code 24 = .ok (.iconst 2, 1) := by decide +kernel
theorem own_d13_25 : decode code 25 = .ok (.iushr, 1) := by decide +kernel
theorem own_d13_26 : decode code 26 = .ok (.iconst 1, 1) := by decide +kernel
theorem own_d13_27 : decode code 27 = .ok (.iand, 1) := by decide +kernel
theorem own_d13_28 : decode code 28 = .ok (.istore 11, 2) := by decide +kernel
theorem own_d13_30 : decode code 30 = .ok (.new 7, 3) := by decide +kernel
theorem own_d13_33 : decode code 33 = .ok (.dup, 1) := by decide +kernel
theorem own_d13_34 : decode code 34 = .ok (.iconst 2, 1) := by decide +kernel
theorem own_d13_35 : decode code 35 = .ok (.iload 9, 2) := by decide +kernel
theorem own_d13_37 : decode code 37 = .ok (.invokespecial 9, 3) := by decide +kernel
theorem own_pd5 : parseMethodDescriptor "(IZ)V" = some ⟨[.int, .boolean], none⟩ := by decide +kernel
theorem own_d13_40 : decode code 40 = .ok (.astore 12, 2) := by decide +kernel
theorem own_d13_42 : decode code 42 = .ok (.new 7, 3) := by decide +kernel
theorem own_d13_45 : decode code 45 = .ok (.dup, 1) := by decide +kernel
theorem own_d13_46 : decode code 46 = .ok (.iconst 2, 1) := by decide +kernel
theorem own_d13_47 : decode code 47 = .ok (.iload 9, 2) := by decide +kernel
theorem own_d13_49 : decode code 49 = .ok (.invokespecial 9, 3) := by decide +kernel
theorem own_d13_52 : decode code 52 = .ok (.astore 13, 2) := by decide +kernel
theorem own_d13_54 : decode code 54 = .ok (.lload_n 0, 1) := by decide +kernel
theorem own_d13_55 : decode code 55 = .ok (.invokestatic 12, 3) := by decide +kernel
theorem own_d13_58 : decode code 58 = .ok (.lload_n 2, 1) := by decide +kernel
theorem own_d13_59 : decode code 59 = .ok (.invokestatic 12, 3) := by decide +kernel
theorem own_d13_62 : decode code 62 = .ok (.invokevirtual 18, 3) := by decide +kernel
theorem own_pd6 : parseMethodDescriptor "(Lcom/example/throng/throng/engine/Count;)Lcom/example/throng/throng/engine/Count;" = some ⟨[(.object "com/example/throng/throng/engine/Count")], some (.object "com/example/throng/throng/engine/Count")⟩ := by decide +kernel
theorem own_d13_65 : decode code 65 = .ok (.astore 14, 2) := by decide +kernel
theorem own_d13_67 : decode code 67 = .ok (.aload 12, 2) := by decide +kernel
theorem own_d13_69 : decode code 69 = .ok (.iload 11, 2) := by decide +kernel
theorem own_d13_71 : decode code 71 = .ok (.aload 14, 2) := by decide +kernel
theorem own_d13_73 : decode code 73 = .ok (.invokevirtual 22, 3) := by decide +kernel
theorem own_pd7 : parseMethodDescriptor "(ILcom/example/throng/throng/engine/Count;)V" = some ⟨[.int, (.object "com/example/throng/throng/engine/Count")], none⟩ := by decide +kernel
theorem own_d13_76 : decode code 76 = .ok (.aload 12, 2) := by decide +kernel
theorem own_d13_78 : decode code 78 = .ok (.iconst 1, 1) := by decide +kernel
theorem own_d13_79 : decode code 79 = .ok (.iload 11, 2) := by decide +kernel
theorem own_d13_81 : decode code 81 = .ok (.isub, 1) := by decide +kernel
theorem own_d13_82 : decode code 82 = .ok (.lload 6, 2) := by decide +kernel
theorem own_d13_84 : decode code 84 = .ok (.invokevirtual 26, 3) := by decide +kernel
theorem own_pd8 : parseMethodDescriptor "(IJ)V" = some ⟨[.int, .long], none⟩ := by decide +kernel
theorem own_d13_87 : decode code 87 = .ok (.aload 13, 2) := by decide +kernel
theorem own_d13_89 : decode code 89 = .ok (.iload 10, 2) := by decide +kernel
theorem own_d13_91 : decode code 91 = .ok (.lload 4, 2) := by decide +kernel
theorem own_d13_93 : decode code 93 = .ok (.invokevirtual 26, 3) := by decide +kernel
theorem own_d13_96 : decode code 96 = .ok (.aload 13, 2) := by decide +kernel
theorem own_d13_98 : decode code 98 = .ok (.iload 10, 2) := by decide +kernel
theorem own_d13_100 : decode code 100 = .ok (.aload 12, 2) := by decide +kernel
theorem own_d13_102 : decode code 102 = .ok (.iload 11, 2) := by decide +kernel
theorem own_d13_104 : decode code 104 = .ok (.invokevirtual 29, 3) := by decide +kernel
theorem own_pd9 : parseMethodDescriptor "(ILcom/example/throng/throng/engine/Count$Array;I)V" = some ⟨[.int, (.object "com/example/throng/throng/engine/Count$Array"), .int], none⟩ := by decide +kernel
theorem own_d13_107 : decode code 107 = .ok (.iload 9, 2) := by decide +kernel
theorem own_d13_109 : decode code 109 = .ok (.ifCond .eq 12, 3) := by decide +kernel
theorem own_d13_121 : decode code 121 = .ok (.aload 14, 2) := by decide +kernel
theorem own_d13_123 : decode code 123 = .ok (.astore 15, 2) := by decide +kernel
theorem own_d13_125 : decode code 125 = .ok (.aload 13, 2) := by decide +kernel
theorem own_d13_127 : decode code 127 = .ok (.iload 10, 2) := by decide +kernel
theorem own_d13_129 : decode code 129 = .ok (.invokevirtual 32, 3) := by decide +kernel
theorem own_pd10 : parseMethodDescriptor "(I)Lcom/example/throng/throng/engine/Count;" = some ⟨[.int], some (.object "com/example/throng/throng/engine/Count")⟩ := by decide +kernel
theorem own_d13_132 : decode code 132 = .ok (.aload 15, 2) := by decide +kernel
theorem own_d13_134 : decode code 134 = .ok (.invokevirtual 36, 3) := by decide +kernel
theorem own_pd11 : parseMethodDescriptor "(Ljava/lang/Object;)Z" = some ⟨[(.object "java/lang/Object")], some .boolean⟩ := by decide +kernel
theorem own_d13_137 : decode code 137 = .ok (.ifCond .eq 34, 3) := by decide +kernel
theorem own_d13_140 : decode code 140 = .ok (.aload 13, 2) := by decide +kernel
theorem own_d13_142 : decode code 142 = .ok (.iconst 1, 1) := by decide +kernel
theorem own_d13_143 : decode code 143 = .ok (.iload 10, 2) := by decide +kernel
theorem own_d13_145 : decode code 145 = .ok (.isub, 1) := by decide +kernel
theorem own_d13_146 : decode code 146 = .ok (.invokevirtual 40, 3) := by decide +kernel
theorem own_pd12 : parseMethodDescriptor "(I)I" = some ⟨[.int], some .int⟩ := by decide +kernel
theorem own_d13_149 : decode code 149 = .ok (.ifCond .ne 22, 3) := by decide +kernel
theorem own_d13_152 : decode code 152 = .ok (.aload 12, 2) := by decide +kernel
theorem own_d13_154 : decode code 154 = .ok (.iload 11, 2) := by decide +kernel
theorem own_d13_156 : decode code 156 = .ok (.invokevirtual 32, 3) := by decide +kernel
theorem own_d13_159 : decode code 159 = .ok (.aload 15, 2) := by decide +kernel
theorem own_d13_161 : decode code 161 = .ok (.invokevirtual 36, 3) := by decide +kernel
theorem own_d13_164 : decode code 164 = .ok (.ifCond .eq 7, 3) := by decide +kernel
theorem own_d13_167 : decode code 167 = .ok (.iconst 1, 1) := by decide +kernel
theorem own_d13_168 : decode code 168 = .ok (.goto 4, 3) := by decide +kernel
theorem own_d13_172 : decode code 172 = .ok (.ireturn, 1) := by decide +kernel
theorem own_d13_7 : decode code 7 = .ok (.iconst 1, 1) := by decide +kernel
theorem own_d13_8 : decode code 8 = .ok (.goto 4, 3) := by decide +kernel
theorem own_d13_112 : decode code 112 = .ok (.lload_n 0, 1) := by decide +kernel
theorem own_d13_113 : decode code 113 = .ok (.lload_n 2, 1) := by decide +kernel
theorem own_d13_114 : decode code 114 = .ok (.lmul, 1) := by decide +kernel
theorem own_d13_115 : decode code 115 = .ok (.invokestatic 12, 3) := by decide +kernel
theorem own_d13_118 : decode code 118 = .ok (.goto 5, 3) := by decide +kernel
theorem own_ef_law (m : MethodId) (a : Int64) (b : Int64) (cc : Int64) (ee : Int64) (sel : Int32) : entryFrame m #[(.long a), (.long b), (.long cc), (.long ee), (.int sel)] maxLocals = mkF m 0 #[.val (.long a), .second, .val (.long b), .second, .val (.long cc), .second, .val (.long ee), .second, .val (.int sel), .unset, .unset, .unset, .unset, .unset, .unset, .unset] [] := by first | (simp [entryFrame, mkF, argsToLocals, Value.category, maxLocals]; done) | rfl
theorem own_pf13 : plainFor (⟨"com/example/throng/throng/engine/ArraySetPinLaw", "law", "(JJJJI)Z"⟩ : MethodName) = true := by first | exact plainFor_of_name (by first | (simp [plainName, overriddenIn]; done) | decide +kernel) | decide +kernel
def own_Q_law (Z : State) (h0 : Heap) (a : Int64) (b : Int64) (cc : Int64) (ee : Int64) (sel : Int32) (v : Option Value) (h : Heap) (ms : List Addr) : Prop := (Keep h0 h []) ∧ (ms = []) ∧ (v = some (.int 1))
set_option maxRecDepth 65536 in
set_option maxHeartbeats 40000000 in
theorem own_ct_law (l : Launch) (Z : State) (a0 : Array Value) (hw : ∀ d ∈ tables_1, d.before a0 Z = true) (EL : List (String × Nat)) (hE : EW Z a0 EL) (n0 : Nat) (ws : List Jvm.Cond) (h0 : Heap) (O : Old Z n0 h0) (a : Int64) (b : Int64) (cc : Int64) (ee : Int64) (sel : Int32)  :
    own_Ct l Z EL n0 x code maxLocals ret ws room_1 #[(.long a), (.long b), (.long cc), (.long ee), (.int sel)] h0 [] (own_Q_law Z h0 a b cc ee sel) := by
  refine own_enter (a0 := a0) own_pf13 hE O fun p e s m below meth c T0 w0 => ?_
  rw [own_ef_law m a b cc ee sel]
  have K : Keep h0 h0 [] := Keep.refl _ _
  refine own_iload (pc' := 2) w0 own_d13_0 rfl rfl ?_
  refine own_iconst (pc' := 3) w0 own_d13_2 (x := (1 : Int32)) rfl rfl ?_
  refine own_iand (pc' := 4) w0 own_d13_3 (z := (sel &&& (1 : Int32))) rfl rfl ?_
  refine own_if (pc' := 7) w0 own_d13_4 rfl (by decide) (pcY := 11) rfl (fun (hb4 : (sel &&& (1 : Int32)) = (0 : Int32)) => ?_) (fun (hb4 : ¬ (sel &&& (1 : Int32)) = (0 : Int32)) => ?_)
  · -- t
    refine own_iconst (pc' := 12) w0 own_d13_11 (x := (0 : Int32)) rfl rfl ?_
    refine own_istore (pc' := 14) w0 own_d13_12 (Ls' := #[.val (.long a), .second, .val (.long b), .second, .val (.long cc), .second, .val (.long ee), .second, .val (.int sel), .val (.int (0 : Int32)), .unset, .unset, .unset, .unset, .unset, .unset]) rfl rfl ?_
    refine own_iload (pc' := 16) w0 own_d13_14 rfl rfl ?_
    refine own_iconst (pc' := 17) w0 own_d13_16 (x := (1 : Int32)) rfl rfl ?_
    refine own_iushr (pc' := 18) w0 own_d13_17 (z := (XT.ushr sel (1 : Int32))) rfl rfl ?_
    refine own_iconst (pc' := 19) w0 own_d13_18 (x := (1 : Int32)) rfl rfl ?_
    rcases and_one (XT.ushr sel (1 : Int32)) with hix | hix
    · -- t0
      refine own_iand (pc' := 20) w0 own_d13_19 (z := (0 : Int32)) hix rfl ?_
      refine own_istore (pc' := 22) w0 own_d13_20 (Ls' := #[.val (.long a), .second, .val (.long b), .second, .val (.long cc), .second, .val (.long ee), .second, .val (.int sel), .val (.int (0 : Int32)), .val (.int (0 : Int32)), .unset, .unset, .unset, .unset, .unset]) rfl rfl ?_
      refine own_iload (pc' := 24) w0 own_d13_22 rfl rfl ?_
      refine own_iconst (pc' := 25) w0 own_d13_24 (x := (2 : Int32)) rfl rfl ?_
      refine own_iushr (pc' := 26) w0 own_d13_25 (z := (XT.ushr sel (2 : Int32))) rfl rfl ?_
      refine own_iconst (pc' := 27) w0 own_d13_26 (x := (1 : Int32)) rfl rfl ?_
      rcases and_one (XT.ushr sel (2 : Int32)) with hat | hat
      · -- t00
        refine own_iand (pc' := 28) w0 own_d13_27 (z := (0 : Int32)) hat rfl ?_
        refine own_istore (pc' := 30) w0 own_d13_28 (Ls' := #[.val (.long a), .second, .val (.long b), .second, .val (.long cc), .second, .val (.long ee), .second, .val (.int sel), .val (.int (0 : Int32)), .val (.int (0 : Int32)), .val (.int (0 : Int32)), .unset, .unset, .unset, .unset]) rfl rfl ?_
        refine own_newO (pc' := 33) w0 (hw _ (List.mem_of_getElem? (i := 0) rfl)) (hw _ (List.mem_of_getElem? (i := 1) rfl)) (hw _ (List.mem_of_getElem? (i := 2) rfl)) own_d13_30 rfl (by decide) (by decide) fun T1 h3 a5 g_a5 w2 E4 ⟨E_a5, D6⟩ => ?_
        have nw_a5 : h0.size ≤ a5 := Nat.le_trans K.1 (Nat.le_of_eq g_a5)
        replace K := K.ext E4
        have F_a5_product : Fld Z h3 a5 "com/example/throng/throng/engine/Count$Array" "product" "[J" .null := D6 (Or.inr (hw _ (List.mem_of_getElem? (i := 11) rfl))) (ty := (.array .long)) (by decide)
        have F_a5_narrow : Fld Z h3 a5 "com/example/throng/throng/engine/Count$Array" "narrow" "Z" (.int 0) := D6 (Or.inr (hw _ (List.mem_of_getElem? (i := 13) rfl))) (ty := .boolean) (by decide)
        have F_a5_bits : Fld Z h3 a5 "com/example/throng/throng/engine/Count$Array" "bits" "[J" .null := D6 (Or.inr (hw _ (List.mem_of_getElem? (i := 15) rfl))) (ty := (.array .long)) (by decide)
        refine own_dup (pc' := 34) w2 own_d13_33 rfl rfl ?_
        refine own_iconst (pc' := 35) w2 own_d13_34 (x := (2 : Int32)) rfl rfl ?_
        refine own_iload (pc' := 37) w2 own_d13_35 rfl rfl ?_
        refine own_callI (pc' := 40) w2 rfl (hw _ (List.mem_of_getElem? (i := 3) rfl)) (hw _ (List.mem_of_getElem? (i := 4) rfl)) (hw _ (List.mem_of_getElem? (i := 2) rfl)) (hw _ (List.mem_of_getElem? (i := 5) rfl)) (by decide) (own_ct_aInitW l Z a0 hw EL hE n0 [] h3 (own_old w2) a5 .null (.int 0) .null E_a5 F_a5_product F_a5_narrow F_a5_bits) (allS (P := fun x => x ∈ _) (by simp) all0) (argsL := [(.int (2 : Int32)), (.int (0 : Int32))]) (rest := [(.ref a5)]) rfl rfl own_pd5 rfl own_d13_37 rfl (by decide) (W := 1) rfl (by decide) (by decide) (by decide) fun T7 h9 v10 ms11 w8 q12 => ?_
        obtain ⟨K15, t_13, kt_14, rfl, rfl, nw_E_a5, nw_F_a5_narrow, nw_F_a5_bits, nw_A_t_13, p37_aInitW_0⟩ := q12
        have ne_a5_t_13 : a5 ≠ t_13 := Nat.ne_of_lt (Nat.lt_of_lt_of_le E_a5.lt p37_aInitW_0)
        have nw_t_13 : h0.size ≤ t_13 := Nat.le_trans K.1 p37_aInitW_0
        replace K := K.trans K15 (allS (P := fun x => x ∈ ([] : List Addr) ∨ h0.size ≤ x) (Or.inr nw_a5) all0)
        have E_a5 := nw_E_a5; clear nw_E_a5
        have F_a5_narrow := nw_F_a5_narrow; clear nw_F_a5_narrow
        have F_a5_bits := nw_F_a5_bits; clear nw_F_a5_bits
        have A_t_13 := nw_A_t_13; clear nw_A_t_13
        show own_Go Z EL n0 p e below s _ _ _ (T7.setTop (mkF m 40 #[.val (.long a), .second, .val (.long b), .second, .val (.long cc), .second, .val (.long ee), .second, .val (.int sel), .val (.int (0 : Int32)), .val (.int (0 : Int32)), .val (.int (0 : Int32)), .unset, .unset, .unset, .unset] [(.ref a5)]))
        refine own_astore (pc' := 42) w8 own_d13_40 rfl (Ls' := #[.val (.long a), .second, .val (.long b), .second, .val (.long cc), .second, .val (.long ee), .second, .val (.int sel), .val (.int (0 : Int32)), .val (.int (0 : Int32)), .val (.int (0 : Int32)), .val (.ref a5), .unset, .unset, .unset]) rfl rfl ?_
        refine own_newO (pc' := 45) w8 (hw _ (List.mem_of_getElem? (i := 0) rfl)) (hw _ (List.mem_of_getElem? (i := 1) rfl)) (hw _ (List.mem_of_getElem? (i := 2) rfl)) own_d13_42 rfl (by decide) (by decide) fun T16 h18 a20 g_a20 w17 E19 ⟨E_a20, D21⟩ => ?_
        have ne_a5_a20 : a5 ≠ a20 := Nat.ne_of_lt (Nat.lt_of_lt_of_le E_a5.lt (Nat.le_of_eq g_a20))
        have ne_t_13_a20 : t_13 ≠ a20 := Nat.ne_of_lt (Nat.lt_of_lt_of_le A_t_13.lt (Nat.le_of_eq g_a20))
        have nw_a20 : h0.size ≤ a20 := Nat.le_trans K.1 (Nat.le_of_eq g_a20)
        replace E_a5 := E_a5.ext E19
        replace F_a5_narrow := F_a5_narrow.ext E19
        replace F_a5_bits := F_a5_bits.ext E19
        replace A_t_13 := A_t_13.ext E19
        replace K := K.ext E19
        have F_a20_product : Fld Z h18 a20 "com/example/throng/throng/engine/Count$Array" "product" "[J" .null := D21 (Or.inr (hw _ (List.mem_of_getElem? (i := 11) rfl))) (ty := (.array .long)) (by decide)
        have F_a20_narrow : Fld Z h18 a20 "com/example/throng/throng/engine/Count$Array" "narrow" "Z" (.int 0) := D21 (Or.inr (hw _ (List.mem_of_getElem? (i := 13) rfl))) (ty := .boolean) (by decide)
        have F_a20_bits : Fld Z h18 a20 "com/example/throng/throng/engine/Count$Array" "bits" "[J" .null := D21 (Or.inr (hw _ (List.mem_of_getElem? (i := 15) rfl))) (ty := (.array .long)) (by decide)
        refine own_dup (pc' := 46) w17 own_d13_45 rfl rfl ?_
        refine own_iconst (pc' := 47) w17 own_d13_46 (x := (2 : Int32)) rfl rfl ?_
        refine own_iload (pc' := 49) w17 own_d13_47 rfl rfl ?_
        refine own_callI (pc' := 52) w17 rfl (hw _ (List.mem_of_getElem? (i := 3) rfl)) (hw _ (List.mem_of_getElem? (i := 4) rfl)) (hw _ (List.mem_of_getElem? (i := 2) rfl)) (hw _ (List.mem_of_getElem? (i := 5) rfl)) (by decide) (own_ct_aInitW l Z a0 hw EL hE n0 [] h18 (own_old w17) a20 .null (.int 0) .null E_a20 F_a20_product F_a20_narrow F_a20_bits) (allS (P := fun x => x ∈ _) (by simp) all0) (argsL := [(.int (2 : Int32)), (.int (0 : Int32))]) (rest := [(.ref a20)]) rfl rfl own_pd5 rfl own_d13_49 rfl (by decide) (W := 1) rfl (by decide) (by decide) (by decide) fun T22 h24 v25 ms26 w23 q27 => ?_
        obtain ⟨K30, t_28, kt_29, rfl, rfl, nw_E_a20, nw_F_a20_narrow, nw_F_a20_bits, nw_A_t_28, p49_aInitW_0⟩ := q27
        have ne_a20_t_28 : a20 ≠ t_28 := Nat.ne_of_lt (Nat.lt_of_lt_of_le E_a20.lt p49_aInitW_0)
        have ne_a5_t_28 : a5 ≠ t_28 := Nat.ne_of_lt (Nat.lt_of_lt_of_le E_a5.lt p49_aInitW_0)
        have ne_t_13_t_28 : t_13 ≠ t_28 := Nat.ne_of_lt (Nat.lt_of_lt_of_le A_t_13.lt p49_aInitW_0)
        have nw_t_28 : h0.size ≤ t_28 := Nat.le_trans K.1 p49_aInitW_0
        replace E_a5 := E_a5.keep K30
        replace F_a5_narrow := F_a5_narrow.keep K30 (ninS ne_a5_a20 nin0)
        replace F_a5_bits := F_a5_bits.keep K30 (ninS ne_a5_a20 nin0)
        replace A_t_13 := A_t_13.keep K30 (ninS ne_t_13_a20 nin0)
        replace K := K.trans K30 (allS (P := fun x => x ∈ ([] : List Addr) ∨ h0.size ≤ x) (Or.inr nw_a20) all0)
        have E_a20 := nw_E_a20; clear nw_E_a20
        have F_a20_narrow := nw_F_a20_narrow; clear nw_F_a20_narrow
        have F_a20_bits := nw_F_a20_bits; clear nw_F_a20_bits
        have A_t_28 := nw_A_t_28; clear nw_A_t_28
        show own_Go Z EL n0 p e below s _ _ _ (T22.setTop (mkF m 52 #[.val (.long a), .second, .val (.long b), .second, .val (.long cc), .second, .val (.long ee), .second, .val (.int sel), .val (.int (0 : Int32)), .val (.int (0 : Int32)), .val (.int (0 : Int32)), .val (.ref a5), .unset, .unset, .unset] [(.ref a20)]))
        refine own_astore (pc' := 54) w23 own_d13_52 rfl (Ls' := #[.val (.long a), .second, .val (.long b), .second, .val (.long cc), .second, .val (.long ee), .second, .val (.int sel), .val (.int (0 : Int32)), .val (.int (0 : Int32)), .val (.int (0 : Int32)), .val (.ref a5), .val (.ref a20), .unset, .unset]) rfl rfl ?_
        refine own_lloadN (pc' := 55) w23 own_d13_54 rfl rfl ?_
        refine own_callS (pc' := 58) w23 (hw _ (List.mem_of_getElem? (i := 16) rfl)) (hw _ (List.mem_of_getElem? (i := 17) rfl)) (hw _ (List.mem_of_getElem? (i := 18) rfl)) (hw _ (List.mem_of_getElem? (i := 19) rfl)) (by decide) (own_ct_cOf l Z a0 hw EL hE n0 [] h24 (own_old w23) a ) all0 (argsL := [(.long a)]) (rest := []) rfl rfl own_pd4 rfl own_d13_55 rfl (by decide) (W := 0) rfl (by decide) (by decide) (by decide) fun T31 h33 v34 ms35 w32 q36 => ?_
        obtain ⟨K38, r_37, rfl, rfl, nw_E_r_37, nw_F_r_37_low, nw_F_r_37_high, p55_cOf_0⟩ := q36
        have ne_a20_r_37 : a20 ≠ r_37 := Nat.ne_of_lt (Nat.lt_of_lt_of_le E_a20.lt p55_cOf_0)
        have ne_a5_r_37 : a5 ≠ r_37 := Nat.ne_of_lt (Nat.lt_of_lt_of_le E_a5.lt p55_cOf_0)
        have ne_t_13_r_37 : t_13 ≠ r_37 := Nat.ne_of_lt (Nat.lt_of_lt_of_le A_t_13.lt p55_cOf_0)
        have ne_t_28_r_37 : t_28 ≠ r_37 := Nat.ne_of_lt (Nat.lt_of_lt_of_le A_t_28.lt p55_cOf_0)
        have nw_r_37 : h0.size ≤ r_37 := Nat.le_trans K.1 p55_cOf_0
        replace E_a5 := E_a5.keep K38
        replace F_a5_narrow := F_a5_narrow.keep K38 nin0
        replace F_a5_bits := F_a5_bits.keep K38 nin0
        replace A_t_13 := A_t_13.keep K38 nin0
        replace E_a20 := E_a20.keep K38
        replace F_a20_narrow := F_a20_narrow.keep K38 nin0
        replace F_a20_bits := F_a20_bits.keep K38 nin0
        replace A_t_28 := A_t_28.keep K38 nin0
        replace K := K.trans K38 all0
        have E_r_37 := nw_E_r_37; clear nw_E_r_37
        have F_r_37_low := nw_F_r_37_low; clear nw_F_r_37_low
        have F_r_37_high := nw_F_r_37_high; clear nw_F_r_37_high
        show own_Go Z EL n0 p e below s _ _ _ (T31.setTop (mkF m 58 #[.val (.long a), .second, .val (.long b), .second, .val (.long cc), .second, .val (.long ee), .second, .val (.int sel), .val (.int (0 : Int32)), .val (.int (0 : Int32)), .val (.int (0 : Int32)), .val (.ref a5), .val (.ref a20), .unset, .unset] [(.ref r_37)]))
        refine own_lloadN (pc' := 59) w32 own_d13_58 rfl rfl ?_
        refine own_callS (pc' := 62) w32 (hw _ (List.mem_of_getElem? (i := 16) rfl)) (hw _ (List.mem_of_getElem? (i := 17) rfl)) (hw _ (List.mem_of_getElem? (i := 18) rfl)) (hw _ (List.mem_of_getElem? (i := 19) rfl)) (by decide) (own_ct_cOf l Z a0 hw EL hE n0 [] h33 (own_old w32) b ) all0 (argsL := [(.long b)]) (rest := [(.ref r_37)]) rfl rfl own_pd4 rfl own_d13_59 rfl (by decide) (W := 1) rfl (by decide) (by decide) (by decide) fun T39 h41 v42 ms43 w40 q44 => ?_
        obtain ⟨K46, r_45, rfl, rfl, nw_E_r_45, nw_F_r_45_low, nw_F_r_45_high, p59_cOf_0⟩ := q44
        have ne_a20_r_45 : a20 ≠ r_45 := Nat.ne_of_lt (Nat.lt_of_lt_of_le E_a20.lt p59_cOf_0)
        have ne_a5_r_45 : a5 ≠ r_45 := Nat.ne_of_lt (Nat.lt_of_lt_of_le E_a5.lt p59_cOf_0)
        have ne_r_37_r_45 : r_37 ≠ r_45 := Nat.ne_of_lt (Nat.lt_of_lt_of_le E_r_37.lt p59_cOf_0)
        have ne_t_13_r_45 : t_13 ≠ r_45 := Nat.ne_of_lt (Nat.lt_of_lt_of_le A_t_13.lt p59_cOf_0)
        have ne_t_28_r_45 : t_28 ≠ r_45 := Nat.ne_of_lt (Nat.lt_of_lt_of_le A_t_28.lt p59_cOf_0)
        have nw_r_45 : h0.size ≤ r_45 := Nat.le_trans K.1 p59_cOf_0
        replace E_a5 := E_a5.keep K46
        replace F_a5_narrow := F_a5_narrow.keep K46 nin0
        replace F_a5_bits := F_a5_bits.keep K46 nin0
        replace A_t_13 := A_t_13.keep K46 nin0
        replace E_a20 := E_a20.keep K46
        replace F_a20_narrow := F_a20_narrow.keep K46 nin0
        replace F_a20_bits := F_a20_bits.keep K46 nin0
        replace A_t_28 := A_t_28.keep K46 nin0
        replace E_r_37 := E_r_37.keep K46
        replace F_r_37_low := F_r_37_low.keep K46 nin0
        replace F_r_37_high := F_r_37_high.keep K46 nin0
        replace K := K.trans K46 all0
        have E_r_45 := nw_E_r_45; clear nw_E_r_45
        have F_r_45_low := nw_F_r_45_low; clear nw_F_r_45_low
        have F_r_45_high := nw_F_r_45_high; clear nw_F_r_45_high
        show own_Go Z EL n0 p e below s _ _ _ (T39.setTop (mkF m 62 #[.val (.long a), .second, .val (.long b), .second, .val (.long cc), .second, .val (.long ee), .second, .val (.int sel), .val (.int (0 : Int32)), .val (.int (0 : Int32)), .val (.int (0 : Int32)), .val (.ref a5), .val (.ref a20), .unset, .unset] [(.ref r_45), (.ref r_37)]))
        refine own_callV (pc' := 65) w40 (hw _ (List.mem_of_getElem? (i := 30) rfl)) (hw _ (List.mem_of_getElem? (i := 31) rfl)) (fun s' hZ' => notFace_of_selects (args := #[]) (mvT hZ' (hw _ (List.mem_of_getElem? (i := 33) rfl)))) (hw _ (List.mem_of_getElem? (i := 33) rfl)) (hw _ (List.mem_of_getElem? (i := 32) rfl)) (hw _ (List.mem_of_getElem? (i := 18) rfl)) (hw _ (List.mem_of_getElem? (i := 34) rfl)) (by decide) E_r_37 (own_ct_times l Z a0 hw EL hE n0 [] h41 (own_old w40) r_37 r_45 a b F_r_37_low F_r_37_high F_r_45_low F_r_45_high) all0 (argsL := [(.ref r_45)]) (rest := []) rfl rfl own_pd6 rfl own_d13_62 rfl (by decide) (W := 0) rfl (by decide) (by decide) (by decide) fun T47 h49 v50 ms51 w48 q52 => ?_
        obtain ⟨K54, r_53, rfl, rfl, nw_E_r_53, nw_F_r_53_low, nw_F_r_53_high, p62_times_0⟩ := q52
        have ne_a20_r_53 : a20 ≠ r_53 := Nat.ne_of_lt (Nat.lt_of_lt_of_le E_a20.lt p62_times_0)
        have ne_a5_r_53 : a5 ≠ r_53 := Nat.ne_of_lt (Nat.lt_of_lt_of_le E_a5.lt p62_times_0)
        have ne_r_37_r_53 : r_37 ≠ r_53 := Nat.ne_of_lt (Nat.lt_of_lt_of_le E_r_37.lt p62_times_0)
        have ne_r_45_r_53 : r_45 ≠ r_53 := Nat.ne_of_lt (Nat.lt_of_lt_of_le E_r_45.lt p62_times_0)
        have ne_t_13_r_53 : t_13 ≠ r_53 := Nat.ne_of_lt (Nat.lt_of_lt_of_le A_t_13.lt p62_times_0)
        have ne_t_28_r_53 : t_28 ≠ r_53 := Nat.ne_of_lt (Nat.lt_of_lt_of_le A_t_28.lt p62_times_0)
        have nw_r_53 : h0.size ≤ r_53 := Nat.le_trans K.1 p62_times_0
        replace E_a5 := E_a5.keep K54
        replace F_a5_narrow := F_a5_narrow.keep K54 nin0
        replace F_a5_bits := F_a5_bits.keep K54 nin0
        replace A_t_13 := A_t_13.keep K54 nin0
        replace E_a20 := E_a20.keep K54
        replace F_a20_narrow := F_a20_narrow.keep K54 nin0
        replace F_a20_bits := F_a20_bits.keep K54 nin0
        replace A_t_28 := A_t_28.keep K54 nin0
        replace E_r_37 := E_r_37.keep K54
        replace F_r_37_low := F_r_37_low.keep K54 nin0
        replace F_r_37_high := F_r_37_high.keep K54 nin0
        replace E_r_45 := E_r_45.keep K54
        replace F_r_45_low := F_r_45_low.keep K54 nin0
        replace F_r_45_high := F_r_45_high.keep K54 nin0
        replace K := K.trans K54 all0
        have E_r_53 := nw_E_r_53; clear nw_E_r_53
        have F_r_53_low := nw_F_r_53_low; clear nw_F_r_53_low
        have F_r_53_high := nw_F_r_53_high; clear nw_F_r_53_high
        show own_Go Z EL n0 p e below s _ _ _ (T47.setTop (mkF m 65 #[.val (.long a), .second, .val (.long b), .second, .val (.long cc), .second, .val (.long ee), .second, .val (.int sel), .val (.int (0 : Int32)), .val (.int (0 : Int32)), .val (.int (0 : Int32)), .val (.ref a5), .val (.ref a20), .unset, .unset] [(.ref r_53)]))
        refine own_astore (pc' := 67) w48 own_d13_65 rfl (Ls' := #[.val (.long a), .second, .val (.long b), .second, .val (.long cc), .second, .val (.long ee), .second, .val (.int sel), .val (.int (0 : Int32)), .val (.int (0 : Int32)), .val (.int (0 : Int32)), .val (.ref a5), .val (.ref a20), .val (.ref r_53), .unset]) rfl rfl ?_
        refine own_aload (pc' := 69) w48 own_d13_67 rfl rfl rfl ?_
        refine own_iload (pc' := 71) w48 own_d13_69 rfl rfl ?_
        refine own_aload (pc' := 73) w48 own_d13_71 rfl rfl rfl ?_
        refine own_callV (pc' := 76) w48 (hw _ (List.mem_of_getElem? (i := 43) rfl)) (hw _ (List.mem_of_getElem? (i := 44) rfl)) (fun s' hZ' => notFace_of_selects (args := #[]) (mvT hZ' (hw _ (List.mem_of_getElem? (i := 46) rfl)))) (hw _ (List.mem_of_getElem? (i := 46) rfl)) (hw _ (List.mem_of_getElem? (i := 45) rfl)) (hw _ (List.mem_of_getElem? (i := 2) rfl)) (hw _ (List.mem_of_getElem? (i := 47) rfl)) (by decide) E_a5 (own_ct_setCW0 l Z a0 hw EL hE n0 [] h49 (own_old w48) a5 r_53 t_13 kt_14 (own_mh a b) (a * b) 0 0 0 0 F_a5_narrow F_a5_bits A_t_13 F_r_53_low F_r_53_high ne_a5_t_13 (Ne.symm ne_t_13_r_53)) (allS (P := fun x => x ∈ _) (by simp) all0) (argsL := [(.int (0 : Int32)), (.ref r_53)]) (rest := []) rfl rfl own_pd7 rfl own_d13_73 rfl (by decide) (W := 0) rfl (by decide) (by decide) (by decide) fun T55 h57 v58 ms59 w56 q60 => ?_
        obtain ⟨K61, rfl, rfl, nw_A_t_13⟩ := q60
        replace E_a5 := E_a5.keep K61
        replace F_a5_narrow := F_a5_narrow.keep K61 (ninS ne_a5_t_13 nin0)
        replace F_a5_bits := F_a5_bits.keep K61 (ninS ne_a5_t_13 nin0)
        replace E_a20 := E_a20.keep K61
        replace F_a20_narrow := F_a20_narrow.keep K61 (ninS (Ne.symm ne_t_13_a20) nin0)
        replace F_a20_bits := F_a20_bits.keep K61 (ninS (Ne.symm ne_t_13_a20) nin0)
        replace A_t_28 := A_t_28.keep K61 (ninS (Ne.symm ne_t_13_t_28) nin0)
        replace E_r_37 := E_r_37.keep K61
        replace F_r_37_low := F_r_37_low.keep K61 (ninS (Ne.symm ne_t_13_r_37) nin0)
        replace F_r_37_high := F_r_37_high.keep K61 (ninS (Ne.symm ne_t_13_r_37) nin0)
        replace E_r_45 := E_r_45.keep K61
        replace F_r_45_low := F_r_45_low.keep K61 (ninS (Ne.symm ne_t_13_r_45) nin0)
        replace F_r_45_high := F_r_45_high.keep K61 (ninS (Ne.symm ne_t_13_r_45) nin0)
        replace E_r_53 := E_r_53.keep K61
        replace F_r_53_low := F_r_53_low.keep K61 (ninS (Ne.symm ne_t_13_r_53) nin0)
        replace F_r_53_high := F_r_53_high.keep K61 (ninS (Ne.symm ne_t_13_r_53) nin0)
        replace K := K.trans K61 (allS (P := fun x => x ∈ ([] : List Addr) ∨ h0.size ≤ x) (Or.inr nw_t_13) all0)
        have A_t_13 := nw_A_t_13; clear nw_A_t_13
        show own_Go Z EL n0 p e below s _ _ _ (T55.setTop (mkF m 76 #[.val (.long a), .second, .val (.long b), .second, .val (.long cc), .second, .val (.long ee), .second, .val (.int sel), .val (.int (0 : Int32)), .val (.int (0 : Int32)), .val (.int (0 : Int32)), .val (.ref a5), .val (.ref a20), .val (.ref r_53), .unset] []))
        refine own_aload (pc' := 78) w56 own_d13_76 rfl rfl rfl ?_
        refine own_iconst (pc' := 79) w56 own_d13_78 (x := (1 : Int32)) rfl rfl ?_
        refine own_iload (pc' := 81) w56 own_d13_79 rfl rfl ?_
        refine own_isub (pc' := 82) w56 own_d13_81 (z := (1 : Int32)) (by decide) rfl ?_
        refine own_lload (pc' := 84) w56 own_d13_82 rfl rfl ?_
        refine own_callV (pc' := 87) w56 (hw _ (List.mem_of_getElem? (i := 49) rfl)) (hw _ (List.mem_of_getElem? (i := 50) rfl)) (fun s' hZ' => notFace_of_selects (args := #[]) (mvT hZ' (hw _ (List.mem_of_getElem? (i := 52) rfl)))) (hw _ (List.mem_of_getElem? (i := 52) rfl)) (hw _ (List.mem_of_getElem? (i := 51) rfl)) (hw _ (List.mem_of_getElem? (i := 2) rfl)) (hw _ (List.mem_of_getElem? (i := 53) rfl)) (by decide) E_a5 (own_ct_setJW1 l Z a0 hw EL hE n0 [] h57 (own_old w56) a5 ee t_13 kt_14 (own_mh a b) (a * b) 0 0 F_a5_narrow F_a5_bits A_t_13 ne_a5_t_13) (allS (P := fun x => x ∈ _) (by simp) all0) (argsL := [(.int (1 : Int32)), (.long ee)]) (rest := []) rfl rfl own_pd8 rfl own_d13_84 rfl (by decide) (W := 0) rfl (by decide) (by decide) (by decide) fun T62 h64 v65 ms66 w63 q67 => ?_
        obtain ⟨K68, rfl, rfl, nw_A_t_13⟩ := q67
        replace E_a5 := E_a5.keep K68
        replace F_a5_narrow := F_a5_narrow.keep K68 (ninS ne_a5_t_13 nin0)
        replace F_a5_bits := F_a5_bits.keep K68 (ninS ne_a5_t_13 nin0)
        replace E_a20 := E_a20.keep K68
        replace F_a20_narrow := F_a20_narrow.keep K68 (ninS (Ne.symm ne_t_13_a20) nin0)
        replace F_a20_bits := F_a20_bits.keep K68 (ninS (Ne.symm ne_t_13_a20) nin0)
        replace A_t_28 := A_t_28.keep K68 (ninS (Ne.symm ne_t_13_t_28) nin0)
        replace E_r_37 := E_r_37.keep K68
        replace F_r_37_low := F_r_37_low.keep K68 (ninS (Ne.symm ne_t_13_r_37) nin0)
        replace F_r_37_high := F_r_37_high.keep K68 (ninS (Ne.symm ne_t_13_r_37) nin0)
        replace E_r_45 := E_r_45.keep K68
        replace F_r_45_low := F_r_45_low.keep K68 (ninS (Ne.symm ne_t_13_r_45) nin0)
        replace F_r_45_high := F_r_45_high.keep K68 (ninS (Ne.symm ne_t_13_r_45) nin0)
        replace E_r_53 := E_r_53.keep K68
        replace F_r_53_low := F_r_53_low.keep K68 (ninS (Ne.symm ne_t_13_r_53) nin0)
        replace F_r_53_high := F_r_53_high.keep K68 (ninS (Ne.symm ne_t_13_r_53) nin0)
        replace K := K.trans K68 (allS (P := fun x => x ∈ ([] : List Addr) ∨ h0.size ≤ x) (Or.inr nw_t_13) all0)
        have A_t_13 := nw_A_t_13; clear nw_A_t_13
        show own_Go Z EL n0 p e below s _ _ _ (T62.setTop (mkF m 87 #[.val (.long a), .second, .val (.long b), .second, .val (.long cc), .second, .val (.long ee), .second, .val (.int sel), .val (.int (0 : Int32)), .val (.int (0 : Int32)), .val (.int (0 : Int32)), .val (.ref a5), .val (.ref a20), .val (.ref r_53), .unset] []))
        refine own_aload (pc' := 89) w63 own_d13_87 rfl rfl rfl ?_
        refine own_iload (pc' := 91) w63 own_d13_89 rfl rfl ?_
        refine own_lload (pc' := 93) w63 own_d13_91 rfl rfl ?_
        refine own_callV (pc' := 96) w63 (hw _ (List.mem_of_getElem? (i := 49) rfl)) (hw _ (List.mem_of_getElem? (i := 50) rfl)) (fun s' hZ' => notFace_of_selects (args := #[]) (mvT hZ' (hw _ (List.mem_of_getElem? (i := 52) rfl)))) (hw _ (List.mem_of_getElem? (i := 52) rfl)) (hw _ (List.mem_of_getElem? (i := 51) rfl)) (hw _ (List.mem_of_getElem? (i := 2) rfl)) (hw _ (List.mem_of_getElem? (i := 53) rfl)) (by decide) E_a20 (own_ct_setJW0 l Z a0 hw EL hE n0 [] h64 (own_old w63) a20 cc t_28 kt_29 0 0 0 0 F_a20_narrow F_a20_bits A_t_28 ne_a20_t_28) (allS (P := fun x => x ∈ _) (by simp) all0) (argsL := [(.int (0 : Int32)), (.long cc)]) (rest := []) rfl rfl own_pd8 rfl own_d13_93 rfl (by decide) (W := 0) rfl (by decide) (by decide) (by decide) fun T69 h71 v72 ms73 w70 q74 => ?_
        obtain ⟨K75, rfl, rfl, nw_A_t_28⟩ := q74
        replace E_a5 := E_a5.keep K75
        replace F_a5_narrow := F_a5_narrow.keep K75 (ninS ne_a5_t_28 nin0)
        replace F_a5_bits := F_a5_bits.keep K75 (ninS ne_a5_t_28 nin0)
        replace E_a20 := E_a20.keep K75
        replace F_a20_narrow := F_a20_narrow.keep K75 (ninS ne_a20_t_28 nin0)
        replace F_a20_bits := F_a20_bits.keep K75 (ninS ne_a20_t_28 nin0)
        replace E_r_37 := E_r_37.keep K75
        replace F_r_37_low := F_r_37_low.keep K75 (ninS (Ne.symm ne_t_28_r_37) nin0)
        replace F_r_37_high := F_r_37_high.keep K75 (ninS (Ne.symm ne_t_28_r_37) nin0)
        replace E_r_45 := E_r_45.keep K75
        replace F_r_45_low := F_r_45_low.keep K75 (ninS (Ne.symm ne_t_28_r_45) nin0)
        replace F_r_45_high := F_r_45_high.keep K75 (ninS (Ne.symm ne_t_28_r_45) nin0)
        replace E_r_53 := E_r_53.keep K75
        replace F_r_53_low := F_r_53_low.keep K75 (ninS (Ne.symm ne_t_28_r_53) nin0)
        replace F_r_53_high := F_r_53_high.keep K75 (ninS (Ne.symm ne_t_28_r_53) nin0)
        replace A_t_13 := A_t_13.keep K75 (ninS ne_t_13_t_28 nin0)
        replace K := K.trans K75 (allS (P := fun x => x ∈ ([] : List Addr) ∨ h0.size ≤ x) (Or.inr nw_t_28) all0)
        have A_t_28 := nw_A_t_28; clear nw_A_t_28
        show own_Go Z EL n0 p e below s _ _ _ (T69.setTop (mkF m 96 #[.val (.long a), .second, .val (.long b), .second, .val (.long cc), .second, .val (.long ee), .second, .val (.int sel), .val (.int (0 : Int32)), .val (.int (0 : Int32)), .val (.int (0 : Int32)), .val (.ref a5), .val (.ref a20), .val (.ref r_53), .unset] []))
        refine own_aload (pc' := 98) w70 own_d13_96 rfl rfl rfl ?_
        refine own_iload (pc' := 100) w70 own_d13_98 rfl rfl ?_
        refine own_aload (pc' := 102) w70 own_d13_100 rfl rfl rfl ?_
        refine own_iload (pc' := 104) w70 own_d13_102 rfl rfl ?_
        refine own_callV (pc' := 107) w70 (hw _ (List.mem_of_getElem? (i := 54) rfl)) (hw _ (List.mem_of_getElem? (i := 55) rfl)) (fun s' hZ' => notFace_of_selects (args := #[]) (mvT hZ' (hw _ (List.mem_of_getElem? (i := 57) rfl)))) (hw _ (List.mem_of_getElem? (i := 57) rfl)) (hw _ (List.mem_of_getElem? (i := 56) rfl)) (hw _ (List.mem_of_getElem? (i := 2) rfl)) (hw _ (List.mem_of_getElem? (i := 58) rfl)) (by decide) E_a20 (own_ct_setAW00 l Z a0 hw EL hE n0 [] h71 (own_old w70) a20 a5 t_28 kt_29 t_13 kt_14 (own_sgn cc) cc 0 0 (own_mh a b) (a * b) (own_sgn ee) ee F_a20_narrow F_a20_bits A_t_28 F_a5_bits A_t_13 ne_a20_t_28 ne_a5_t_28 ne_t_13_t_28) (allS (P := fun x => x ∈ _) (by simp) all0) (argsL := [(.int (0 : Int32)), (.ref a5), (.int (0 : Int32))]) (rest := []) rfl rfl own_pd9 rfl own_d13_104 rfl (by decide) (W := 0) rfl (by decide) (by decide) (by decide) fun T76 h78 v79 ms80 w77 q81 => ?_
        obtain ⟨K82, rfl, rfl, nw_A_t_28⟩ := q81
        replace E_a5 := E_a5.keep K82
        replace F_a5_narrow := F_a5_narrow.keep K82 (ninS ne_a5_t_28 nin0)
        replace F_a5_bits := F_a5_bits.keep K82 (ninS ne_a5_t_28 nin0)
        replace E_a20 := E_a20.keep K82
        replace F_a20_narrow := F_a20_narrow.keep K82 (ninS ne_a20_t_28 nin0)
        replace F_a20_bits := F_a20_bits.keep K82 (ninS ne_a20_t_28 nin0)
        replace E_r_37 := E_r_37.keep K82
        replace F_r_37_low := F_r_37_low.keep K82 (ninS (Ne.symm ne_t_28_r_37) nin0)
        replace F_r_37_high := F_r_37_high.keep K82 (ninS (Ne.symm ne_t_28_r_37) nin0)
        replace E_r_45 := E_r_45.keep K82
        replace F_r_45_low := F_r_45_low.keep K82 (ninS (Ne.symm ne_t_28_r_45) nin0)
        replace F_r_45_high := F_r_45_high.keep K82 (ninS (Ne.symm ne_t_28_r_45) nin0)
        replace E_r_53 := E_r_53.keep K82
        replace F_r_53_low := F_r_53_low.keep K82 (ninS (Ne.symm ne_t_28_r_53) nin0)
        replace F_r_53_high := F_r_53_high.keep K82 (ninS (Ne.symm ne_t_28_r_53) nin0)
        replace A_t_13 := A_t_13.keep K82 (ninS ne_t_13_t_28 nin0)
        replace K := K.trans K82 (allS (P := fun x => x ∈ ([] : List Addr) ∨ h0.size ≤ x) (Or.inr nw_t_28) all0)
        have A_t_28 := nw_A_t_28; clear nw_A_t_28
        show own_Go Z EL n0 p e below s _ _ _ (T76.setTop (mkF m 107 #[.val (.long a), .second, .val (.long b), .second, .val (.long cc), .second, .val (.long ee), .second, .val (.int sel), .val (.int (0 : Int32)), .val (.int (0 : Int32)), .val (.int (0 : Int32)), .val (.ref a5), .val (.ref a20), .val (.ref r_53), .unset] []))
        refine own_iload (pc' := 109) w77 own_d13_107 rfl rfl ?_
        refine own_if (pc' := 112) w77 own_d13_109 rfl (by decide) (pcY := 121) rfl (fun (hb109 : (0 : Int32) = (0 : Int32)) => ?_) (fun (hb109 : ¬ (0 : Int32) = (0 : Int32)) => absurd hb109 (by decide))
        refine own_aload (pc' := 123) w77 own_d13_121 rfl rfl rfl ?_
        refine own_astore (pc' := 125) w77 own_d13_123 rfl (Ls' := #[.val (.long a), .second, .val (.long b), .second, .val (.long cc), .second, .val (.long ee), .second, .val (.int sel), .val (.int (0 : Int32)), .val (.int (0 : Int32)), .val (.int (0 : Int32)), .val (.ref a5), .val (.ref a20), .val (.ref r_53), .val (.ref r_53)]) rfl rfl ?_
        refine own_aload (pc' := 127) w77 own_d13_125 rfl rfl rfl ?_
        refine own_iload (pc' := 129) w77 own_d13_127 rfl rfl ?_
        refine own_callV (pc' := 132) w77 (hw _ (List.mem_of_getElem? (i := 59) rfl)) (hw _ (List.mem_of_getElem? (i := 60) rfl)) (fun s' hZ' => notFace_of_selects (args := #[]) (mvT hZ' (hw _ (List.mem_of_getElem? (i := 62) rfl)))) (hw _ (List.mem_of_getElem? (i := 62) rfl)) (hw _ (List.mem_of_getElem? (i := 61) rfl)) (hw _ (List.mem_of_getElem? (i := 2) rfl)) (hw _ (List.mem_of_getElem? (i := 63) rfl)) (by decide) E_a20 (own_ct_getW0 l Z a0 hw EL hE n0 [] h78 (own_old w77) a20 t_28 kt_29 (own_mh a b) (a * b) 0 0 F_a20_narrow F_a20_bits A_t_28) all0 (argsL := [(.int (0 : Int32))]) (rest := []) rfl rfl own_pd10 rfl own_d13_129 rfl (by decide) (W := 0) rfl (by decide) (by decide) (by decide) fun T83 h85 v86 ms87 w84 q88 => ?_
        obtain ⟨K90, r_89, rfl, rfl, nw_E_r_89, nw_F_r_89_low, nw_F_r_89_high, p129_getW0_0⟩ := q88
        have ne_a20_r_89 : a20 ≠ r_89 := Nat.ne_of_lt (Nat.lt_of_lt_of_le E_a20.lt p129_getW0_0)
        have ne_a5_r_89 : a5 ≠ r_89 := Nat.ne_of_lt (Nat.lt_of_lt_of_le E_a5.lt p129_getW0_0)
        have ne_r_37_r_89 : r_37 ≠ r_89 := Nat.ne_of_lt (Nat.lt_of_lt_of_le E_r_37.lt p129_getW0_0)
        have ne_r_45_r_89 : r_45 ≠ r_89 := Nat.ne_of_lt (Nat.lt_of_lt_of_le E_r_45.lt p129_getW0_0)
        have ne_r_53_r_89 : r_53 ≠ r_89 := Nat.ne_of_lt (Nat.lt_of_lt_of_le E_r_53.lt p129_getW0_0)
        have ne_t_13_r_89 : t_13 ≠ r_89 := Nat.ne_of_lt (Nat.lt_of_lt_of_le A_t_13.lt p129_getW0_0)
        have ne_t_28_r_89 : t_28 ≠ r_89 := Nat.ne_of_lt (Nat.lt_of_lt_of_le A_t_28.lt p129_getW0_0)
        have nw_r_89 : h0.size ≤ r_89 := Nat.le_trans K.1 p129_getW0_0
        replace E_a5 := E_a5.keep K90
        replace F_a5_narrow := F_a5_narrow.keep K90 nin0
        replace F_a5_bits := F_a5_bits.keep K90 nin0
        replace E_a20 := E_a20.keep K90
        replace F_a20_narrow := F_a20_narrow.keep K90 nin0
        replace F_a20_bits := F_a20_bits.keep K90 nin0
        replace E_r_37 := E_r_37.keep K90
        replace F_r_37_low := F_r_37_low.keep K90 nin0
        replace F_r_37_high := F_r_37_high.keep K90 nin0
        replace E_r_45 := E_r_45.keep K90
        replace F_r_45_low := F_r_45_low.keep K90 nin0
        replace F_r_45_high := F_r_45_high.keep K90 nin0
        replace E_r_53 := E_r_53.keep K90
        replace F_r_53_low := F_r_53_low.keep K90 nin0
        replace F_r_53_high := F_r_53_high.keep K90 nin0
        replace A_t_13 := A_t_13.keep K90 nin0
        replace A_t_28 := A_t_28.keep K90 nin0
        replace K := K.trans K90 all0
        have E_r_89 := nw_E_r_89; clear nw_E_r_89
        have F_r_89_low := nw_F_r_89_low; clear nw_F_r_89_low
        have F_r_89_high := nw_F_r_89_high; clear nw_F_r_89_high
        show own_Go Z EL n0 p e below s _ _ _ (T83.setTop (mkF m 132 #[.val (.long a), .second, .val (.long b), .second, .val (.long cc), .second, .val (.long ee), .second, .val (.int sel), .val (.int (0 : Int32)), .val (.int (0 : Int32)), .val (.int (0 : Int32)), .val (.ref a5), .val (.ref a20), .val (.ref r_53), .val (.ref r_53)] [(.ref r_89)]))
        refine own_aload (pc' := 134) w84 own_d13_132 rfl rfl rfl ?_
        refine own_callV (pc' := 137) w84 (hw _ (List.mem_of_getElem? (i := 65) rfl)) (hw _ (List.mem_of_getElem? (i := 66) rfl)) (fun s' hZ' => notFace_of_selects (args := #[]) (mvT hZ' (hw _ (List.mem_of_getElem? (i := 68) rfl)))) (hw _ (List.mem_of_getElem? (i := 68) rfl)) (hw _ (List.mem_of_getElem? (i := 67) rfl)) (hw _ (List.mem_of_getElem? (i := 18) rfl)) (hw _ (List.mem_of_getElem? (i := 69) rfl)) (by decide) E_r_89 (own_ct_ceq l Z a0 hw EL hE n0 [] h85 (own_old w84) r_89 r_53 (own_mh a b) (a * b) F_r_89_low F_r_89_high E_r_53 F_r_53_low F_r_53_high) all0 (argsL := [(.ref r_53)]) (rest := []) rfl rfl own_pd11 rfl own_d13_134 rfl (by decide) (W := 0) rfl (by decide) (by decide) (by decide) fun T91 h93 v94 ms95 w92 q96 => ?_
        obtain ⟨rfl, rfl, rfl⟩ := q96
        show own_Go Z EL n0 p e below s _ _ _ (T91.setTop (mkF m 137 #[.val (.long a), .second, .val (.long b), .second, .val (.long cc), .second, .val (.long ee), .second, .val (.int sel), .val (.int (0 : Int32)), .val (.int (0 : Int32)), .val (.int (0 : Int32)), .val (.ref a5), .val (.ref a20), .val (.ref r_53), .val (.ref r_53)] [(.int (1 : Int32))]))
        refine own_if (pc' := 140) w92 own_d13_137 rfl (by decide) (pcY := 171) rfl (fun (hb137 : (1 : Int32) = (0 : Int32)) => absurd hb137 (by decide)) (fun (hb137 : ¬ (1 : Int32) = (0 : Int32)) => ?_)
        refine own_aload (pc' := 142) w92 own_d13_140 rfl rfl rfl ?_
        refine own_iconst (pc' := 143) w92 own_d13_142 (x := (1 : Int32)) rfl rfl ?_
        refine own_iload (pc' := 145) w92 own_d13_143 rfl rfl ?_
        refine own_isub (pc' := 146) w92 own_d13_145 (z := (1 : Int32)) (by decide) rfl ?_
        refine own_callV (pc' := 149) w92 (hw _ (List.mem_of_getElem? (i := 71) rfl)) (hw _ (List.mem_of_getElem? (i := 72) rfl)) (fun s' hZ' => notFace_of_selects (args := #[]) (mvT hZ' (hw _ (List.mem_of_getElem? (i := 74) rfl)))) (hw _ (List.mem_of_getElem? (i := 74) rfl)) (hw _ (List.mem_of_getElem? (i := 73) rfl)) (hw _ (List.mem_of_getElem? (i := 2) rfl)) (hw _ (List.mem_of_getElem? (i := 75) rfl)) (by decide) E_a20 (own_ct_sigW1 l Z a0 hw EL hE n0 [] h85 (own_old w92) a20 t_28 kt_29 (own_mh a b) (a * b) F_a20_narrow F_a20_bits A_t_28) all0 (argsL := [(.int (1 : Int32))]) (rest := []) rfl rfl own_pd12 rfl own_d13_146 rfl (by decide) (W := 0) rfl (by decide) (by decide) (by decide) fun T97 h99 v100 ms101 w98 q102 => ?_
        obtain ⟨rfl, rfl, rfl⟩ := q102
        show own_Go Z EL n0 p e below s _ _ _ (T97.setTop (mkF m 149 #[.val (.long a), .second, .val (.long b), .second, .val (.long cc), .second, .val (.long ee), .second, .val (.int sel), .val (.int (0 : Int32)), .val (.int (0 : Int32)), .val (.int (0 : Int32)), .val (.ref a5), .val (.ref a20), .val (.ref r_53), .val (.ref r_53)] [(.int (0 : Int32))]))
        refine own_if (pc' := 152) w98 own_d13_149 rfl (by decide) (pcY := 171) rfl (fun (hb149 : ¬ (0 : Int32) = (0 : Int32)) => absurd hb149 (by decide)) (fun (hb149 : (0 : Int32) = (0 : Int32)) => ?_)
        refine own_aload (pc' := 154) w98 own_d13_152 rfl rfl rfl ?_
        refine own_iload (pc' := 156) w98 own_d13_154 rfl rfl ?_
        refine own_callV (pc' := 159) w98 (hw _ (List.mem_of_getElem? (i := 59) rfl)) (hw _ (List.mem_of_getElem? (i := 60) rfl)) (fun s' hZ' => notFace_of_selects (args := #[]) (mvT hZ' (hw _ (List.mem_of_getElem? (i := 62) rfl)))) (hw _ (List.mem_of_getElem? (i := 62) rfl)) (hw _ (List.mem_of_getElem? (i := 61) rfl)) (hw _ (List.mem_of_getElem? (i := 2) rfl)) (hw _ (List.mem_of_getElem? (i := 63) rfl)) (by decide) E_a5 (own_ct_getW0 l Z a0 hw EL hE n0 [] h85 (own_old w98) a5 t_13 kt_14 (own_mh a b) (a * b) (own_sgn ee) ee F_a5_narrow F_a5_bits A_t_13) all0 (argsL := [(.int (0 : Int32))]) (rest := []) rfl rfl own_pd10 rfl own_d13_156 rfl (by decide) (W := 0) rfl (by decide) (by decide) (by decide) fun T103 h105 v106 ms107 w104 q108 => ?_
        obtain ⟨K110, r_109, rfl, rfl, nw_E_r_109, nw_F_r_109_low, nw_F_r_109_high, p156_getW0_0⟩ := q108
        have ne_a20_r_109 : a20 ≠ r_109 := Nat.ne_of_lt (Nat.lt_of_lt_of_le E_a20.lt p156_getW0_0)
        have ne_a5_r_109 : a5 ≠ r_109 := Nat.ne_of_lt (Nat.lt_of_lt_of_le E_a5.lt p156_getW0_0)
        have ne_r_37_r_109 : r_37 ≠ r_109 := Nat.ne_of_lt (Nat.lt_of_lt_of_le E_r_37.lt p156_getW0_0)
        have ne_r_45_r_109 : r_45 ≠ r_109 := Nat.ne_of_lt (Nat.lt_of_lt_of_le E_r_45.lt p156_getW0_0)
        have ne_r_53_r_109 : r_53 ≠ r_109 := Nat.ne_of_lt (Nat.lt_of_lt_of_le E_r_53.lt p156_getW0_0)
        have ne_r_89_r_109 : r_89 ≠ r_109 := Nat.ne_of_lt (Nat.lt_of_lt_of_le E_r_89.lt p156_getW0_0)
        have ne_t_13_r_109 : t_13 ≠ r_109 := Nat.ne_of_lt (Nat.lt_of_lt_of_le A_t_13.lt p156_getW0_0)
        have ne_t_28_r_109 : t_28 ≠ r_109 := Nat.ne_of_lt (Nat.lt_of_lt_of_le A_t_28.lt p156_getW0_0)
        have nw_r_109 : h0.size ≤ r_109 := Nat.le_trans K.1 p156_getW0_0
        replace E_a5 := E_a5.keep K110
        replace F_a5_narrow := F_a5_narrow.keep K110 nin0
        replace F_a5_bits := F_a5_bits.keep K110 nin0
        replace E_a20 := E_a20.keep K110
        replace F_a20_narrow := F_a20_narrow.keep K110 nin0
        replace F_a20_bits := F_a20_bits.keep K110 nin0
        replace E_r_37 := E_r_37.keep K110
        replace F_r_37_low := F_r_37_low.keep K110 nin0
        replace F_r_37_high := F_r_37_high.keep K110 nin0
        replace E_r_45 := E_r_45.keep K110
        replace F_r_45_low := F_r_45_low.keep K110 nin0
        replace F_r_45_high := F_r_45_high.keep K110 nin0
        replace E_r_53 := E_r_53.keep K110
        replace F_r_53_low := F_r_53_low.keep K110 nin0
        replace F_r_53_high := F_r_53_high.keep K110 nin0
        replace A_t_13 := A_t_13.keep K110 nin0
        replace A_t_28 := A_t_28.keep K110 nin0
        replace E_r_89 := E_r_89.keep K110
        replace F_r_89_low := F_r_89_low.keep K110 nin0
        replace F_r_89_high := F_r_89_high.keep K110 nin0
        replace K := K.trans K110 all0
        have E_r_109 := nw_E_r_109; clear nw_E_r_109
        have F_r_109_low := nw_F_r_109_low; clear nw_F_r_109_low
        have F_r_109_high := nw_F_r_109_high; clear nw_F_r_109_high
        show own_Go Z EL n0 p e below s _ _ _ (T103.setTop (mkF m 159 #[.val (.long a), .second, .val (.long b), .second, .val (.long cc), .second, .val (.long ee), .second, .val (.int sel), .val (.int (0 : Int32)), .val (.int (0 : Int32)), .val (.int (0 : Int32)), .val (.ref a5), .val (.ref a20), .val (.ref r_53), .val (.ref r_53)] [(.ref r_109)]))
        refine own_aload (pc' := 161) w104 own_d13_159 rfl rfl rfl ?_
        refine own_callV (pc' := 164) w104 (hw _ (List.mem_of_getElem? (i := 65) rfl)) (hw _ (List.mem_of_getElem? (i := 66) rfl)) (fun s' hZ' => notFace_of_selects (args := #[]) (mvT hZ' (hw _ (List.mem_of_getElem? (i := 68) rfl)))) (hw _ (List.mem_of_getElem? (i := 68) rfl)) (hw _ (List.mem_of_getElem? (i := 67) rfl)) (hw _ (List.mem_of_getElem? (i := 18) rfl)) (hw _ (List.mem_of_getElem? (i := 69) rfl)) (by decide) E_r_109 (own_ct_ceq l Z a0 hw EL hE n0 [] h105 (own_old w104) r_109 r_53 (own_mh a b) (a * b) F_r_109_low F_r_109_high E_r_53 F_r_53_low F_r_53_high) all0 (argsL := [(.ref r_53)]) (rest := []) rfl rfl own_pd11 rfl own_d13_161 rfl (by decide) (W := 0) rfl (by decide) (by decide) (by decide) fun T111 h113 v114 ms115 w112 q116 => ?_
        obtain ⟨rfl, rfl, rfl⟩ := q116
        show own_Go Z EL n0 p e below s _ _ _ (T111.setTop (mkF m 164 #[.val (.long a), .second, .val (.long b), .second, .val (.long cc), .second, .val (.long ee), .second, .val (.int sel), .val (.int (0 : Int32)), .val (.int (0 : Int32)), .val (.int (0 : Int32)), .val (.ref a5), .val (.ref a20), .val (.ref r_53), .val (.ref r_53)] [(.int (1 : Int32))]))
        refine own_if (pc' := 167) w112 own_d13_164 rfl (by decide) (pcY := 171) rfl (fun (hb164 : (1 : Int32) = (0 : Int32)) => absurd hb164 (by decide)) (fun (hb164 : ¬ (1 : Int32) = (0 : Int32)) => ?_)
        refine own_iconst (pc' := 168) w112 own_d13_167 (x := (1 : Int32)) rfl rfl ?_
        refine own_goto w112 own_d13_168 (by decide) (pc' := 172) rfl ?_
        exact own_retV w112 (t := .boolean) rfl rfl (Or.inl ⟨rfl, by simp, _, rfl⟩) own_d13_172 (by decide) (by decide) (ms' := []) all0 ⟨K, rfl, rfl⟩
      · -- t01
        refine own_iand (pc' := 28) w0 own_d13_27 (z := (1 : Int32)) hat rfl ?_
        refine own_istore (pc' := 30) w0 own_d13_28 (Ls' := #[.val (.long a), .second, .val (.long b), .second, .val (.long cc), .second, .val (.long ee), .second, .val (.int sel), .val (.int (0 : Int32)), .val (.int (0 : Int32)), .val (.int (1 : Int32)), .unset, .unset, .unset, .unset]) rfl rfl ?_
        refine own_newO (pc' := 33) w0 (hw _ (List.mem_of_getElem? (i := 0) rfl)) (hw _ (List.mem_of_getElem? (i := 1) rfl)) (hw _ (List.mem_of_getElem? (i := 2) rfl)) own_d13_30 rfl (by decide) (by decide) fun T117 h119 a121 g_a121 w118 E120 ⟨E_a121, D122⟩ => ?_
        have nw_a121 : h0.size ≤ a121 := Nat.le_trans K.1 (Nat.le_of_eq g_a121)
        replace K := K.ext E120
        have F_a121_product : Fld Z h119 a121 "com/example/throng/throng/engine/Count$Array" "product" "[J" .null := D122 (Or.inr (hw _ (List.mem_of_getElem? (i := 11) rfl))) (ty := (.array .long)) (by decide)
        have F_a121_narrow : Fld Z h119 a121 "com/example/throng/throng/engine/Count$Array" "narrow" "Z" (.int 0) := D122 (Or.inr (hw _ (List.mem_of_getElem? (i := 13) rfl))) (ty := .boolean) (by decide)
        have F_a121_bits : Fld Z h119 a121 "com/example/throng/throng/engine/Count$Array" "bits" "[J" .null := D122 (Or.inr (hw _ (List.mem_of_getElem? (i := 15) rfl))) (ty := (.array .long)) (by decide)
        refine own_dup (pc' := 34) w118 own_d13_33 rfl rfl ?_
        refine own_iconst (pc' := 35) w118 own_d13_34 (x := (2 : Int32)) rfl rfl ?_
        refine own_iload (pc' := 37) w118 own_d13_35 rfl rfl ?_
        refine own_callI (pc' := 40) w118 rfl (hw _ (List.mem_of_getElem? (i := 3) rfl)) (hw _ (List.mem_of_getElem? (i := 4) rfl)) (hw _ (List.mem_of_getElem? (i := 2) rfl)) (hw _ (List.mem_of_getElem? (i := 5) rfl)) (by decide) (own_ct_aInitW l Z a0 hw EL hE n0 [] h119 (own_old w118) a121 .null (.int 0) .null E_a121 F_a121_product F_a121_narrow F_a121_bits) (allS (P := fun x => x ∈ _) (by simp) all0) (argsL := [(.int (2 : Int32)), (.int (0 : Int32))]) (rest := [(.ref a121)]) rfl rfl own_pd5 rfl own_d13_37 rfl (by decide) (W := 1) rfl (by decide) (by decide) (by decide) fun T123 h125 v126 ms127 w124 q128 => ?_
        obtain ⟨K131, t_129, kt_130, rfl, rfl, nw_E_a121, nw_F_a121_narrow, nw_F_a121_bits, nw_A_t_129, p37_aInitW_0⟩ := q128
        have ne_a121_t_129 : a121 ≠ t_129 := Nat.ne_of_lt (Nat.lt_of_lt_of_le E_a121.lt p37_aInitW_0)
        have nw_t_129 : h0.size ≤ t_129 := Nat.le_trans K.1 p37_aInitW_0
        replace K := K.trans K131 (allS (P := fun x => x ∈ ([] : List Addr) ∨ h0.size ≤ x) (Or.inr nw_a121) all0)
        have E_a121 := nw_E_a121; clear nw_E_a121
        have F_a121_narrow := nw_F_a121_narrow; clear nw_F_a121_narrow
        have F_a121_bits := nw_F_a121_bits; clear nw_F_a121_bits
        have A_t_129 := nw_A_t_129; clear nw_A_t_129
        show own_Go Z EL n0 p e below s _ _ _ (T123.setTop (mkF m 40 #[.val (.long a), .second, .val (.long b), .second, .val (.long cc), .second, .val (.long ee), .second, .val (.int sel), .val (.int (0 : Int32)), .val (.int (0 : Int32)), .val (.int (1 : Int32)), .unset, .unset, .unset, .unset] [(.ref a121)]))
        refine own_astore (pc' := 42) w124 own_d13_40 rfl (Ls' := #[.val (.long a), .second, .val (.long b), .second, .val (.long cc), .second, .val (.long ee), .second, .val (.int sel), .val (.int (0 : Int32)), .val (.int (0 : Int32)), .val (.int (1 : Int32)), .val (.ref a121), .unset, .unset, .unset]) rfl rfl ?_
        refine own_newO (pc' := 45) w124 (hw _ (List.mem_of_getElem? (i := 0) rfl)) (hw _ (List.mem_of_getElem? (i := 1) rfl)) (hw _ (List.mem_of_getElem? (i := 2) rfl)) own_d13_42 rfl (by decide) (by decide) fun T132 h134 a136 g_a136 w133 E135 ⟨E_a136, D137⟩ => ?_
        have ne_a121_a136 : a121 ≠ a136 := Nat.ne_of_lt (Nat.lt_of_lt_of_le E_a121.lt (Nat.le_of_eq g_a136))
        have ne_t_129_a136 : t_129 ≠ a136 := Nat.ne_of_lt (Nat.lt_of_lt_of_le A_t_129.lt (Nat.le_of_eq g_a136))
        have nw_a136 : h0.size ≤ a136 := Nat.le_trans K.1 (Nat.le_of_eq g_a136)
        replace E_a121 := E_a121.ext E135
        replace F_a121_narrow := F_a121_narrow.ext E135
        replace F_a121_bits := F_a121_bits.ext E135
        replace A_t_129 := A_t_129.ext E135
        replace K := K.ext E135
        have F_a136_product : Fld Z h134 a136 "com/example/throng/throng/engine/Count$Array" "product" "[J" .null := D137 (Or.inr (hw _ (List.mem_of_getElem? (i := 11) rfl))) (ty := (.array .long)) (by decide)
        have F_a136_narrow : Fld Z h134 a136 "com/example/throng/throng/engine/Count$Array" "narrow" "Z" (.int 0) := D137 (Or.inr (hw _ (List.mem_of_getElem? (i := 13) rfl))) (ty := .boolean) (by decide)
        have F_a136_bits : Fld Z h134 a136 "com/example/throng/throng/engine/Count$Array" "bits" "[J" .null := D137 (Or.inr (hw _ (List.mem_of_getElem? (i := 15) rfl))) (ty := (.array .long)) (by decide)
        refine own_dup (pc' := 46) w133 own_d13_45 rfl rfl ?_
        refine own_iconst (pc' := 47) w133 own_d13_46 (x := (2 : Int32)) rfl rfl ?_
        refine own_iload (pc' := 49) w133 own_d13_47 rfl rfl ?_
        refine own_callI (pc' := 52) w133 rfl (hw _ (List.mem_of_getElem? (i := 3) rfl)) (hw _ (List.mem_of_getElem? (i := 4) rfl)) (hw _ (List.mem_of_getElem? (i := 2) rfl)) (hw _ (List.mem_of_getElem? (i := 5) rfl)) (by decide) (own_ct_aInitW l Z a0 hw EL hE n0 [] h134 (own_old w133) a136 .null (.int 0) .null E_a136 F_a136_product F_a136_narrow F_a136_bits) (allS (P := fun x => x ∈ _) (by simp) all0) (argsL := [(.int (2 : Int32)), (.int (0 : Int32))]) (rest := [(.ref a136)]) rfl rfl own_pd5 rfl own_d13_49 rfl (by decide) (W := 1) rfl (by decide) (by decide) (by decide) fun T138 h140 v141 ms142 w139 q143 => ?_
        obtain ⟨K146, t_144, kt_145, rfl, rfl, nw_E_a136, nw_F_a136_narrow, nw_F_a136_bits, nw_A_t_144, p49_aInitW_0⟩ := q143
        have ne_a121_t_144 : a121 ≠ t_144 := Nat.ne_of_lt (Nat.lt_of_lt_of_le E_a121.lt p49_aInitW_0)
        have ne_a136_t_144 : a136 ≠ t_144 := Nat.ne_of_lt (Nat.lt_of_lt_of_le E_a136.lt p49_aInitW_0)
        have ne_t_129_t_144 : t_129 ≠ t_144 := Nat.ne_of_lt (Nat.lt_of_lt_of_le A_t_129.lt p49_aInitW_0)
        have nw_t_144 : h0.size ≤ t_144 := Nat.le_trans K.1 p49_aInitW_0
        replace E_a121 := E_a121.keep K146
        replace F_a121_narrow := F_a121_narrow.keep K146 (ninS ne_a121_a136 nin0)
        replace F_a121_bits := F_a121_bits.keep K146 (ninS ne_a121_a136 nin0)
        replace A_t_129 := A_t_129.keep K146 (ninS ne_t_129_a136 nin0)
        replace K := K.trans K146 (allS (P := fun x => x ∈ ([] : List Addr) ∨ h0.size ≤ x) (Or.inr nw_a136) all0)
        have E_a136 := nw_E_a136; clear nw_E_a136
        have F_a136_narrow := nw_F_a136_narrow; clear nw_F_a136_narrow
        have F_a136_bits := nw_F_a136_bits; clear nw_F_a136_bits
        have A_t_144 := nw_A_t_144; clear nw_A_t_144
        show own_Go Z EL n0 p e below s _ _ _ (T138.setTop (mkF m 52 #[.val (.long a), .second, .val (.long b), .second, .val (.long cc), .second, .val (.long ee), .second, .val (.int sel), .val (.int (0 : Int32)), .val (.int (0 : Int32)), .val (.int (1 : Int32)), .val (.ref a121), .unset, .unset, .unset] [(.ref a136)]))
        refine own_astore (pc' := 54) w139 own_d13_52 rfl (Ls' := #[.val (.long a), .second, .val (.long b), .second, .val (.long cc), .second, .val (.long ee), .second, .val (.int sel), .val (.int (0 : Int32)), .val (.int (0 : Int32)), .val (.int (1 : Int32)), .val (.ref a121), .val (.ref a136), .unset, .unset]) rfl rfl ?_
        refine own_lloadN (pc' := 55) w139 own_d13_54 rfl rfl ?_
        refine own_callS (pc' := 58) w139 (hw _ (List.mem_of_getElem? (i := 16) rfl)) (hw _ (List.mem_of_getElem? (i := 17) rfl)) (hw _ (List.mem_of_getElem? (i := 18) rfl)) (hw _ (List.mem_of_getElem? (i := 19) rfl)) (by decide) (own_ct_cOf l Z a0 hw EL hE n0 [] h140 (own_old w139) a ) all0 (argsL := [(.long a)]) (rest := []) rfl rfl own_pd4 rfl own_d13_55 rfl (by decide) (W := 0) rfl (by decide) (by decide) (by decide) fun T147 h149 v150 ms151 w148 q152 => ?_
        obtain ⟨K154, r_153, rfl, rfl, nw_E_r_153, nw_F_r_153_low, nw_F_r_153_high, p55_cOf_0⟩ := q152
        have ne_a121_r_153 : a121 ≠ r_153 := Nat.ne_of_lt (Nat.lt_of_lt_of_le E_a121.lt p55_cOf_0)
        have ne_a136_r_153 : a136 ≠ r_153 := Nat.ne_of_lt (Nat.lt_of_lt_of_le E_a136.lt p55_cOf_0)
        have ne_t_129_r_153 : t_129 ≠ r_153 := Nat.ne_of_lt (Nat.lt_of_lt_of_le A_t_129.lt p55_cOf_0)
        have ne_t_144_r_153 : t_144 ≠ r_153 := Nat.ne_of_lt (Nat.lt_of_lt_of_le A_t_144.lt p55_cOf_0)
        have nw_r_153 : h0.size ≤ r_153 := Nat.le_trans K.1 p55_cOf_0
        replace E_a121 := E_a121.keep K154
        replace F_a121_narrow := F_a121_narrow.keep K154 nin0
        replace F_a121_bits := F_a121_bits.keep K154 nin0
        replace A_t_129 := A_t_129.keep K154 nin0
        replace E_a136 := E_a136.keep K154
        replace F_a136_narrow := F_a136_narrow.keep K154 nin0
        replace F_a136_bits := F_a136_bits.keep K154 nin0
        replace A_t_144 := A_t_144.keep K154 nin0
        replace K := K.trans K154 all0
        have E_r_153 := nw_E_r_153; clear nw_E_r_153
        have F_r_153_low := nw_F_r_153_low; clear nw_F_r_153_low
        have F_r_153_high := nw_F_r_153_high; clear nw_F_r_153_high
        show own_Go Z EL n0 p e below s _ _ _ (T147.setTop (mkF m 58 #[.val (.long a), .second, .val (.long b), .second, .val (.long cc), .second, .val (.long ee), .second, .val (.int sel), .val (.int (0 : Int32)), .val (.int (0 : Int32)), .val (.int (1 : Int32)), .val (.ref a121), .val (.ref a136), .unset, .unset] [(.ref r_153)]))
        refine own_lloadN (pc' := 59) w148 own_d13_58 rfl rfl ?_
        refine own_callS (pc' := 62) w148 (hw _ (List.mem_of_getElem? (i := 16) rfl)) (hw _ (List.mem_of_getElem? (i := 17) rfl)) (hw _ (List.mem_of_getElem? (i := 18) rfl)) (hw _ (List.mem_of_getElem? (i := 19) rfl)) (by decide) (own_ct_cOf l Z a0 hw EL hE n0 [] h149 (own_old w148) b ) all0 (argsL := [(.long b)]) (rest := [(.ref r_153)]) rfl rfl own_pd4 rfl own_d13_59 rfl (by decide) (W := 1) rfl (by decide) (by decide) (by decide) fun T155 h157 v158 ms159 w156 q160 => ?_
        obtain ⟨K162, r_161, rfl, rfl, nw_E_r_161, nw_F_r_161_low, nw_F_r_161_high, p59_cOf_0⟩ := q160
        have ne_a121_r_161 : a121 ≠ r_161 := Nat.ne_of_lt (Nat.lt_of_lt_of_le E_a121.lt p59_cOf_0)
        have ne_a136_r_161 : a136 ≠ r_161 := Nat.ne_of_lt (Nat.lt_of_lt_of_le E_a136.lt p59_cOf_0)
        have ne_r_153_r_161 : r_153 ≠ r_161 := Nat.ne_of_lt (Nat.lt_of_lt_of_le E_r_153.lt p59_cOf_0)
        have ne_t_129_r_161 : t_129 ≠ r_161 := Nat.ne_of_lt (Nat.lt_of_lt_of_le A_t_129.lt p59_cOf_0)
        have ne_t_144_r_161 : t_144 ≠ r_161 := Nat.ne_of_lt (Nat.lt_of_lt_of_le A_t_144.lt p59_cOf_0)
        have nw_r_161 : h0.size ≤ r_161 := Nat.le_trans K.1 p59_cOf_0
        replace E_a121 := E_a121.keep K162
        replace F_a121_narrow := F_a121_narrow.keep K162 nin0
        replace F_a121_bits := F_a121_bits.keep K162 nin0
        replace A_t_129 := A_t_129.keep K162 nin0
        replace E_a136 := E_a136.keep K162
        replace F_a136_narrow := F_a136_narrow.keep K162 nin0
        replace F_a136_bits := F_a136_bits.keep K162 nin0
        replace A_t_144 := A_t_144.keep K162 nin0
        replace E_r_153 := E_r_153.keep K162
        replace F_r_153_low := F_r_153_low.keep K162 nin0
        replace F_r_153_high := F_r_153_high.keep K162 nin0
        replace K := K.trans K162 all0
        have E_r_161 := nw_E_r_161; clear nw_E_r_161
        have F_r_161_low := nw_F_r_161_low; clear nw_F_r_161_low
        have F_r_161_high := nw_F_r_161_high; clear nw_F_r_161_high
        show own_Go Z EL n0 p e below s _ _ _ (T155.setTop (mkF m 62 #[.val (.long a), .second, .val (.long b), .second, .val (.long cc), .second, .val (.long ee), .second, .val (.int sel), .val (.int (0 : Int32)), .val (.int (0 : Int32)), .val (.int (1 : Int32)), .val (.ref a121), .val (.ref a136), .unset, .unset] [(.ref r_161), (.ref r_153)]))
        refine own_callV (pc' := 65) w156 (hw _ (List.mem_of_getElem? (i := 30) rfl)) (hw _ (List.mem_of_getElem? (i := 31) rfl)) (fun s' hZ' => notFace_of_selects (args := #[]) (mvT hZ' (hw _ (List.mem_of_getElem? (i := 33) rfl)))) (hw _ (List.mem_of_getElem? (i := 33) rfl)) (hw _ (List.mem_of_getElem? (i := 32) rfl)) (hw _ (List.mem_of_getElem? (i := 18) rfl)) (hw _ (List.mem_of_getElem? (i := 34) rfl)) (by decide) E_r_153 (own_ct_times l Z a0 hw EL hE n0 [] h157 (own_old w156) r_153 r_161 a b F_r_153_low F_r_153_high F_r_161_low F_r_161_high) all0 (argsL := [(.ref r_161)]) (rest := []) rfl rfl own_pd6 rfl own_d13_62 rfl (by decide) (W := 0) rfl (by decide) (by decide) (by decide) fun T163 h165 v166 ms167 w164 q168 => ?_
        obtain ⟨K170, r_169, rfl, rfl, nw_E_r_169, nw_F_r_169_low, nw_F_r_169_high, p62_times_0⟩ := q168
        have ne_a121_r_169 : a121 ≠ r_169 := Nat.ne_of_lt (Nat.lt_of_lt_of_le E_a121.lt p62_times_0)
        have ne_a136_r_169 : a136 ≠ r_169 := Nat.ne_of_lt (Nat.lt_of_lt_of_le E_a136.lt p62_times_0)
        have ne_r_153_r_169 : r_153 ≠ r_169 := Nat.ne_of_lt (Nat.lt_of_lt_of_le E_r_153.lt p62_times_0)
        have ne_r_161_r_169 : r_161 ≠ r_169 := Nat.ne_of_lt (Nat.lt_of_lt_of_le E_r_161.lt p62_times_0)
        have ne_t_129_r_169 : t_129 ≠ r_169 := Nat.ne_of_lt (Nat.lt_of_lt_of_le A_t_129.lt p62_times_0)
        have ne_t_144_r_169 : t_144 ≠ r_169 := Nat.ne_of_lt (Nat.lt_of_lt_of_le A_t_144.lt p62_times_0)
        have nw_r_169 : h0.size ≤ r_169 := Nat.le_trans K.1 p62_times_0
        replace E_a121 := E_a121.keep K170
        replace F_a121_narrow := F_a121_narrow.keep K170 nin0
        replace F_a121_bits := F_a121_bits.keep K170 nin0
        replace A_t_129 := A_t_129.keep K170 nin0
        replace E_a136 := E_a136.keep K170
        replace F_a136_narrow := F_a136_narrow.keep K170 nin0
        replace F_a136_bits := F_a136_bits.keep K170 nin0
        replace A_t_144 := A_t_144.keep K170 nin0
        replace E_r_153 := E_r_153.keep K170
        replace F_r_153_low := F_r_153_low.keep K170 nin0
        replace F_r_153_high := F_r_153_high.keep K170 nin0
        replace E_r_161 := E_r_161.keep K170
        replace F_r_161_low := F_r_161_low.keep K170 nin0
        replace F_r_161_high := F_r_161_high.keep K170 nin0
        replace K := K.trans K170 all0
        have E_r_169 := nw_E_r_169; clear nw_E_r_169
        have F_r_169_low := nw_F_r_169_low; clear nw_F_r_169_low
        have F_r_169_high := nw_F_r_169_high; clear nw_F_r_169_high
        show own_Go Z EL n0 p e below s _ _ _ (T163.setTop (mkF m 65 #[.val (.long a), .second, .val (.long b), .second, .val (.long cc), .second, .val (.long ee), .second, .val (.int sel), .val (.int (0 : Int32)), .val (.int (0 : Int32)), .val (.int (1 : Int32)), .val (.ref a121), .val (.ref a136), .unset, .unset] [(.ref r_169)]))
        refine own_astore (pc' := 67) w164 own_d13_65 rfl (Ls' := #[.val (.long a), .second, .val (.long b), .second, .val (.long cc), .second, .val (.long ee), .second, .val (.int sel), .val (.int (0 : Int32)), .val (.int (0 : Int32)), .val (.int (1 : Int32)), .val (.ref a121), .val (.ref a136), .val (.ref r_169), .unset]) rfl rfl ?_
        refine own_aload (pc' := 69) w164 own_d13_67 rfl rfl rfl ?_
        refine own_iload (pc' := 71) w164 own_d13_69 rfl rfl ?_
        refine own_aload (pc' := 73) w164 own_d13_71 rfl rfl rfl ?_
        refine own_callV (pc' := 76) w164 (hw _ (List.mem_of_getElem? (i := 43) rfl)) (hw _ (List.mem_of_getElem? (i := 44) rfl)) (fun s' hZ' => notFace_of_selects (args := #[]) (mvT hZ' (hw _ (List.mem_of_getElem? (i := 46) rfl)))) (hw _ (List.mem_of_getElem? (i := 46) rfl)) (hw _ (List.mem_of_getElem? (i := 45) rfl)) (hw _ (List.mem_of_getElem? (i := 2) rfl)) (hw _ (List.mem_of_getElem? (i := 47) rfl)) (by decide) E_a121 (own_ct_setCW1 l Z a0 hw EL hE n0 [] h165 (own_old w164) a121 r_169 t_129 kt_130 (own_mh a b) (a * b) 0 0 0 0 F_a121_narrow F_a121_bits A_t_129 F_r_169_low F_r_169_high ne_a121_t_129 (Ne.symm ne_t_129_r_169)) (allS (P := fun x => x ∈ _) (by simp) all0) (argsL := [(.int (1 : Int32)), (.ref r_169)]) (rest := []) rfl rfl own_pd7 rfl own_d13_73 rfl (by decide) (W := 0) rfl (by decide) (by decide) (by decide) fun T171 h173 v174 ms175 w172 q176 => ?_
        obtain ⟨K177, rfl, rfl, nw_A_t_129⟩ := q176
        replace E_a121 := E_a121.keep K177
        replace F_a121_narrow := F_a121_narrow.keep K177 (ninS ne_a121_t_129 nin0)
        replace F_a121_bits := F_a121_bits.keep K177 (ninS ne_a121_t_129 nin0)
        replace E_a136 := E_a136.keep K177
        replace F_a136_narrow := F_a136_narrow.keep K177 (ninS (Ne.symm ne_t_129_a136) nin0)
        replace F_a136_bits := F_a136_bits.keep K177 (ninS (Ne.symm ne_t_129_a136) nin0)
        replace A_t_144 := A_t_144.keep K177 (ninS (Ne.symm ne_t_129_t_144) nin0)
        replace E_r_153 := E_r_153.keep K177
        replace F_r_153_low := F_r_153_low.keep K177 (ninS (Ne.symm ne_t_129_r_153) nin0)
        replace F_r_153_high := F_r_153_high.keep K177 (ninS (Ne.symm ne_t_129_r_153) nin0)
        replace E_r_161 := E_r_161.keep K177
        replace F_r_161_low := F_r_161_low.keep K177 (ninS (Ne.symm ne_t_129_r_161) nin0)
        replace F_r_161_high := F_r_161_high.keep K177 (ninS (Ne.symm ne_t_129_r_161) nin0)
        replace E_r_169 := E_r_169.keep K177
        replace F_r_169_low := F_r_169_low.keep K177 (ninS (Ne.symm ne_t_129_r_169) nin0)
        replace F_r_169_high := F_r_169_high.keep K177 (ninS (Ne.symm ne_t_129_r_169) nin0)
        replace K := K.trans K177 (allS (P := fun x => x ∈ ([] : List Addr) ∨ h0.size ≤ x) (Or.inr nw_t_129) all0)
        have A_t_129 := nw_A_t_129; clear nw_A_t_129
        show own_Go Z EL n0 p e below s _ _ _ (T171.setTop (mkF m 76 #[.val (.long a), .second, .val (.long b), .second, .val (.long cc), .second, .val (.long ee), .second, .val (.int sel), .val (.int (0 : Int32)), .val (.int (0 : Int32)), .val (.int (1 : Int32)), .val (.ref a121), .val (.ref a136), .val (.ref r_169), .unset] []))
        refine own_aload (pc' := 78) w172 own_d13_76 rfl rfl rfl ?_
        refine own_iconst (pc' := 79) w172 own_d13_78 (x := (1 : Int32)) rfl rfl ?_
        refine own_iload (pc' := 81) w172 own_d13_79 rfl rfl ?_
        refine own_isub (pc' := 82) w172 own_d13_81 (z := (0 : Int32)) (by decide) rfl ?_
        refine own_lload (pc' := 84) w172 own_d13_82 rfl rfl ?_
        refine own_callV (pc' := 87) w172 (hw _ (List.mem_of_getElem? (i := 49) rfl)) (hw _ (List.mem_of_getElem? (i := 50) rfl)) (fun s' hZ' => notFace_of_selects (args := #[]) (mvT hZ' (hw _ (List.mem_of_getElem? (i := 52) rfl)))) (hw _ (List.mem_of_getElem? (i := 52) rfl)) (hw _ (List.mem_of_getElem? (i := 51) rfl)) (hw _ (List.mem_of_getElem? (i := 2) rfl)) (hw _ (List.mem_of_getElem? (i := 53) rfl)) (by decide) E_a121 (own_ct_setJW0 l Z a0 hw EL hE n0 [] h173 (own_old w172) a121 ee t_129 kt_130 0 0 (own_mh a b) (a * b) F_a121_narrow F_a121_bits A_t_129 ne_a121_t_129) (allS (P := fun x => x ∈ _) (by simp) all0) (argsL := [(.int (0 : Int32)), (.long ee)]) (rest := []) rfl rfl own_pd8 rfl own_d13_84 rfl (by decide) (W := 0) rfl (by decide) (by decide) (by decide) fun T178 h180 v181 ms182 w179 q183 => ?_
        obtain ⟨K184, rfl, rfl, nw_A_t_129⟩ := q183
        replace E_a121 := E_a121.keep K184
        replace F_a121_narrow := F_a121_narrow.keep K184 (ninS ne_a121_t_129 nin0)
        replace F_a121_bits := F_a121_bits.keep K184 (ninS ne_a121_t_129 nin0)
        replace E_a136 := E_a136.keep K184
        replace F_a136_narrow := F_a136_narrow.keep K184 (ninS (Ne.symm ne_t_129_a136) nin0)
        replace F_a136_bits := F_a136_bits.keep K184 (ninS (Ne.symm ne_t_129_a136) nin0)
        replace A_t_144 := A_t_144.keep K184 (ninS (Ne.symm ne_t_129_t_144) nin0)
        replace E_r_153 := E_r_153.keep K184
        replace F_r_153_low := F_r_153_low.keep K184 (ninS (Ne.symm ne_t_129_r_153) nin0)
        replace F_r_153_high := F_r_153_high.keep K184 (ninS (Ne.symm ne_t_129_r_153) nin0)
        replace E_r_161 := E_r_161.keep K184
        replace F_r_161_low := F_r_161_low.keep K184 (ninS (Ne.symm ne_t_129_r_161) nin0)
        replace F_r_161_high := F_r_161_high.keep K184 (ninS (Ne.symm ne_t_129_r_161) nin0)
        replace E_r_169 := E_r_169.keep K184
        replace F_r_169_low := F_r_169_low.keep K184 (ninS (Ne.symm ne_t_129_r_169) nin0)
        replace F_r_169_high := F_r_169_high.keep K184 (ninS (Ne.symm ne_t_129_r_169) nin0)
        replace K := K.trans K184 (allS (P := fun x => x ∈ ([] : List Addr) ∨ h0.size ≤ x) (Or.inr nw_t_129) all0)
        have A_t_129 := nw_A_t_129; clear nw_A_t_129
        show own_Go Z EL n0 p e below s _ _ _ (T178.setTop (mkF m 87 #[.val (.long a), .second, .val (.long b), .second, .val (.long cc), .second, .val (.long ee), .second, .val (.int sel), .val (.int (0 : Int32)), .val (.int (0 : Int32)), .val (.int (1 : Int32)), .val (.ref a121), .val (.ref a136), .val (.ref r_169), .unset] []))
        refine own_aload (pc' := 89) w179 own_d13_87 rfl rfl rfl ?_
        refine own_iload (pc' := 91) w179 own_d13_89 rfl rfl ?_
        refine own_lload (pc' := 93) w179 own_d13_91 rfl rfl ?_
        refine own_callV (pc' := 96) w179 (hw _ (List.mem_of_getElem? (i := 49) rfl)) (hw _ (List.mem_of_getElem? (i := 50) rfl)) (fun s' hZ' => notFace_of_selects (args := #[]) (mvT hZ' (hw _ (List.mem_of_getElem? (i := 52) rfl)))) (hw _ (List.mem_of_getElem? (i := 52) rfl)) (hw _ (List.mem_of_getElem? (i := 51) rfl)) (hw _ (List.mem_of_getElem? (i := 2) rfl)) (hw _ (List.mem_of_getElem? (i := 53) rfl)) (by decide) E_a136 (own_ct_setJW0 l Z a0 hw EL hE n0 [] h180 (own_old w179) a136 cc t_144 kt_145 0 0 0 0 F_a136_narrow F_a136_bits A_t_144 ne_a136_t_144) (allS (P := fun x => x ∈ _) (by simp) all0) (argsL := [(.int (0 : Int32)), (.long cc)]) (rest := []) rfl rfl own_pd8 rfl own_d13_93 rfl (by decide) (W := 0) rfl (by decide) (by decide) (by decide) fun T185 h187 v188 ms189 w186 q190 => ?_
        obtain ⟨K191, rfl, rfl, nw_A_t_144⟩ := q190
        replace E_a121 := E_a121.keep K191
        replace F_a121_narrow := F_a121_narrow.keep K191 (ninS ne_a121_t_144 nin0)
        replace F_a121_bits := F_a121_bits.keep K191 (ninS ne_a121_t_144 nin0)
        replace E_a136 := E_a136.keep K191
        replace F_a136_narrow := F_a136_narrow.keep K191 (ninS ne_a136_t_144 nin0)
        replace F_a136_bits := F_a136_bits.keep K191 (ninS ne_a136_t_144 nin0)
        replace E_r_153 := E_r_153.keep K191
        replace F_r_153_low := F_r_153_low.keep K191 (ninS (Ne.symm ne_t_144_r_153) nin0)
        replace F_r_153_high := F_r_153_high.keep K191 (ninS (Ne.symm ne_t_144_r_153) nin0)
        replace E_r_161 := E_r_161.keep K191
        replace F_r_161_low := F_r_161_low.keep K191 (ninS (Ne.symm ne_t_144_r_161) nin0)
        replace F_r_161_high := F_r_161_high.keep K191 (ninS (Ne.symm ne_t_144_r_161) nin0)
        replace E_r_169 := E_r_169.keep K191
        replace F_r_169_low := F_r_169_low.keep K191 (ninS (Ne.symm ne_t_144_r_169) nin0)
        replace F_r_169_high := F_r_169_high.keep K191 (ninS (Ne.symm ne_t_144_r_169) nin0)
        replace A_t_129 := A_t_129.keep K191 (ninS ne_t_129_t_144 nin0)
        replace K := K.trans K191 (allS (P := fun x => x ∈ ([] : List Addr) ∨ h0.size ≤ x) (Or.inr nw_t_144) all0)
        have A_t_144 := nw_A_t_144; clear nw_A_t_144
        show own_Go Z EL n0 p e below s _ _ _ (T185.setTop (mkF m 96 #[.val (.long a), .second, .val (.long b), .second, .val (.long cc), .second, .val (.long ee), .second, .val (.int sel), .val (.int (0 : Int32)), .val (.int (0 : Int32)), .val (.int (1 : Int32)), .val (.ref a121), .val (.ref a136), .val (.ref r_169), .unset] []))
        refine own_aload (pc' := 98) w186 own_d13_96 rfl rfl rfl ?_
        refine own_iload (pc' := 100) w186 own_d13_98 rfl rfl ?_
        refine own_aload (pc' := 102) w186 own_d13_100 rfl rfl rfl ?_
        refine own_iload (pc' := 104) w186 own_d13_102 rfl rfl ?_
        refine own_callV (pc' := 107) w186 (hw _ (List.mem_of_getElem? (i := 54) rfl)) (hw _ (List.mem_of_getElem? (i := 55) rfl)) (fun s' hZ' => notFace_of_selects (args := #[]) (mvT hZ' (hw _ (List.mem_of_getElem? (i := 57) rfl)))) (hw _ (List.mem_of_getElem? (i := 57) rfl)) (hw _ (List.mem_of_getElem? (i := 56) rfl)) (hw _ (List.mem_of_getElem? (i := 2) rfl)) (hw _ (List.mem_of_getElem? (i := 58) rfl)) (by decide) E_a136 (own_ct_setAW01 l Z a0 hw EL hE n0 [] h187 (own_old w186) a136 a121 t_144 kt_145 t_129 kt_130 (own_sgn cc) cc 0 0 (own_sgn ee) ee (own_mh a b) (a * b) F_a136_narrow F_a136_bits A_t_144 F_a121_bits A_t_129 ne_a136_t_144 ne_a121_t_144 ne_t_129_t_144) (allS (P := fun x => x ∈ _) (by simp) all0) (argsL := [(.int (0 : Int32)), (.ref a121), (.int (1 : Int32))]) (rest := []) rfl rfl own_pd9 rfl own_d13_104 rfl (by decide) (W := 0) rfl (by decide) (by decide) (by decide) fun T192 h194 v195 ms196 w193 q197 => ?_
        obtain ⟨K198, rfl, rfl, nw_A_t_144⟩ := q197
        replace E_a121 := E_a121.keep K198
        replace F_a121_narrow := F_a121_narrow.keep K198 (ninS ne_a121_t_144 nin0)
        replace F_a121_bits := F_a121_bits.keep K198 (ninS ne_a121_t_144 nin0)
        replace E_a136 := E_a136.keep K198
        replace F_a136_narrow := F_a136_narrow.keep K198 (ninS ne_a136_t_144 nin0)
        replace F_a136_bits := F_a136_bits.keep K198 (ninS ne_a136_t_144 nin0)
        replace E_r_153 := E_r_153.keep K198
        replace F_r_153_low := F_r_153_low.keep K198 (ninS (Ne.symm ne_t_144_r_153) nin0)
        replace F_r_153_high := F_r_153_high.keep K198 (ninS (Ne.symm ne_t_144_r_153) nin0)
        replace E_r_161 := E_r_161.keep K198
        replace F_r_161_low := F_r_161_low.keep K198 (ninS (Ne.symm ne_t_144_r_161) nin0)
        replace F_r_161_high := F_r_161_high.keep K198 (ninS (Ne.symm ne_t_144_r_161) nin0)
        replace E_r_169 := E_r_169.keep K198
        replace F_r_169_low := F_r_169_low.keep K198 (ninS (Ne.symm ne_t_144_r_169) nin0)
        replace F_r_169_high := F_r_169_high.keep K198 (ninS (Ne.symm ne_t_144_r_169) nin0)
        replace A_t_129 := A_t_129.keep K198 (ninS ne_t_129_t_144 nin0)
        replace K := K.trans K198 (allS (P := fun x => x ∈ ([] : List Addr) ∨ h0.size ≤ x) (Or.inr nw_t_144) all0)
        have A_t_144 := nw_A_t_144; clear nw_A_t_144
        show own_Go Z EL n0 p e below s _ _ _ (T192.setTop (mkF m 107 #[.val (.long a), .second, .val (.long b), .second, .val (.long cc), .second, .val (.long ee), .second, .val (.int sel), .val (.int (0 : Int32)), .val (.int (0 : Int32)), .val (.int (1 : Int32)), .val (.ref a121), .val (.ref a136), .val (.ref r_169), .unset] []))
        refine own_iload (pc' := 109) w193 own_d13_107 rfl rfl ?_
        refine own_if (pc' := 112) w193 own_d13_109 rfl (by decide) (pcY := 121) rfl (fun (hb109 : (0 : Int32) = (0 : Int32)) => ?_) (fun (hb109 : ¬ (0 : Int32) = (0 : Int32)) => absurd hb109 (by decide))
        refine own_aload (pc' := 123) w193 own_d13_121 rfl rfl rfl ?_
        refine own_astore (pc' := 125) w193 own_d13_123 rfl (Ls' := #[.val (.long a), .second, .val (.long b), .second, .val (.long cc), .second, .val (.long ee), .second, .val (.int sel), .val (.int (0 : Int32)), .val (.int (0 : Int32)), .val (.int (1 : Int32)), .val (.ref a121), .val (.ref a136), .val (.ref r_169), .val (.ref r_169)]) rfl rfl ?_
        refine own_aload (pc' := 127) w193 own_d13_125 rfl rfl rfl ?_
        refine own_iload (pc' := 129) w193 own_d13_127 rfl rfl ?_
        refine own_callV (pc' := 132) w193 (hw _ (List.mem_of_getElem? (i := 59) rfl)) (hw _ (List.mem_of_getElem? (i := 60) rfl)) (fun s' hZ' => notFace_of_selects (args := #[]) (mvT hZ' (hw _ (List.mem_of_getElem? (i := 62) rfl)))) (hw _ (List.mem_of_getElem? (i := 62) rfl)) (hw _ (List.mem_of_getElem? (i := 61) rfl)) (hw _ (List.mem_of_getElem? (i := 2) rfl)) (hw _ (List.mem_of_getElem? (i := 63) rfl)) (by decide) E_a136 (own_ct_getW0 l Z a0 hw EL hE n0 [] h194 (own_old w193) a136 t_144 kt_145 (own_mh a b) (a * b) 0 0 F_a136_narrow F_a136_bits A_t_144) all0 (argsL := [(.int (0 : Int32))]) (rest := []) rfl rfl own_pd10 rfl own_d13_129 rfl (by decide) (W := 0) rfl (by decide) (by decide) (by decide) fun T199 h201 v202 ms203 w200 q204 => ?_
        obtain ⟨K206, r_205, rfl, rfl, nw_E_r_205, nw_F_r_205_low, nw_F_r_205_high, p129_getW0_0⟩ := q204
        have ne_a121_r_205 : a121 ≠ r_205 := Nat.ne_of_lt (Nat.lt_of_lt_of_le E_a121.lt p129_getW0_0)
        have ne_a136_r_205 : a136 ≠ r_205 := Nat.ne_of_lt (Nat.lt_of_lt_of_le E_a136.lt p129_getW0_0)
        have ne_r_153_r_205 : r_153 ≠ r_205 := Nat.ne_of_lt (Nat.lt_of_lt_of_le E_r_153.lt p129_getW0_0)
        have ne_r_161_r_205 : r_161 ≠ r_205 := Nat.ne_of_lt (Nat.lt_of_lt_of_le E_r_161.lt p129_getW0_0)
        have ne_r_169_r_205 : r_169 ≠ r_205 := Nat.ne_of_lt (Nat.lt_of_lt_of_le E_r_169.lt p129_getW0_0)
        have ne_t_129_r_205 : t_129 ≠ r_205 := Nat.ne_of_lt (Nat.lt_of_lt_of_le A_t_129.lt p129_getW0_0)
        have ne_t_144_r_205 : t_144 ≠ r_205 := Nat.ne_of_lt (Nat.lt_of_lt_of_le A_t_144.lt p129_getW0_0)
        have nw_r_205 : h0.size ≤ r_205 := Nat.le_trans K.1 p129_getW0_0
        replace E_a121 := E_a121.keep K206
        replace F_a121_narrow := F_a121_narrow.keep K206 nin0
        replace F_a121_bits := F_a121_bits.keep K206 nin0
        replace E_a136 := E_a136.keep K206
        replace F_a136_narrow := F_a136_narrow.keep K206 nin0
        replace F_a136_bits := F_a136_bits.keep K206 nin0
        replace E_r_153 := E_r_153.keep K206
        replace F_r_153_low := F_r_153_low.keep K206 nin0
        replace F_r_153_high := F_r_153_high.keep K206 nin0
        replace E_r_161 := E_r_161.keep K206
        replace F_r_161_low := F_r_161_low.keep K206 nin0
        replace F_r_161_high := F_r_161_high.keep K206 nin0
        replace E_r_169 := E_r_169.keep K206
        replace F_r_169_low := F_r_169_low.keep K206 nin0
        replace F_r_169_high := F_r_169_high.keep K206 nin0
        replace A_t_129 := A_t_129.keep K206 nin0
        replace A_t_144 := A_t_144.keep K206 nin0
        replace K := K.trans K206 all0
        have E_r_205 := nw_E_r_205; clear nw_E_r_205
        have F_r_205_low := nw_F_r_205_low; clear nw_F_r_205_low
        have F_r_205_high := nw_F_r_205_high; clear nw_F_r_205_high
        show own_Go Z EL n0 p e below s _ _ _ (T199.setTop (mkF m 132 #[.val (.long a), .second, .val (.long b), .second, .val (.long cc), .second, .val (.long ee), .second, .val (.int sel), .val (.int (0 : Int32)), .val (.int (0 : Int32)), .val (.int (1 : Int32)), .val (.ref a121), .val (.ref a136), .val (.ref r_169), .val (.ref r_169)] [(.ref r_205)]))
        refine own_aload (pc' := 134) w200 own_d13_132 rfl rfl rfl ?_
        refine own_callV (pc' := 137) w200 (hw _ (List.mem_of_getElem? (i := 65) rfl)) (hw _ (List.mem_of_getElem? (i := 66) rfl)) (fun s' hZ' => notFace_of_selects (args := #[]) (mvT hZ' (hw _ (List.mem_of_getElem? (i := 68) rfl)))) (hw _ (List.mem_of_getElem? (i := 68) rfl)) (hw _ (List.mem_of_getElem? (i := 67) rfl)) (hw _ (List.mem_of_getElem? (i := 18) rfl)) (hw _ (List.mem_of_getElem? (i := 69) rfl)) (by decide) E_r_205 (own_ct_ceq l Z a0 hw EL hE n0 [] h201 (own_old w200) r_205 r_169 (own_mh a b) (a * b) F_r_205_low F_r_205_high E_r_169 F_r_169_low F_r_169_high) all0 (argsL := [(.ref r_169)]) (rest := []) rfl rfl own_pd11 rfl own_d13_134 rfl (by decide) (W := 0) rfl (by decide) (by decide) (by decide) fun T207 h209 v210 ms211 w208 q212 => ?_
        obtain ⟨rfl, rfl, rfl⟩ := q212
        show own_Go Z EL n0 p e below s _ _ _ (T207.setTop (mkF m 137 #[.val (.long a), .second, .val (.long b), .second, .val (.long cc), .second, .val (.long ee), .second, .val (.int sel), .val (.int (0 : Int32)), .val (.int (0 : Int32)), .val (.int (1 : Int32)), .val (.ref a121), .val (.ref a136), .val (.ref r_169), .val (.ref r_169)] [(.int (1 : Int32))]))
        refine own_if (pc' := 140) w208 own_d13_137 rfl (by decide) (pcY := 171) rfl (fun (hb137 : (1 : Int32) = (0 : Int32)) => absurd hb137 (by decide)) (fun (hb137 : ¬ (1 : Int32) = (0 : Int32)) => ?_)
        refine own_aload (pc' := 142) w208 own_d13_140 rfl rfl rfl ?_
        refine own_iconst (pc' := 143) w208 own_d13_142 (x := (1 : Int32)) rfl rfl ?_
        refine own_iload (pc' := 145) w208 own_d13_143 rfl rfl ?_
        refine own_isub (pc' := 146) w208 own_d13_145 (z := (1 : Int32)) (by decide) rfl ?_
        refine own_callV (pc' := 149) w208 (hw _ (List.mem_of_getElem? (i := 71) rfl)) (hw _ (List.mem_of_getElem? (i := 72) rfl)) (fun s' hZ' => notFace_of_selects (args := #[]) (mvT hZ' (hw _ (List.mem_of_getElem? (i := 74) rfl)))) (hw _ (List.mem_of_getElem? (i := 74) rfl)) (hw _ (List.mem_of_getElem? (i := 73) rfl)) (hw _ (List.mem_of_getElem? (i := 2) rfl)) (hw _ (List.mem_of_getElem? (i := 75) rfl)) (by decide) E_a136 (own_ct_sigW1 l Z a0 hw EL hE n0 [] h201 (own_old w208) a136 t_144 kt_145 (own_mh a b) (a * b) F_a136_narrow F_a136_bits A_t_144) all0 (argsL := [(.int (1 : Int32))]) (rest := []) rfl rfl own_pd12 rfl own_d13_146 rfl (by decide) (W := 0) rfl (by decide) (by decide) (by decide) fun T213 h215 v216 ms217 w214 q218 => ?_
        obtain ⟨rfl, rfl, rfl⟩ := q218
        show own_Go Z EL n0 p e below s _ _ _ (T213.setTop (mkF m 149 #[.val (.long a), .second, .val (.long b), .second, .val (.long cc), .second, .val (.long ee), .second, .val (.int sel), .val (.int (0 : Int32)), .val (.int (0 : Int32)), .val (.int (1 : Int32)), .val (.ref a121), .val (.ref a136), .val (.ref r_169), .val (.ref r_169)] [(.int (0 : Int32))]))
        refine own_if (pc' := 152) w214 own_d13_149 rfl (by decide) (pcY := 171) rfl (fun (hb149 : ¬ (0 : Int32) = (0 : Int32)) => absurd hb149 (by decide)) (fun (hb149 : (0 : Int32) = (0 : Int32)) => ?_)
        refine own_aload (pc' := 154) w214 own_d13_152 rfl rfl rfl ?_
        refine own_iload (pc' := 156) w214 own_d13_154 rfl rfl ?_
        refine own_callV (pc' := 159) w214 (hw _ (List.mem_of_getElem? (i := 59) rfl)) (hw _ (List.mem_of_getElem? (i := 60) rfl)) (fun s' hZ' => notFace_of_selects (args := #[]) (mvT hZ' (hw _ (List.mem_of_getElem? (i := 62) rfl)))) (hw _ (List.mem_of_getElem? (i := 62) rfl)) (hw _ (List.mem_of_getElem? (i := 61) rfl)) (hw _ (List.mem_of_getElem? (i := 2) rfl)) (hw _ (List.mem_of_getElem? (i := 63) rfl)) (by decide) E_a121 (own_ct_getW1 l Z a0 hw EL hE n0 [] h201 (own_old w214) a121 t_129 kt_130 (own_sgn ee) ee (own_mh a b) (a * b) F_a121_narrow F_a121_bits A_t_129) all0 (argsL := [(.int (1 : Int32))]) (rest := []) rfl rfl own_pd10 rfl own_d13_156 rfl (by decide) (W := 0) rfl (by decide) (by decide) (by decide) fun T219 h221 v222 ms223 w220 q224 => ?_
        obtain ⟨K226, r_225, rfl, rfl, nw_E_r_225, nw_F_r_225_low, nw_F_r_225_high, p156_getW1_0⟩ := q224
        have ne_a121_r_225 : a121 ≠ r_225 := Nat.ne_of_lt (Nat.lt_of_lt_of_le E_a121.lt p156_getW1_0)
        have ne_a136_r_225 : a136 ≠ r_225 := Nat.ne_of_lt (Nat.lt_of_lt_of_le E_a136.lt p156_getW1_0)
        have ne_r_153_r_225 : r_153 ≠ r_225 := Nat.ne_of_lt (Nat.lt_of_lt_of_le E_r_153.lt p156_getW1_0)
        have ne_r_161_r_225 : r_161 ≠ r_225 := Nat.ne_of_lt (Nat.lt_of_lt_of_le E_r_161.lt p156_getW1_0)
        have ne_r_169_r_225 : r_169 ≠ r_225 := Nat.ne_of_lt (Nat.lt_of_lt_of_le E_r_169.lt p156_getW1_0)
        have ne_r_205_r_225 : r_205 ≠ r_225 := Nat.ne_of_lt (Nat.lt_of_lt_of_le E_r_205.lt p156_getW1_0)
        have ne_t_129_r_225 : t_129 ≠ r_225 := Nat.ne_of_lt (Nat.lt_of_lt_of_le A_t_129.lt p156_getW1_0)
        have ne_t_144_r_225 : t_144 ≠ r_225 := Nat.ne_of_lt (Nat.lt_of_lt_of_le A_t_144.lt p156_getW1_0)
        have nw_r_225 : h0.size ≤ r_225 := Nat.le_trans K.1 p156_getW1_0
        replace E_a121 := E_a121.keep K226
        replace F_a121_narrow := F_a121_narrow.keep K226 nin0
        replace F_a121_bits := F_a121_bits.keep K226 nin0
        replace E_a136 := E_a136.keep K226
        replace F_a136_narrow := F_a136_narrow.keep K226 nin0
        replace F_a136_bits := F_a136_bits.keep K226 nin0
        replace E_r_153 := E_r_153.keep K226
        replace F_r_153_low := F_r_153_low.keep K226 nin0
        replace F_r_153_high := F_r_153_high.keep K226 nin0
        replace E_r_161 := E_r_161.keep K226
        replace F_r_161_low := F_r_161_low.keep K226 nin0
        replace F_r_161_high := F_r_161_high.keep K226 nin0
        replace E_r_169 := E_r_169.keep K226
        replace F_r_169_low := F_r_169_low.keep K226 nin0
        replace F_r_169_high := F_r_169_high.keep K226 nin0
        replace A_t_129 := A_t_129.keep K226 nin0
        replace A_t_144 := A_t_144.keep K226 nin0
        replace E_r_205 := E_r_205.keep K226
        replace F_r_205_low := F_r_205_low.keep K226 nin0
        replace F_r_205_high := F_r_205_high.keep K226 nin0
        replace K := K.trans K226 all0
        have E_r_225 := nw_E_r_225; clear nw_E_r_225
        have F_r_225_low := nw_F_r_225_low; clear nw_F_r_225_low
        have F_r_225_high := nw_F_r_225_high; clear nw_F_r_225_high
        show own_Go Z EL n0 p e below s _ _ _ (T219.setTop (mkF m 159 #[.val (.long a), .second, .val (.long b), .second, .val (.long cc), .second, .val (.long ee), .second, .val (.int sel), .val (.int (0 : Int32)), .val (.int (0 : Int32)), .val (.int (1 : Int32)), .val (.ref a121), .val (.ref a136), .val (.ref r_169), .val (.ref r_169)] [(.ref r_225)]))
        refine own_aload (pc' := 161) w220 own_d13_159 rfl rfl rfl ?_
        refine own_callV (pc' := 164) w220 (hw _ (List.mem_of_getElem? (i := 65) rfl)) (hw _ (List.mem_of_getElem? (i := 66) rfl)) (fun s' hZ' => notFace_of_selects (args := #[]) (mvT hZ' (hw _ (List.mem_of_getElem? (i := 68) rfl)))) (hw _ (List.mem_of_getElem? (i := 68) rfl)) (hw _ (List.mem_of_getElem? (i := 67) rfl)) (hw _ (List.mem_of_getElem? (i := 18) rfl)) (hw _ (List.mem_of_getElem? (i := 69) rfl)) (by decide) E_r_225 (own_ct_ceq l Z a0 hw EL hE n0 [] h221 (own_old w220) r_225 r_169 (own_mh a b) (a * b) F_r_225_low F_r_225_high E_r_169 F_r_169_low F_r_169_high) all0 (argsL := [(.ref r_169)]) (rest := []) rfl rfl own_pd11 rfl own_d13_161 rfl (by decide) (W := 0) rfl (by decide) (by decide) (by decide) fun T227 h229 v230 ms231 w228 q232 => ?_
        obtain ⟨rfl, rfl, rfl⟩ := q232
        show own_Go Z EL n0 p e below s _ _ _ (T227.setTop (mkF m 164 #[.val (.long a), .second, .val (.long b), .second, .val (.long cc), .second, .val (.long ee), .second, .val (.int sel), .val (.int (0 : Int32)), .val (.int (0 : Int32)), .val (.int (1 : Int32)), .val (.ref a121), .val (.ref a136), .val (.ref r_169), .val (.ref r_169)] [(.int (1 : Int32))]))
        refine own_if (pc' := 167) w228 own_d13_164 rfl (by decide) (pcY := 171) rfl (fun (hb164 : (1 : Int32) = (0 : Int32)) => absurd hb164 (by decide)) (fun (hb164 : ¬ (1 : Int32) = (0 : Int32)) => ?_)
        refine own_iconst (pc' := 168) w228 own_d13_167 (x := (1 : Int32)) rfl rfl ?_
        refine own_goto w228 own_d13_168 (by decide) (pc' := 172) rfl ?_
        exact own_retV w228 (t := .boolean) rfl rfl (Or.inl ⟨rfl, by simp, _, rfl⟩) own_d13_172 (by decide) (by decide) (ms' := []) all0 ⟨K, rfl, rfl⟩
    · -- t1
      refine own_iand (pc' := 20) w0 own_d13_19 (z := (1 : Int32)) hix rfl ?_
      refine own_istore (pc' := 22) w0 own_d13_20 (Ls' := #[.val (.long a), .second, .val (.long b), .second, .val (.long cc), .second, .val (.long ee), .second, .val (.int sel), .val (.int (0 : Int32)), .val (.int (1 : Int32)), .unset, .unset, .unset, .unset, .unset]) rfl rfl ?_
      refine own_iload (pc' := 24) w0 own_d13_22 rfl rfl ?_
      refine own_iconst (pc' := 25) w0 own_d13_24 (x := (2 : Int32)) rfl rfl ?_
      refine own_iushr (pc' := 26) w0 own_d13_25 (z := (XT.ushr sel (2 : Int32))) rfl rfl ?_
      refine own_iconst (pc' := 27) w0 own_d13_26 (x := (1 : Int32)) rfl rfl ?_
      rcases and_one (XT.ushr sel (2 : Int32)) with hat | hat
      · -- t10
        refine own_iand (pc' := 28) w0 own_d13_27 (z := (0 : Int32)) hat rfl ?_
        refine own_istore (pc' := 30) w0 own_d13_28 (Ls' := #[.val (.long a), .second, .val (.long b), .second, .val (.long cc), .second, .val (.long ee), .second, .val (.int sel), .val (.int (0 : Int32)), .val (.int (1 : Int32)), .val (.int (0 : Int32)), .unset, .unset, .unset, .unset]) rfl rfl ?_
        refine own_newO (pc' := 33) w0 (hw _ (List.mem_of_getElem? (i := 0) rfl)) (hw _ (List.mem_of_getElem? (i := 1) rfl)) (hw _ (List.mem_of_getElem? (i := 2) rfl)) own_d13_30 rfl (by decide) (by decide) fun T233 h235 a237 g_a237 w234 E236 ⟨E_a237, D238⟩ => ?_
        have nw_a237 : h0.size ≤ a237 := Nat.le_trans K.1 (Nat.le_of_eq g_a237)
        replace K := K.ext E236
        have F_a237_product : Fld Z h235 a237 "com/example/throng/throng/engine/Count$Array" "product" "[J" .null := D238 (Or.inr (hw _ (List.mem_of_getElem? (i := 11) rfl))) (ty := (.array .long)) (by decide)
        have F_a237_narrow : Fld Z h235 a237 "com/example/throng/throng/engine/Count$Array" "narrow" "Z" (.int 0) := D238 (Or.inr (hw _ (List.mem_of_getElem? (i := 13) rfl))) (ty := .boolean) (by decide)
        have F_a237_bits : Fld Z h235 a237 "com/example/throng/throng/engine/Count$Array" "bits" "[J" .null := D238 (Or.inr (hw _ (List.mem_of_getElem? (i := 15) rfl))) (ty := (.array .long)) (by decide)
        refine own_dup (pc' := 34) w234 own_d13_33 rfl rfl ?_
        refine own_iconst (pc' := 35) w234 own_d13_34 (x := (2 : Int32)) rfl rfl ?_
        refine own_iload (pc' := 37) w234 own_d13_35 rfl rfl ?_
        refine own_callI (pc' := 40) w234 rfl (hw _ (List.mem_of_getElem? (i := 3) rfl)) (hw _ (List.mem_of_getElem? (i := 4) rfl)) (hw _ (List.mem_of_getElem? (i := 2) rfl)) (hw _ (List.mem_of_getElem? (i := 5) rfl)) (by decide) (own_ct_aInitW l Z a0 hw EL hE n0 [] h235 (own_old w234) a237 .null (.int 0) .null E_a237 F_a237_product F_a237_narrow F_a237_bits) (allS (P := fun x => x ∈ _) (by simp) all0) (argsL := [(.int (2 : Int32)), (.int (0 : Int32))]) (rest := [(.ref a237)]) rfl rfl own_pd5 rfl own_d13_37 rfl (by decide) (W := 1) rfl (by decide) (by decide) (by decide) fun T239 h241 v242 ms243 w240 q244 => ?_
        obtain ⟨K247, t_245, kt_246, rfl, rfl, nw_E_a237, nw_F_a237_narrow, nw_F_a237_bits, nw_A_t_245, p37_aInitW_0⟩ := q244
        have ne_a237_t_245 : a237 ≠ t_245 := Nat.ne_of_lt (Nat.lt_of_lt_of_le E_a237.lt p37_aInitW_0)
        have nw_t_245 : h0.size ≤ t_245 := Nat.le_trans K.1 p37_aInitW_0
        replace K := K.trans K247 (allS (P := fun x => x ∈ ([] : List Addr) ∨ h0.size ≤ x) (Or.inr nw_a237) all0)
        have E_a237 := nw_E_a237; clear nw_E_a237
        have F_a237_narrow := nw_F_a237_narrow; clear nw_F_a237_narrow
        have F_a237_bits := nw_F_a237_bits; clear nw_F_a237_bits
        have A_t_245 := nw_A_t_245; clear nw_A_t_245
        show own_Go Z EL n0 p e below s _ _ _ (T239.setTop (mkF m 40 #[.val (.long a), .second, .val (.long b), .second, .val (.long cc), .second, .val (.long ee), .second, .val (.int sel), .val (.int (0 : Int32)), .val (.int (1 : Int32)), .val (.int (0 : Int32)), .unset, .unset, .unset, .unset] [(.ref a237)]))
        refine own_astore (pc' := 42) w240 own_d13_40 rfl (Ls' := #[.val (.long a), .second, .val (.long b), .second, .val (.long cc), .second, .val (.long ee), .second, .val (.int sel), .val (.int (0 : Int32)), .val (.int (1 : Int32)), .val (.int (0 : Int32)), .val (.ref a237), .unset, .unset, .unset]) rfl rfl ?_
        refine own_newO (pc' := 45) w240 (hw _ (List.mem_of_getElem? (i := 0) rfl)) (hw _ (List.mem_of_getElem? (i := 1) rfl)) (hw _ (List.mem_of_getElem? (i := 2) rfl)) own_d13_42 rfl (by decide) (by decide) fun T248 h250 a252 g_a252 w249 E251 ⟨E_a252, D253⟩ => ?_
        have ne_a237_a252 : a237 ≠ a252 := Nat.ne_of_lt (Nat.lt_of_lt_of_le E_a237.lt (Nat.le_of_eq g_a252))
        have ne_t_245_a252 : t_245 ≠ a252 := Nat.ne_of_lt (Nat.lt_of_lt_of_le A_t_245.lt (Nat.le_of_eq g_a252))
        have nw_a252 : h0.size ≤ a252 := Nat.le_trans K.1 (Nat.le_of_eq g_a252)
        replace E_a237 := E_a237.ext E251
        replace F_a237_narrow := F_a237_narrow.ext E251
        replace F_a237_bits := F_a237_bits.ext E251
        replace A_t_245 := A_t_245.ext E251
        replace K := K.ext E251
        have F_a252_product : Fld Z h250 a252 "com/example/throng/throng/engine/Count$Array" "product" "[J" .null := D253 (Or.inr (hw _ (List.mem_of_getElem? (i := 11) rfl))) (ty := (.array .long)) (by decide)
        have F_a252_narrow : Fld Z h250 a252 "com/example/throng/throng/engine/Count$Array" "narrow" "Z" (.int 0) := D253 (Or.inr (hw _ (List.mem_of_getElem? (i := 13) rfl))) (ty := .boolean) (by decide)
        have F_a252_bits : Fld Z h250 a252 "com/example/throng/throng/engine/Count$Array" "bits" "[J" .null := D253 (Or.inr (hw _ (List.mem_of_getElem? (i := 15) rfl))) (ty := (.array .long)) (by decide)
        refine own_dup (pc' := 46) w249 own_d13_45 rfl rfl ?_
        refine own_iconst (pc' := 47) w249 own_d13_46 (x := (2 : Int32)) rfl rfl ?_
        refine own_iload (pc' := 49) w249 own_d13_47 rfl rfl ?_
        refine own_callI (pc' := 52) w249 rfl (hw _ (List.mem_of_getElem? (i := 3) rfl)) (hw _ (List.mem_of_getElem? (i := 4) rfl)) (hw _ (List.mem_of_getElem? (i := 2) rfl)) (hw _ (List.mem_of_getElem? (i := 5) rfl)) (by decide) (own_ct_aInitW l Z a0 hw EL hE n0 [] h250 (own_old w249) a252 .null (.int 0) .null E_a252 F_a252_product F_a252_narrow F_a252_bits) (allS (P := fun x => x ∈ _) (by simp) all0) (argsL := [(.int (2 : Int32)), (.int (0 : Int32))]) (rest := [(.ref a252)]) rfl rfl own_pd5 rfl own_d13_49 rfl (by decide) (W := 1) rfl (by decide) (by decide) (by decide) fun T254 h256 v257 ms258 w255 q259 => ?_
        obtain ⟨K262, t_260, kt_261, rfl, rfl, nw_E_a252, nw_F_a252_narrow, nw_F_a252_bits, nw_A_t_260, p49_aInitW_0⟩ := q259
        have ne_a237_t_260 : a237 ≠ t_260 := Nat.ne_of_lt (Nat.lt_of_lt_of_le E_a237.lt p49_aInitW_0)
        have ne_a252_t_260 : a252 ≠ t_260 := Nat.ne_of_lt (Nat.lt_of_lt_of_le E_a252.lt p49_aInitW_0)
        have ne_t_245_t_260 : t_245 ≠ t_260 := Nat.ne_of_lt (Nat.lt_of_lt_of_le A_t_245.lt p49_aInitW_0)
        have nw_t_260 : h0.size ≤ t_260 := Nat.le_trans K.1 p49_aInitW_0
        replace E_a237 := E_a237.keep K262
        replace F_a237_narrow := F_a237_narrow.keep K262 (ninS ne_a237_a252 nin0)
        replace F_a237_bits := F_a237_bits.keep K262 (ninS ne_a237_a252 nin0)
        replace A_t_245 := A_t_245.keep K262 (ninS ne_t_245_a252 nin0)
        replace K := K.trans K262 (allS (P := fun x => x ∈ ([] : List Addr) ∨ h0.size ≤ x) (Or.inr nw_a252) all0)
        have E_a252 := nw_E_a252; clear nw_E_a252
        have F_a252_narrow := nw_F_a252_narrow; clear nw_F_a252_narrow
        have F_a252_bits := nw_F_a252_bits; clear nw_F_a252_bits
        have A_t_260 := nw_A_t_260; clear nw_A_t_260
        show own_Go Z EL n0 p e below s _ _ _ (T254.setTop (mkF m 52 #[.val (.long a), .second, .val (.long b), .second, .val (.long cc), .second, .val (.long ee), .second, .val (.int sel), .val (.int (0 : Int32)), .val (.int (1 : Int32)), .val (.int (0 : Int32)), .val (.ref a237), .unset, .unset, .unset] [(.ref a252)]))
        refine own_astore (pc' := 54) w255 own_d13_52 rfl (Ls' := #[.val (.long a), .second, .val (.long b), .second, .val (.long cc), .second, .val (.long ee), .second, .val (.int sel), .val (.int (0 : Int32)), .val (.int (1 : Int32)), .val (.int (0 : Int32)), .val (.ref a237), .val (.ref a252), .unset, .unset]) rfl rfl ?_
        refine own_lloadN (pc' := 55) w255 own_d13_54 rfl rfl ?_
        refine own_callS (pc' := 58) w255 (hw _ (List.mem_of_getElem? (i := 16) rfl)) (hw _ (List.mem_of_getElem? (i := 17) rfl)) (hw _ (List.mem_of_getElem? (i := 18) rfl)) (hw _ (List.mem_of_getElem? (i := 19) rfl)) (by decide) (own_ct_cOf l Z a0 hw EL hE n0 [] h256 (own_old w255) a ) all0 (argsL := [(.long a)]) (rest := []) rfl rfl own_pd4 rfl own_d13_55 rfl (by decide) (W := 0) rfl (by decide) (by decide) (by decide) fun T263 h265 v266 ms267 w264 q268 => ?_
        obtain ⟨K270, r_269, rfl, rfl, nw_E_r_269, nw_F_r_269_low, nw_F_r_269_high, p55_cOf_0⟩ := q268
        have ne_a237_r_269 : a237 ≠ r_269 := Nat.ne_of_lt (Nat.lt_of_lt_of_le E_a237.lt p55_cOf_0)
        have ne_a252_r_269 : a252 ≠ r_269 := Nat.ne_of_lt (Nat.lt_of_lt_of_le E_a252.lt p55_cOf_0)
        have ne_t_245_r_269 : t_245 ≠ r_269 := Nat.ne_of_lt (Nat.lt_of_lt_of_le A_t_245.lt p55_cOf_0)
        have ne_t_260_r_269 : t_260 ≠ r_269 := Nat.ne_of_lt (Nat.lt_of_lt_of_le A_t_260.lt p55_cOf_0)
        have nw_r_269 : h0.size ≤ r_269 := Nat.le_trans K.1 p55_cOf_0
        replace E_a237 := E_a237.keep K270
        replace F_a237_narrow := F_a237_narrow.keep K270 nin0
        replace F_a237_bits := F_a237_bits.keep K270 nin0
        replace A_t_245 := A_t_245.keep K270 nin0
        replace E_a252 := E_a252.keep K270
        replace F_a252_narrow := F_a252_narrow.keep K270 nin0
        replace F_a252_bits := F_a252_bits.keep K270 nin0
        replace A_t_260 := A_t_260.keep K270 nin0
        replace K := K.trans K270 all0
        have E_r_269 := nw_E_r_269; clear nw_E_r_269
        have F_r_269_low := nw_F_r_269_low; clear nw_F_r_269_low
        have F_r_269_high := nw_F_r_269_high; clear nw_F_r_269_high
        show own_Go Z EL n0 p e below s _ _ _ (T263.setTop (mkF m 58 #[.val (.long a), .second, .val (.long b), .second, .val (.long cc), .second, .val (.long ee), .second, .val (.int sel), .val (.int (0 : Int32)), .val (.int (1 : Int32)), .val (.int (0 : Int32)), .val (.ref a237), .val (.ref a252), .unset, .unset] [(.ref r_269)]))
        refine own_lloadN (pc' := 59) w264 own_d13_58 rfl rfl ?_
        refine own_callS (pc' := 62) w264 (hw _ (List.mem_of_getElem? (i := 16) rfl)) (hw _ (List.mem_of_getElem? (i := 17) rfl)) (hw _ (List.mem_of_getElem? (i := 18) rfl)) (hw _ (List.mem_of_getElem? (i := 19) rfl)) (by decide) (own_ct_cOf l Z a0 hw EL hE n0 [] h265 (own_old w264) b ) all0 (argsL := [(.long b)]) (rest := [(.ref r_269)]) rfl rfl own_pd4 rfl own_d13_59 rfl (by decide) (W := 1) rfl (by decide) (by decide) (by decide) fun T271 h273 v274 ms275 w272 q276 => ?_
        obtain ⟨K278, r_277, rfl, rfl, nw_E_r_277, nw_F_r_277_low, nw_F_r_277_high, p59_cOf_0⟩ := q276
        have ne_a237_r_277 : a237 ≠ r_277 := Nat.ne_of_lt (Nat.lt_of_lt_of_le E_a237.lt p59_cOf_0)
        have ne_a252_r_277 : a252 ≠ r_277 := Nat.ne_of_lt (Nat.lt_of_lt_of_le E_a252.lt p59_cOf_0)
        have ne_r_269_r_277 : r_269 ≠ r_277 := Nat.ne_of_lt (Nat.lt_of_lt_of_le E_r_269.lt p59_cOf_0)
        have ne_t_245_r_277 : t_245 ≠ r_277 := Nat.ne_of_lt (Nat.lt_of_lt_of_le A_t_245.lt p59_cOf_0)
        have ne_t_260_r_277 : t_260 ≠ r_277 := Nat.ne_of_lt (Nat.lt_of_lt_of_le A_t_260.lt p59_cOf_0)
        have nw_r_277 : h0.size ≤ r_277 := Nat.le_trans K.1 p59_cOf_0
        replace E_a237 := E_a237.keep K278
        replace F_a237_narrow := F_a237_narrow.keep K278 nin0
        replace F_a237_bits := F_a237_bits.keep K278 nin0
        replace A_t_245 := A_t_245.keep K278 nin0
        replace E_a252 := E_a252.keep K278
        replace F_a252_narrow := F_a252_narrow.keep K278 nin0
        replace F_a252_bits := F_a252_bits.keep K278 nin0
        replace A_t_260 := A_t_260.keep K278 nin0
        replace E_r_269 := E_r_269.keep K278
        replace F_r_269_low := F_r_269_low.keep K278 nin0
        replace F_r_269_high := F_r_269_high.keep K278 nin0
        replace K := K.trans K278 all0
        have E_r_277 := nw_E_r_277; clear nw_E_r_277
        have F_r_277_low := nw_F_r_277_low; clear nw_F_r_277_low
        have F_r_277_high := nw_F_r_277_high; clear nw_F_r_277_high
        show own_Go Z EL n0 p e below s _ _ _ (T271.setTop (mkF m 62 #[.val (.long a), .second, .val (.long b), .second, .val (.long cc), .second, .val (.long ee), .second, .val (.int sel), .val (.int (0 : Int32)), .val (.int (1 : Int32)), .val (.int (0 : Int32)), .val (.ref a237), .val (.ref a252), .unset, .unset] [(.ref r_277), (.ref r_269)]))
        refine own_callV (pc' := 65) w272 (hw _ (List.mem_of_getElem? (i := 30) rfl)) (hw _ (List.mem_of_getElem? (i := 31) rfl)) (fun s' hZ' => notFace_of_selects (args := #[]) (mvT hZ' (hw _ (List.mem_of_getElem? (i := 33) rfl)))) (hw _ (List.mem_of_getElem? (i := 33) rfl)) (hw _ (List.mem_of_getElem? (i := 32) rfl)) (hw _ (List.mem_of_getElem? (i := 18) rfl)) (hw _ (List.mem_of_getElem? (i := 34) rfl)) (by decide) E_r_269 (own_ct_times l Z a0 hw EL hE n0 [] h273 (own_old w272) r_269 r_277 a b F_r_269_low F_r_269_high F_r_277_low F_r_277_high) all0 (argsL := [(.ref r_277)]) (rest := []) rfl rfl own_pd6 rfl own_d13_62 rfl (by decide) (W := 0) rfl (by decide) (by decide) (by decide) fun T279 h281 v282 ms283 w280 q284 => ?_
        obtain ⟨K286, r_285, rfl, rfl, nw_E_r_285, nw_F_r_285_low, nw_F_r_285_high, p62_times_0⟩ := q284
        have ne_a237_r_285 : a237 ≠ r_285 := Nat.ne_of_lt (Nat.lt_of_lt_of_le E_a237.lt p62_times_0)
        have ne_a252_r_285 : a252 ≠ r_285 := Nat.ne_of_lt (Nat.lt_of_lt_of_le E_a252.lt p62_times_0)
        have ne_r_269_r_285 : r_269 ≠ r_285 := Nat.ne_of_lt (Nat.lt_of_lt_of_le E_r_269.lt p62_times_0)
        have ne_r_277_r_285 : r_277 ≠ r_285 := Nat.ne_of_lt (Nat.lt_of_lt_of_le E_r_277.lt p62_times_0)
        have ne_t_245_r_285 : t_245 ≠ r_285 := Nat.ne_of_lt (Nat.lt_of_lt_of_le A_t_245.lt p62_times_0)
        have ne_t_260_r_285 : t_260 ≠ r_285 := Nat.ne_of_lt (Nat.lt_of_lt_of_le A_t_260.lt p62_times_0)
        have nw_r_285 : h0.size ≤ r_285 := Nat.le_trans K.1 p62_times_0
        replace E_a237 := E_a237.keep K286
        replace F_a237_narrow := F_a237_narrow.keep K286 nin0
        replace F_a237_bits := F_a237_bits.keep K286 nin0
        replace A_t_245 := A_t_245.keep K286 nin0
        replace E_a252 := E_a252.keep K286
        replace F_a252_narrow := F_a252_narrow.keep K286 nin0
        replace F_a252_bits := F_a252_bits.keep K286 nin0
        replace A_t_260 := A_t_260.keep K286 nin0
        replace E_r_269 := E_r_269.keep K286
        replace F_r_269_low := F_r_269_low.keep K286 nin0
        replace F_r_269_high := F_r_269_high.keep K286 nin0
        replace E_r_277 := E_r_277.keep K286
        replace F_r_277_low := F_r_277_low.keep K286 nin0
        replace F_r_277_high := F_r_277_high.keep K286 nin0
        replace K := K.trans K286 all0
        have E_r_285 := nw_E_r_285; clear nw_E_r_285
        have F_r_285_low := nw_F_r_285_low; clear nw_F_r_285_low
        have F_r_285_high := nw_F_r_285_high; clear nw_F_r_285_high
        show own_Go Z EL n0 p e below s _ _ _ (T279.setTop (mkF m 65 #[.val (.long a), .second, .val (.long b), .second, .val (.long cc), .second, .val (.long ee), .second, .val (.int sel), .val (.int (0 : Int32)), .val (.int (1 : Int32)), .val (.int (0 : Int32)), .val (.ref a237), .val (.ref a252), .unset, .unset] [(.ref r_285)]))
        refine own_astore (pc' := 67) w280 own_d13_65 rfl (Ls' := #[.val (.long a), .second, .val (.long b), .second, .val (.long cc), .second, .val (.long ee), .second, .val (.int sel), .val (.int (0 : Int32)), .val (.int (1 : Int32)), .val (.int (0 : Int32)), .val (.ref a237), .val (.ref a252), .val (.ref r_285), .unset]) rfl rfl ?_
        refine own_aload (pc' := 69) w280 own_d13_67 rfl rfl rfl ?_
        refine own_iload (pc' := 71) w280 own_d13_69 rfl rfl ?_
        refine own_aload (pc' := 73) w280 own_d13_71 rfl rfl rfl ?_
        refine own_callV (pc' := 76) w280 (hw _ (List.mem_of_getElem? (i := 43) rfl)) (hw _ (List.mem_of_getElem? (i := 44) rfl)) (fun s' hZ' => notFace_of_selects (args := #[]) (mvT hZ' (hw _ (List.mem_of_getElem? (i := 46) rfl)))) (hw _ (List.mem_of_getElem? (i := 46) rfl)) (hw _ (List.mem_of_getElem? (i := 45) rfl)) (hw _ (List.mem_of_getElem? (i := 2) rfl)) (hw _ (List.mem_of_getElem? (i := 47) rfl)) (by decide) E_a237 (own_ct_setCW0 l Z a0 hw EL hE n0 [] h281 (own_old w280) a237 r_285 t_245 kt_246 (own_mh a b) (a * b) 0 0 0 0 F_a237_narrow F_a237_bits A_t_245 F_r_285_low F_r_285_high ne_a237_t_245 (Ne.symm ne_t_245_r_285)) (allS (P := fun x => x ∈ _) (by simp) all0) (argsL := [(.int (0 : Int32)), (.ref r_285)]) (rest := []) rfl rfl own_pd7 rfl own_d13_73 rfl (by decide) (W := 0) rfl (by decide) (by decide) (by decide) fun T287 h289 v290 ms291 w288 q292 => ?_
        obtain ⟨K293, rfl, rfl, nw_A_t_245⟩ := q292
        replace E_a237 := E_a237.keep K293
        replace F_a237_narrow := F_a237_narrow.keep K293 (ninS ne_a237_t_245 nin0)
        replace F_a237_bits := F_a237_bits.keep K293 (ninS ne_a237_t_245 nin0)
        replace E_a252 := E_a252.keep K293
        replace F_a252_narrow := F_a252_narrow.keep K293 (ninS (Ne.symm ne_t_245_a252) nin0)
        replace F_a252_bits := F_a252_bits.keep K293 (ninS (Ne.symm ne_t_245_a252) nin0)
        replace A_t_260 := A_t_260.keep K293 (ninS (Ne.symm ne_t_245_t_260) nin0)
        replace E_r_269 := E_r_269.keep K293
        replace F_r_269_low := F_r_269_low.keep K293 (ninS (Ne.symm ne_t_245_r_269) nin0)
        replace F_r_269_high := F_r_269_high.keep K293 (ninS (Ne.symm ne_t_245_r_269) nin0)
        replace E_r_277 := E_r_277.keep K293
        replace F_r_277_low := F_r_277_low.keep K293 (ninS (Ne.symm ne_t_245_r_277) nin0)
        replace F_r_277_high := F_r_277_high.keep K293 (ninS (Ne.symm ne_t_245_r_277) nin0)
        replace E_r_285 := E_r_285.keep K293
        replace F_r_285_low := F_r_285_low.keep K293 (ninS (Ne.symm ne_t_245_r_285) nin0)
        replace F_r_285_high := F_r_285_high.keep K293 (ninS (Ne.symm ne_t_245_r_285) nin0)
        replace K := K.trans K293 (allS (P := fun x => x ∈ ([] : List Addr) ∨ h0.size ≤ x) (Or.inr nw_t_245) all0)
        have A_t_245 := nw_A_t_245; clear nw_A_t_245
        show own_Go Z EL n0 p e below s _ _ _ (T287.setTop (mkF m 76 #[.val (.long a), .second, .val (.long b), .second, .val (.long cc), .second, .val (.long ee), .second, .val (.int sel), .val (.int (0 : Int32)), .val (.int (1 : Int32)), .val (.int (0 : Int32)), .val (.ref a237), .val (.ref a252), .val (.ref r_285), .unset] []))
        refine own_aload (pc' := 78) w288 own_d13_76 rfl rfl rfl ?_
        refine own_iconst (pc' := 79) w288 own_d13_78 (x := (1 : Int32)) rfl rfl ?_
        refine own_iload (pc' := 81) w288 own_d13_79 rfl rfl ?_
        refine own_isub (pc' := 82) w288 own_d13_81 (z := (1 : Int32)) (by decide) rfl ?_
        refine own_lload (pc' := 84) w288 own_d13_82 rfl rfl ?_
        refine own_callV (pc' := 87) w288 (hw _ (List.mem_of_getElem? (i := 49) rfl)) (hw _ (List.mem_of_getElem? (i := 50) rfl)) (fun s' hZ' => notFace_of_selects (args := #[]) (mvT hZ' (hw _ (List.mem_of_getElem? (i := 52) rfl)))) (hw _ (List.mem_of_getElem? (i := 52) rfl)) (hw _ (List.mem_of_getElem? (i := 51) rfl)) (hw _ (List.mem_of_getElem? (i := 2) rfl)) (hw _ (List.mem_of_getElem? (i := 53) rfl)) (by decide) E_a237 (own_ct_setJW1 l Z a0 hw EL hE n0 [] h289 (own_old w288) a237 ee t_245 kt_246 (own_mh a b) (a * b) 0 0 F_a237_narrow F_a237_bits A_t_245 ne_a237_t_245) (allS (P := fun x => x ∈ _) (by simp) all0) (argsL := [(.int (1 : Int32)), (.long ee)]) (rest := []) rfl rfl own_pd8 rfl own_d13_84 rfl (by decide) (W := 0) rfl (by decide) (by decide) (by decide) fun T294 h296 v297 ms298 w295 q299 => ?_
        obtain ⟨K300, rfl, rfl, nw_A_t_245⟩ := q299
        replace E_a237 := E_a237.keep K300
        replace F_a237_narrow := F_a237_narrow.keep K300 (ninS ne_a237_t_245 nin0)
        replace F_a237_bits := F_a237_bits.keep K300 (ninS ne_a237_t_245 nin0)
        replace E_a252 := E_a252.keep K300
        replace F_a252_narrow := F_a252_narrow.keep K300 (ninS (Ne.symm ne_t_245_a252) nin0)
        replace F_a252_bits := F_a252_bits.keep K300 (ninS (Ne.symm ne_t_245_a252) nin0)
        replace A_t_260 := A_t_260.keep K300 (ninS (Ne.symm ne_t_245_t_260) nin0)
        replace E_r_269 := E_r_269.keep K300
        replace F_r_269_low := F_r_269_low.keep K300 (ninS (Ne.symm ne_t_245_r_269) nin0)
        replace F_r_269_high := F_r_269_high.keep K300 (ninS (Ne.symm ne_t_245_r_269) nin0)
        replace E_r_277 := E_r_277.keep K300
        replace F_r_277_low := F_r_277_low.keep K300 (ninS (Ne.symm ne_t_245_r_277) nin0)
        replace F_r_277_high := F_r_277_high.keep K300 (ninS (Ne.symm ne_t_245_r_277) nin0)
        replace E_r_285 := E_r_285.keep K300
        replace F_r_285_low := F_r_285_low.keep K300 (ninS (Ne.symm ne_t_245_r_285) nin0)
        replace F_r_285_high := F_r_285_high.keep K300 (ninS (Ne.symm ne_t_245_r_285) nin0)
        replace K := K.trans K300 (allS (P := fun x => x ∈ ([] : List Addr) ∨ h0.size ≤ x) (Or.inr nw_t_245) all0)
        have A_t_245 := nw_A_t_245; clear nw_A_t_245
        show own_Go Z EL n0 p e below s _ _ _ (T294.setTop (mkF m 87 #[.val (.long a), .second, .val (.long b), .second, .val (.long cc), .second, .val (.long ee), .second, .val (.int sel), .val (.int (0 : Int32)), .val (.int (1 : Int32)), .val (.int (0 : Int32)), .val (.ref a237), .val (.ref a252), .val (.ref r_285), .unset] []))
        refine own_aload (pc' := 89) w295 own_d13_87 rfl rfl rfl ?_
        refine own_iload (pc' := 91) w295 own_d13_89 rfl rfl ?_
        refine own_lload (pc' := 93) w295 own_d13_91 rfl rfl ?_
        refine own_callV (pc' := 96) w295 (hw _ (List.mem_of_getElem? (i := 49) rfl)) (hw _ (List.mem_of_getElem? (i := 50) rfl)) (fun s' hZ' => notFace_of_selects (args := #[]) (mvT hZ' (hw _ (List.mem_of_getElem? (i := 52) rfl)))) (hw _ (List.mem_of_getElem? (i := 52) rfl)) (hw _ (List.mem_of_getElem? (i := 51) rfl)) (hw _ (List.mem_of_getElem? (i := 2) rfl)) (hw _ (List.mem_of_getElem? (i := 53) rfl)) (by decide) E_a252 (own_ct_setJW1 l Z a0 hw EL hE n0 [] h296 (own_old w295) a252 cc t_260 kt_261 0 0 0 0 F_a252_narrow F_a252_bits A_t_260 ne_a252_t_260) (allS (P := fun x => x ∈ _) (by simp) all0) (argsL := [(.int (1 : Int32)), (.long cc)]) (rest := []) rfl rfl own_pd8 rfl own_d13_93 rfl (by decide) (W := 0) rfl (by decide) (by decide) (by decide) fun T301 h303 v304 ms305 w302 q306 => ?_
        obtain ⟨K307, rfl, rfl, nw_A_t_260⟩ := q306
        replace E_a237 := E_a237.keep K307
        replace F_a237_narrow := F_a237_narrow.keep K307 (ninS ne_a237_t_260 nin0)
        replace F_a237_bits := F_a237_bits.keep K307 (ninS ne_a237_t_260 nin0)
        replace E_a252 := E_a252.keep K307
        replace F_a252_narrow := F_a252_narrow.keep K307 (ninS ne_a252_t_260 nin0)
        replace F_a252_bits := F_a252_bits.keep K307 (ninS ne_a252_t_260 nin0)
        replace E_r_269 := E_r_269.keep K307
        replace F_r_269_low := F_r_269_low.keep K307 (ninS (Ne.symm ne_t_260_r_269) nin0)
        replace F_r_269_high := F_r_269_high.keep K307 (ninS (Ne.symm ne_t_260_r_269) nin0)
        replace E_r_277 := E_r_277.keep K307
        replace F_r_277_low := F_r_277_low.keep K307 (ninS (Ne.symm ne_t_260_r_277) nin0)
        replace F_r_277_high := F_r_277_high.keep K307 (ninS (Ne.symm ne_t_260_r_277) nin0)
        replace E_r_285 := E_r_285.keep K307
        replace F_r_285_low := F_r_285_low.keep K307 (ninS (Ne.symm ne_t_260_r_285) nin0)
        replace F_r_285_high := F_r_285_high.keep K307 (ninS (Ne.symm ne_t_260_r_285) nin0)
        replace A_t_245 := A_t_245.keep K307 (ninS ne_t_245_t_260 nin0)
        replace K := K.trans K307 (allS (P := fun x => x ∈ ([] : List Addr) ∨ h0.size ≤ x) (Or.inr nw_t_260) all0)
        have A_t_260 := nw_A_t_260; clear nw_A_t_260
        show own_Go Z EL n0 p e below s _ _ _ (T301.setTop (mkF m 96 #[.val (.long a), .second, .val (.long b), .second, .val (.long cc), .second, .val (.long ee), .second, .val (.int sel), .val (.int (0 : Int32)), .val (.int (1 : Int32)), .val (.int (0 : Int32)), .val (.ref a237), .val (.ref a252), .val (.ref r_285), .unset] []))
        refine own_aload (pc' := 98) w302 own_d13_96 rfl rfl rfl ?_
        refine own_iload (pc' := 100) w302 own_d13_98 rfl rfl ?_
        refine own_aload (pc' := 102) w302 own_d13_100 rfl rfl rfl ?_
        refine own_iload (pc' := 104) w302 own_d13_102 rfl rfl ?_
        refine own_callV (pc' := 107) w302 (hw _ (List.mem_of_getElem? (i := 54) rfl)) (hw _ (List.mem_of_getElem? (i := 55) rfl)) (fun s' hZ' => notFace_of_selects (args := #[]) (mvT hZ' (hw _ (List.mem_of_getElem? (i := 57) rfl)))) (hw _ (List.mem_of_getElem? (i := 57) rfl)) (hw _ (List.mem_of_getElem? (i := 56) rfl)) (hw _ (List.mem_of_getElem? (i := 2) rfl)) (hw _ (List.mem_of_getElem? (i := 58) rfl)) (by decide) E_a252 (own_ct_setAW10 l Z a0 hw EL hE n0 [] h303 (own_old w302) a252 a237 t_260 kt_261 t_245 kt_246 0 0 (own_sgn cc) cc (own_mh a b) (a * b) (own_sgn ee) ee F_a252_narrow F_a252_bits A_t_260 F_a237_bits A_t_245 ne_a252_t_260 ne_a237_t_260 ne_t_245_t_260) (allS (P := fun x => x ∈ _) (by simp) all0) (argsL := [(.int (1 : Int32)), (.ref a237), (.int (0 : Int32))]) (rest := []) rfl rfl own_pd9 rfl own_d13_104 rfl (by decide) (W := 0) rfl (by decide) (by decide) (by decide) fun T308 h310 v311 ms312 w309 q313 => ?_
        obtain ⟨K314, rfl, rfl, nw_A_t_260⟩ := q313
        replace E_a237 := E_a237.keep K314
        replace F_a237_narrow := F_a237_narrow.keep K314 (ninS ne_a237_t_260 nin0)
        replace F_a237_bits := F_a237_bits.keep K314 (ninS ne_a237_t_260 nin0)
        replace E_a252 := E_a252.keep K314
        replace F_a252_narrow := F_a252_narrow.keep K314 (ninS ne_a252_t_260 nin0)
        replace F_a252_bits := F_a252_bits.keep K314 (ninS ne_a252_t_260 nin0)
        replace E_r_269 := E_r_269.keep K314
        replace F_r_269_low := F_r_269_low.keep K314 (ninS (Ne.symm ne_t_260_r_269) nin0)
        replace F_r_269_high := F_r_269_high.keep K314 (ninS (Ne.symm ne_t_260_r_269) nin0)
        replace E_r_277 := E_r_277.keep K314
        replace F_r_277_low := F_r_277_low.keep K314 (ninS (Ne.symm ne_t_260_r_277) nin0)
        replace F_r_277_high := F_r_277_high.keep K314 (ninS (Ne.symm ne_t_260_r_277) nin0)
        replace E_r_285 := E_r_285.keep K314
        replace F_r_285_low := F_r_285_low.keep K314 (ninS (Ne.symm ne_t_260_r_285) nin0)
        replace F_r_285_high := F_r_285_high.keep K314 (ninS (Ne.symm ne_t_260_r_285) nin0)
        replace A_t_245 := A_t_245.keep K314 (ninS ne_t_245_t_260 nin0)
        replace K := K.trans K314 (allS (P := fun x => x ∈ ([] : List Addr) ∨ h0.size ≤ x) (Or.inr nw_t_260) all0)
        have A_t_260 := nw_A_t_260; clear nw_A_t_260
        show own_Go Z EL n0 p e below s _ _ _ (T308.setTop (mkF m 107 #[.val (.long a), .second, .val (.long b), .second, .val (.long cc), .second, .val (.long ee), .second, .val (.int sel), .val (.int (0 : Int32)), .val (.int (1 : Int32)), .val (.int (0 : Int32)), .val (.ref a237), .val (.ref a252), .val (.ref r_285), .unset] []))
        refine own_iload (pc' := 109) w309 own_d13_107 rfl rfl ?_
        refine own_if (pc' := 112) w309 own_d13_109 rfl (by decide) (pcY := 121) rfl (fun (hb109 : (0 : Int32) = (0 : Int32)) => ?_) (fun (hb109 : ¬ (0 : Int32) = (0 : Int32)) => absurd hb109 (by decide))
        refine own_aload (pc' := 123) w309 own_d13_121 rfl rfl rfl ?_
        refine own_astore (pc' := 125) w309 own_d13_123 rfl (Ls' := #[.val (.long a), .second, .val (.long b), .second, .val (.long cc), .second, .val (.long ee), .second, .val (.int sel), .val (.int (0 : Int32)), .val (.int (1 : Int32)), .val (.int (0 : Int32)), .val (.ref a237), .val (.ref a252), .val (.ref r_285), .val (.ref r_285)]) rfl rfl ?_
        refine own_aload (pc' := 127) w309 own_d13_125 rfl rfl rfl ?_
        refine own_iload (pc' := 129) w309 own_d13_127 rfl rfl ?_
        refine own_callV (pc' := 132) w309 (hw _ (List.mem_of_getElem? (i := 59) rfl)) (hw _ (List.mem_of_getElem? (i := 60) rfl)) (fun s' hZ' => notFace_of_selects (args := #[]) (mvT hZ' (hw _ (List.mem_of_getElem? (i := 62) rfl)))) (hw _ (List.mem_of_getElem? (i := 62) rfl)) (hw _ (List.mem_of_getElem? (i := 61) rfl)) (hw _ (List.mem_of_getElem? (i := 2) rfl)) (hw _ (List.mem_of_getElem? (i := 63) rfl)) (by decide) E_a252 (own_ct_getW1 l Z a0 hw EL hE n0 [] h310 (own_old w309) a252 t_260 kt_261 0 0 (own_mh a b) (a * b) F_a252_narrow F_a252_bits A_t_260) all0 (argsL := [(.int (1 : Int32))]) (rest := []) rfl rfl own_pd10 rfl own_d13_129 rfl (by decide) (W := 0) rfl (by decide) (by decide) (by decide) fun T315 h317 v318 ms319 w316 q320 => ?_
        obtain ⟨K322, r_321, rfl, rfl, nw_E_r_321, nw_F_r_321_low, nw_F_r_321_high, p129_getW1_0⟩ := q320
        have ne_a237_r_321 : a237 ≠ r_321 := Nat.ne_of_lt (Nat.lt_of_lt_of_le E_a237.lt p129_getW1_0)
        have ne_a252_r_321 : a252 ≠ r_321 := Nat.ne_of_lt (Nat.lt_of_lt_of_le E_a252.lt p129_getW1_0)
        have ne_r_269_r_321 : r_269 ≠ r_321 := Nat.ne_of_lt (Nat.lt_of_lt_of_le E_r_269.lt p129_getW1_0)
        have ne_r_277_r_321 : r_277 ≠ r_321 := Nat.ne_of_lt (Nat.lt_of_lt_of_le E_r_277.lt p129_getW1_0)
        have ne_r_285_r_321 : r_285 ≠ r_321 := Nat.ne_of_lt (Nat.lt_of_lt_of_le E_r_285.lt p129_getW1_0)
        have ne_t_245_r_321 : t_245 ≠ r_321 := Nat.ne_of_lt (Nat.lt_of_lt_of_le A_t_245.lt p129_getW1_0)
        have ne_t_260_r_321 : t_260 ≠ r_321 := Nat.ne_of_lt (Nat.lt_of_lt_of_le A_t_260.lt p129_getW1_0)
        have nw_r_321 : h0.size ≤ r_321 := Nat.le_trans K.1 p129_getW1_0
        replace E_a237 := E_a237.keep K322
        replace F_a237_narrow := F_a237_narrow.keep K322 nin0
        replace F_a237_bits := F_a237_bits.keep K322 nin0
        replace E_a252 := E_a252.keep K322
        replace F_a252_narrow := F_a252_narrow.keep K322 nin0
        replace F_a252_bits := F_a252_bits.keep K322 nin0
        replace E_r_269 := E_r_269.keep K322
        replace F_r_269_low := F_r_269_low.keep K322 nin0
        replace F_r_269_high := F_r_269_high.keep K322 nin0
        replace E_r_277 := E_r_277.keep K322
        replace F_r_277_low := F_r_277_low.keep K322 nin0
        replace F_r_277_high := F_r_277_high.keep K322 nin0
        replace E_r_285 := E_r_285.keep K322
        replace F_r_285_low := F_r_285_low.keep K322 nin0
        replace F_r_285_high := F_r_285_high.keep K322 nin0
        replace A_t_245 := A_t_245.keep K322 nin0
        replace A_t_260 := A_t_260.keep K322 nin0
        replace K := K.trans K322 all0
        have E_r_321 := nw_E_r_321; clear nw_E_r_321
        have F_r_321_low := nw_F_r_321_low; clear nw_F_r_321_low
        have F_r_321_high := nw_F_r_321_high; clear nw_F_r_321_high
        show own_Go Z EL n0 p e below s _ _ _ (T315.setTop (mkF m 132 #[.val (.long a), .second, .val (.long b), .second, .val (.long cc), .second, .val (.long ee), .second, .val (.int sel), .val (.int (0 : Int32)), .val (.int (1 : Int32)), .val (.int (0 : Int32)), .val (.ref a237), .val (.ref a252), .val (.ref r_285), .val (.ref r_285)] [(.ref r_321)]))
        refine own_aload (pc' := 134) w316 own_d13_132 rfl rfl rfl ?_
        refine own_callV (pc' := 137) w316 (hw _ (List.mem_of_getElem? (i := 65) rfl)) (hw _ (List.mem_of_getElem? (i := 66) rfl)) (fun s' hZ' => notFace_of_selects (args := #[]) (mvT hZ' (hw _ (List.mem_of_getElem? (i := 68) rfl)))) (hw _ (List.mem_of_getElem? (i := 68) rfl)) (hw _ (List.mem_of_getElem? (i := 67) rfl)) (hw _ (List.mem_of_getElem? (i := 18) rfl)) (hw _ (List.mem_of_getElem? (i := 69) rfl)) (by decide) E_r_321 (own_ct_ceq l Z a0 hw EL hE n0 [] h317 (own_old w316) r_321 r_285 (own_mh a b) (a * b) F_r_321_low F_r_321_high E_r_285 F_r_285_low F_r_285_high) all0 (argsL := [(.ref r_285)]) (rest := []) rfl rfl own_pd11 rfl own_d13_134 rfl (by decide) (W := 0) rfl (by decide) (by decide) (by decide) fun T323 h325 v326 ms327 w324 q328 => ?_
        obtain ⟨rfl, rfl, rfl⟩ := q328
        show own_Go Z EL n0 p e below s _ _ _ (T323.setTop (mkF m 137 #[.val (.long a), .second, .val (.long b), .second, .val (.long cc), .second, .val (.long ee), .second, .val (.int sel), .val (.int (0 : Int32)), .val (.int (1 : Int32)), .val (.int (0 : Int32)), .val (.ref a237), .val (.ref a252), .val (.ref r_285), .val (.ref r_285)] [(.int (1 : Int32))]))
        refine own_if (pc' := 140) w324 own_d13_137 rfl (by decide) (pcY := 171) rfl (fun (hb137 : (1 : Int32) = (0 : Int32)) => absurd hb137 (by decide)) (fun (hb137 : ¬ (1 : Int32) = (0 : Int32)) => ?_)
        refine own_aload (pc' := 142) w324 own_d13_140 rfl rfl rfl ?_
        refine own_iconst (pc' := 143) w324 own_d13_142 (x := (1 : Int32)) rfl rfl ?_
        refine own_iload (pc' := 145) w324 own_d13_143 rfl rfl ?_
        refine own_isub (pc' := 146) w324 own_d13_145 (z := (0 : Int32)) (by decide) rfl ?_
        refine own_callV (pc' := 149) w324 (hw _ (List.mem_of_getElem? (i := 71) rfl)) (hw _ (List.mem_of_getElem? (i := 72) rfl)) (fun s' hZ' => notFace_of_selects (args := #[]) (mvT hZ' (hw _ (List.mem_of_getElem? (i := 74) rfl)))) (hw _ (List.mem_of_getElem? (i := 74) rfl)) (hw _ (List.mem_of_getElem? (i := 73) rfl)) (hw _ (List.mem_of_getElem? (i := 2) rfl)) (hw _ (List.mem_of_getElem? (i := 75) rfl)) (by decide) E_a252 (own_ct_sigW0 l Z a0 hw EL hE n0 [] h317 (own_old w324) a252 t_260 kt_261 (own_mh a b) (a * b) F_a252_narrow F_a252_bits A_t_260) all0 (argsL := [(.int (0 : Int32))]) (rest := []) rfl rfl own_pd12 rfl own_d13_146 rfl (by decide) (W := 0) rfl (by decide) (by decide) (by decide) fun T329 h331 v332 ms333 w330 q334 => ?_
        obtain ⟨rfl, rfl, rfl⟩ := q334
        show own_Go Z EL n0 p e below s _ _ _ (T329.setTop (mkF m 149 #[.val (.long a), .second, .val (.long b), .second, .val (.long cc), .second, .val (.long ee), .second, .val (.int sel), .val (.int (0 : Int32)), .val (.int (1 : Int32)), .val (.int (0 : Int32)), .val (.ref a237), .val (.ref a252), .val (.ref r_285), .val (.ref r_285)] [(.int (0 : Int32))]))
        refine own_if (pc' := 152) w330 own_d13_149 rfl (by decide) (pcY := 171) rfl (fun (hb149 : ¬ (0 : Int32) = (0 : Int32)) => absurd hb149 (by decide)) (fun (hb149 : (0 : Int32) = (0 : Int32)) => ?_)
        refine own_aload (pc' := 154) w330 own_d13_152 rfl rfl rfl ?_
        refine own_iload (pc' := 156) w330 own_d13_154 rfl rfl ?_
        refine own_callV (pc' := 159) w330 (hw _ (List.mem_of_getElem? (i := 59) rfl)) (hw _ (List.mem_of_getElem? (i := 60) rfl)) (fun s' hZ' => notFace_of_selects (args := #[]) (mvT hZ' (hw _ (List.mem_of_getElem? (i := 62) rfl)))) (hw _ (List.mem_of_getElem? (i := 62) rfl)) (hw _ (List.mem_of_getElem? (i := 61) rfl)) (hw _ (List.mem_of_getElem? (i := 2) rfl)) (hw _ (List.mem_of_getElem? (i := 63) rfl)) (by decide) E_a237 (own_ct_getW0 l Z a0 hw EL hE n0 [] h317 (own_old w330) a237 t_245 kt_246 (own_mh a b) (a * b) (own_sgn ee) ee F_a237_narrow F_a237_bits A_t_245) all0 (argsL := [(.int (0 : Int32))]) (rest := []) rfl rfl own_pd10 rfl own_d13_156 rfl (by decide) (W := 0) rfl (by decide) (by decide) (by decide) fun T335 h337 v338 ms339 w336 q340 => ?_
        obtain ⟨K342, r_341, rfl, rfl, nw_E_r_341, nw_F_r_341_low, nw_F_r_341_high, p156_getW0_0⟩ := q340
        have ne_a237_r_341 : a237 ≠ r_341 := Nat.ne_of_lt (Nat.lt_of_lt_of_le E_a237.lt p156_getW0_0)
        have ne_a252_r_341 : a252 ≠ r_341 := Nat.ne_of_lt (Nat.lt_of_lt_of_le E_a252.lt p156_getW0_0)
        have ne_r_269_r_341 : r_269 ≠ r_341 := Nat.ne_of_lt (Nat.lt_of_lt_of_le E_r_269.lt p156_getW0_0)
        have ne_r_277_r_341 : r_277 ≠ r_341 := Nat.ne_of_lt (Nat.lt_of_lt_of_le E_r_277.lt p156_getW0_0)
        have ne_r_285_r_341 : r_285 ≠ r_341 := Nat.ne_of_lt (Nat.lt_of_lt_of_le E_r_285.lt p156_getW0_0)
        have ne_r_321_r_341 : r_321 ≠ r_341 := Nat.ne_of_lt (Nat.lt_of_lt_of_le E_r_321.lt p156_getW0_0)
        have ne_t_245_r_341 : t_245 ≠ r_341 := Nat.ne_of_lt (Nat.lt_of_lt_of_le A_t_245.lt p156_getW0_0)
        have ne_t_260_r_341 : t_260 ≠ r_341 := Nat.ne_of_lt (Nat.lt_of_lt_of_le A_t_260.lt p156_getW0_0)
        have nw_r_341 : h0.size ≤ r_341 := Nat.le_trans K.1 p156_getW0_0
        replace E_a237 := E_a237.keep K342
        replace F_a237_narrow := F_a237_narrow.keep K342 nin0
        replace F_a237_bits := F_a237_bits.keep K342 nin0
        replace E_a252 := E_a252.keep K342
        replace F_a252_narrow := F_a252_narrow.keep K342 nin0
        replace F_a252_bits := F_a252_bits.keep K342 nin0
        replace E_r_269 := E_r_269.keep K342
        replace F_r_269_low := F_r_269_low.keep K342 nin0
        replace F_r_269_high := F_r_269_high.keep K342 nin0
        replace E_r_277 := E_r_277.keep K342
        replace F_r_277_low := F_r_277_low.keep K342 nin0
        replace F_r_277_high := F_r_277_high.keep K342 nin0
        replace E_r_285 := E_r_285.keep K342
        replace F_r_285_low := F_r_285_low.keep K342 nin0
        replace F_r_285_high := F_r_285_high.keep K342 nin0
        replace A_t_245 := A_t_245.keep K342 nin0
        replace A_t_260 := A_t_260.keep K342 nin0
        replace E_r_321 := E_r_321.keep K342
        replace F_r_321_low := F_r_321_low.keep K342 nin0
        replace F_r_321_high := F_r_321_high.keep K342 nin0
        replace K := K.trans K342 all0
        have E_r_341 := nw_E_r_341; clear nw_E_r_341
        have F_r_341_low := nw_F_r_341_low; clear nw_F_r_341_low
        have F_r_341_high := nw_F_r_341_high; clear nw_F_r_341_high
        show own_Go Z EL n0 p e below s _ _ _ (T335.setTop (mkF m 159 #[.val (.long a), .second, .val (.long b), .second, .val (.long cc), .second, .val (.long ee), .second, .val (.int sel), .val (.int (0 : Int32)), .val (.int (1 : Int32)), .val (.int (0 : Int32)), .val (.ref a237), .val (.ref a252), .val (.ref r_285), .val (.ref r_285)] [(.ref r_341)]))
        refine own_aload (pc' := 161) w336 own_d13_159 rfl rfl rfl ?_
        refine own_callV (pc' := 164) w336 (hw _ (List.mem_of_getElem? (i := 65) rfl)) (hw _ (List.mem_of_getElem? (i := 66) rfl)) (fun s' hZ' => notFace_of_selects (args := #[]) (mvT hZ' (hw _ (List.mem_of_getElem? (i := 68) rfl)))) (hw _ (List.mem_of_getElem? (i := 68) rfl)) (hw _ (List.mem_of_getElem? (i := 67) rfl)) (hw _ (List.mem_of_getElem? (i := 18) rfl)) (hw _ (List.mem_of_getElem? (i := 69) rfl)) (by decide) E_r_341 (own_ct_ceq l Z a0 hw EL hE n0 [] h337 (own_old w336) r_341 r_285 (own_mh a b) (a * b) F_r_341_low F_r_341_high E_r_285 F_r_285_low F_r_285_high) all0 (argsL := [(.ref r_285)]) (rest := []) rfl rfl own_pd11 rfl own_d13_161 rfl (by decide) (W := 0) rfl (by decide) (by decide) (by decide) fun T343 h345 v346 ms347 w344 q348 => ?_
        obtain ⟨rfl, rfl, rfl⟩ := q348
        show own_Go Z EL n0 p e below s _ _ _ (T343.setTop (mkF m 164 #[.val (.long a), .second, .val (.long b), .second, .val (.long cc), .second, .val (.long ee), .second, .val (.int sel), .val (.int (0 : Int32)), .val (.int (1 : Int32)), .val (.int (0 : Int32)), .val (.ref a237), .val (.ref a252), .val (.ref r_285), .val (.ref r_285)] [(.int (1 : Int32))]))
        refine own_if (pc' := 167) w344 own_d13_164 rfl (by decide) (pcY := 171) rfl (fun (hb164 : (1 : Int32) = (0 : Int32)) => absurd hb164 (by decide)) (fun (hb164 : ¬ (1 : Int32) = (0 : Int32)) => ?_)
        refine own_iconst (pc' := 168) w344 own_d13_167 (x := (1 : Int32)) rfl rfl ?_
        refine own_goto w344 own_d13_168 (by decide) (pc' := 172) rfl ?_
        exact own_retV w344 (t := .boolean) rfl rfl (Or.inl ⟨rfl, by simp, _, rfl⟩) own_d13_172 (by decide) (by decide) (ms' := []) all0 ⟨K, rfl, rfl⟩
      · -- t11
        refine own_iand (pc' := 28) w0 own_d13_27 (z := (1 : Int32)) hat rfl ?_
        refine own_istore (pc' := 30) w0 own_d13_28 (Ls' := #[.val (.long a), .second, .val (.long b), .second, .val (.long cc), .second, .val (.long ee), .second, .val (.int sel), .val (.int (0 : Int32)), .val (.int (1 : Int32)), .val (.int (1 : Int32)), .unset, .unset, .unset, .unset]) rfl rfl ?_
        refine own_newO (pc' := 33) w0 (hw _ (List.mem_of_getElem? (i := 0) rfl)) (hw _ (List.mem_of_getElem? (i := 1) rfl)) (hw _ (List.mem_of_getElem? (i := 2) rfl)) own_d13_30 rfl (by decide) (by decide) fun T349 h351 a353 g_a353 w350 E352 ⟨E_a353, D354⟩ => ?_
        have nw_a353 : h0.size ≤ a353 := Nat.le_trans K.1 (Nat.le_of_eq g_a353)
        replace K := K.ext E352
        have F_a353_product : Fld Z h351 a353 "com/example/throng/throng/engine/Count$Array" "product" "[J" .null := D354 (Or.inr (hw _ (List.mem_of_getElem? (i := 11) rfl))) (ty := (.array .long)) (by decide)
        have F_a353_narrow : Fld Z h351 a353 "com/example/throng/throng/engine/Count$Array" "narrow" "Z" (.int 0) := D354 (Or.inr (hw _ (List.mem_of_getElem? (i := 13) rfl))) (ty := .boolean) (by decide)
        have F_a353_bits : Fld Z h351 a353 "com/example/throng/throng/engine/Count$Array" "bits" "[J" .null := D354 (Or.inr (hw _ (List.mem_of_getElem? (i := 15) rfl))) (ty := (.array .long)) (by decide)
        refine own_dup (pc' := 34) w350 own_d13_33 rfl rfl ?_
        refine own_iconst (pc' := 35) w350 own_d13_34 (x := (2 : Int32)) rfl rfl ?_
        refine own_iload (pc' := 37) w350 own_d13_35 rfl rfl ?_
        refine own_callI (pc' := 40) w350 rfl (hw _ (List.mem_of_getElem? (i := 3) rfl)) (hw _ (List.mem_of_getElem? (i := 4) rfl)) (hw _ (List.mem_of_getElem? (i := 2) rfl)) (hw _ (List.mem_of_getElem? (i := 5) rfl)) (by decide) (own_ct_aInitW l Z a0 hw EL hE n0 [] h351 (own_old w350) a353 .null (.int 0) .null E_a353 F_a353_product F_a353_narrow F_a353_bits) (allS (P := fun x => x ∈ _) (by simp) all0) (argsL := [(.int (2 : Int32)), (.int (0 : Int32))]) (rest := [(.ref a353)]) rfl rfl own_pd5 rfl own_d13_37 rfl (by decide) (W := 1) rfl (by decide) (by decide) (by decide) fun T355 h357 v358 ms359 w356 q360 => ?_
        obtain ⟨K363, t_361, kt_362, rfl, rfl, nw_E_a353, nw_F_a353_narrow, nw_F_a353_bits, nw_A_t_361, p37_aInitW_0⟩ := q360
        have ne_a353_t_361 : a353 ≠ t_361 := Nat.ne_of_lt (Nat.lt_of_lt_of_le E_a353.lt p37_aInitW_0)
        have nw_t_361 : h0.size ≤ t_361 := Nat.le_trans K.1 p37_aInitW_0
        replace K := K.trans K363 (allS (P := fun x => x ∈ ([] : List Addr) ∨ h0.size ≤ x) (Or.inr nw_a353) all0)
        have E_a353 := nw_E_a353; clear nw_E_a353
        have F_a353_narrow := nw_F_a353_narrow; clear nw_F_a353_narrow
        have F_a353_bits := nw_F_a353_bits; clear nw_F_a353_bits
        have A_t_361 := nw_A_t_361; clear nw_A_t_361
        show own_Go Z EL n0 p e below s _ _ _ (T355.setTop (mkF m 40 #[.val (.long a), .second, .val (.long b), .second, .val (.long cc), .second, .val (.long ee), .second, .val (.int sel), .val (.int (0 : Int32)), .val (.int (1 : Int32)), .val (.int (1 : Int32)), .unset, .unset, .unset, .unset] [(.ref a353)]))
        refine own_astore (pc' := 42) w356 own_d13_40 rfl (Ls' := #[.val (.long a), .second, .val (.long b), .second, .val (.long cc), .second, .val (.long ee), .second, .val (.int sel), .val (.int (0 : Int32)), .val (.int (1 : Int32)), .val (.int (1 : Int32)), .val (.ref a353), .unset, .unset, .unset]) rfl rfl ?_
        refine own_newO (pc' := 45) w356 (hw _ (List.mem_of_getElem? (i := 0) rfl)) (hw _ (List.mem_of_getElem? (i := 1) rfl)) (hw _ (List.mem_of_getElem? (i := 2) rfl)) own_d13_42 rfl (by decide) (by decide) fun T364 h366 a368 g_a368 w365 E367 ⟨E_a368, D369⟩ => ?_
        have ne_a353_a368 : a353 ≠ a368 := Nat.ne_of_lt (Nat.lt_of_lt_of_le E_a353.lt (Nat.le_of_eq g_a368))
        have ne_t_361_a368 : t_361 ≠ a368 := Nat.ne_of_lt (Nat.lt_of_lt_of_le A_t_361.lt (Nat.le_of_eq g_a368))
        have nw_a368 : h0.size ≤ a368 := Nat.le_trans K.1 (Nat.le_of_eq g_a368)
        replace E_a353 := E_a353.ext E367
        replace F_a353_narrow := F_a353_narrow.ext E367
        replace F_a353_bits := F_a353_bits.ext E367
        replace A_t_361 := A_t_361.ext E367
        replace K := K.ext E367
        have F_a368_product : Fld Z h366 a368 "com/example/throng/throng/engine/Count$Array" "product" "[J" .null := D369 (Or.inr (hw _ (List.mem_of_getElem? (i := 11) rfl))) (ty := (.array .long)) (by decide)
        have F_a368_narrow : Fld Z h366 a368 "com/example/throng/throng/engine/Count$Array" "narrow" "Z" (.int 0) := D369 (Or.inr (hw _ (List.mem_of_getElem? (i := 13) rfl))) (ty := .boolean) (by decide)
        have F_a368_bits : Fld Z h366 a368 "com/example/throng/throng/engine/Count$Array" "bits" "[J" .null := D369 (Or.inr (hw _ (List.mem_of_getElem? (i := 15) rfl))) (ty := (.array .long)) (by decide)
        refine own_dup (pc' := 46) w365 own_d13_45 rfl rfl ?_
        refine own_iconst (pc' := 47) w365 own_d13_46 (x := (2 : Int32)) rfl rfl ?_
        refine own_iload (pc' := 49) w365 own_d13_47 rfl rfl ?_
        refine own_callI (pc' := 52) w365 rfl (hw _ (List.mem_of_getElem? (i := 3) rfl)) (hw _ (List.mem_of_getElem? (i := 4) rfl)) (hw _ (List.mem_of_getElem? (i := 2) rfl)) (hw _ (List.mem_of_getElem? (i := 5) rfl)) (by decide) (own_ct_aInitW l Z a0 hw EL hE n0 [] h366 (own_old w365) a368 .null (.int 0) .null E_a368 F_a368_product F_a368_narrow F_a368_bits) (allS (P := fun x => x ∈ _) (by simp) all0) (argsL := [(.int (2 : Int32)), (.int (0 : Int32))]) (rest := [(.ref a368)]) rfl rfl own_pd5 rfl own_d13_49 rfl (by decide) (W := 1) rfl (by decide) (by decide) (by decide) fun T370 h372 v373 ms374 w371 q375 => ?_
        obtain ⟨K378, t_376, kt_377, rfl, rfl, nw_E_a368, nw_F_a368_narrow, nw_F_a368_bits, nw_A_t_376, p49_aInitW_0⟩ := q375
        have ne_a353_t_376 : a353 ≠ t_376 := Nat.ne_of_lt (Nat.lt_of_lt_of_le E_a353.lt p49_aInitW_0)
        have ne_a368_t_376 : a368 ≠ t_376 := Nat.ne_of_lt (Nat.lt_of_lt_of_le E_a368.lt p49_aInitW_0)
        have ne_t_361_t_376 : t_361 ≠ t_376 := Nat.ne_of_lt (Nat.lt_of_lt_of_le A_t_361.lt p49_aInitW_0)
        have nw_t_376 : h0.size ≤ t_376 := Nat.le_trans K.1 p49_aInitW_0
        replace E_a353 := E_a353.keep K378
        replace F_a353_narrow := F_a353_narrow.keep K378 (ninS ne_a353_a368 nin0)
        replace F_a353_bits := F_a353_bits.keep K378 (ninS ne_a353_a368 nin0)
        replace A_t_361 := A_t_361.keep K378 (ninS ne_t_361_a368 nin0)
        replace K := K.trans K378 (allS (P := fun x => x ∈ ([] : List Addr) ∨ h0.size ≤ x) (Or.inr nw_a368) all0)
        have E_a368 := nw_E_a368; clear nw_E_a368
        have F_a368_narrow := nw_F_a368_narrow; clear nw_F_a368_narrow
        have F_a368_bits := nw_F_a368_bits; clear nw_F_a368_bits
        have A_t_376 := nw_A_t_376; clear nw_A_t_376
        show own_Go Z EL n0 p e below s _ _ _ (T370.setTop (mkF m 52 #[.val (.long a), .second, .val (.long b), .second, .val (.long cc), .second, .val (.long ee), .second, .val (.int sel), .val (.int (0 : Int32)), .val (.int (1 : Int32)), .val (.int (1 : Int32)), .val (.ref a353), .unset, .unset, .unset] [(.ref a368)]))
        refine own_astore (pc' := 54) w371 own_d13_52 rfl (Ls' := #[.val (.long a), .second, .val (.long b), .second, .val (.long cc), .second, .val (.long ee), .second, .val (.int sel), .val (.int (0 : Int32)), .val (.int (1 : Int32)), .val (.int (1 : Int32)), .val (.ref a353), .val (.ref a368), .unset, .unset]) rfl rfl ?_
        refine own_lloadN (pc' := 55) w371 own_d13_54 rfl rfl ?_
        refine own_callS (pc' := 58) w371 (hw _ (List.mem_of_getElem? (i := 16) rfl)) (hw _ (List.mem_of_getElem? (i := 17) rfl)) (hw _ (List.mem_of_getElem? (i := 18) rfl)) (hw _ (List.mem_of_getElem? (i := 19) rfl)) (by decide) (own_ct_cOf l Z a0 hw EL hE n0 [] h372 (own_old w371) a ) all0 (argsL := [(.long a)]) (rest := []) rfl rfl own_pd4 rfl own_d13_55 rfl (by decide) (W := 0) rfl (by decide) (by decide) (by decide) fun T379 h381 v382 ms383 w380 q384 => ?_
        obtain ⟨K386, r_385, rfl, rfl, nw_E_r_385, nw_F_r_385_low, nw_F_r_385_high, p55_cOf_0⟩ := q384
        have ne_a353_r_385 : a353 ≠ r_385 := Nat.ne_of_lt (Nat.lt_of_lt_of_le E_a353.lt p55_cOf_0)
        have ne_a368_r_385 : a368 ≠ r_385 := Nat.ne_of_lt (Nat.lt_of_lt_of_le E_a368.lt p55_cOf_0)
        have ne_t_361_r_385 : t_361 ≠ r_385 := Nat.ne_of_lt (Nat.lt_of_lt_of_le A_t_361.lt p55_cOf_0)
        have ne_t_376_r_385 : t_376 ≠ r_385 := Nat.ne_of_lt (Nat.lt_of_lt_of_le A_t_376.lt p55_cOf_0)
        have nw_r_385 : h0.size ≤ r_385 := Nat.le_trans K.1 p55_cOf_0
        replace E_a353 := E_a353.keep K386
        replace F_a353_narrow := F_a353_narrow.keep K386 nin0
        replace F_a353_bits := F_a353_bits.keep K386 nin0
        replace A_t_361 := A_t_361.keep K386 nin0
        replace E_a368 := E_a368.keep K386
        replace F_a368_narrow := F_a368_narrow.keep K386 nin0
        replace F_a368_bits := F_a368_bits.keep K386 nin0
        replace A_t_376 := A_t_376.keep K386 nin0
        replace K := K.trans K386 all0
        have E_r_385 := nw_E_r_385; clear nw_E_r_385
        have F_r_385_low := nw_F_r_385_low; clear nw_F_r_385_low
        have F_r_385_high := nw_F_r_385_high; clear nw_F_r_385_high
        show own_Go Z EL n0 p e below s _ _ _ (T379.setTop (mkF m 58 #[.val (.long a), .second, .val (.long b), .second, .val (.long cc), .second, .val (.long ee), .second, .val (.int sel), .val (.int (0 : Int32)), .val (.int (1 : Int32)), .val (.int (1 : Int32)), .val (.ref a353), .val (.ref a368), .unset, .unset] [(.ref r_385)]))
        refine own_lloadN (pc' := 59) w380 own_d13_58 rfl rfl ?_
        refine own_callS (pc' := 62) w380 (hw _ (List.mem_of_getElem? (i := 16) rfl)) (hw _ (List.mem_of_getElem? (i := 17) rfl)) (hw _ (List.mem_of_getElem? (i := 18) rfl)) (hw _ (List.mem_of_getElem? (i := 19) rfl)) (by decide) (own_ct_cOf l Z a0 hw EL hE n0 [] h381 (own_old w380) b ) all0 (argsL := [(.long b)]) (rest := [(.ref r_385)]) rfl rfl own_pd4 rfl own_d13_59 rfl (by decide) (W := 1) rfl (by decide) (by decide) (by decide) fun T387 h389 v390 ms391 w388 q392 => ?_
        obtain ⟨K394, r_393, rfl, rfl, nw_E_r_393, nw_F_r_393_low, nw_F_r_393_high, p59_cOf_0⟩ := q392
        have ne_a353_r_393 : a353 ≠ r_393 := Nat.ne_of_lt (Nat.lt_of_lt_of_le E_a353.lt p59_cOf_0)
        have ne_a368_r_393 : a368 ≠ r_393 := Nat.ne_of_lt (Nat.lt_of_lt_of_le E_a368.lt p59_cOf_0)
        have ne_r_385_r_393 : r_385 ≠ r_393 := Nat.ne_of_lt (Nat.lt_of_lt_of_le E_r_385.lt p59_cOf_0)
        have ne_t_361_r_393 : t_361 ≠ r_393 := Nat.ne_of_lt (Nat.lt_of_lt_of_le A_t_361.lt p59_cOf_0)
        have ne_t_376_r_393 : t_376 ≠ r_393 := Nat.ne_of_lt (Nat.lt_of_lt_of_le A_t_376.lt p59_cOf_0)
        have nw_r_393 : h0.size ≤ r_393 := Nat.le_trans K.1 p59_cOf_0
        replace E_a353 := E_a353.keep K394
        replace F_a353_narrow := F_a353_narrow.keep K394 nin0
        replace F_a353_bits := F_a353_bits.keep K394 nin0
        replace A_t_361 := A_t_361.keep K394 nin0
        replace E_a368 := E_a368.keep K394
        replace F_a368_narrow := F_a368_narrow.keep K394 nin0
        replace F_a368_bits := F_a368_bits.keep K394 nin0
        replace A_t_376 := A_t_376.keep K394 nin0
        replace E_r_385 := E_r_385.keep K394
        replace F_r_385_low := F_r_385_low.keep K394 nin0
        replace F_r_385_high := F_r_385_high.keep K394 nin0
        replace K := K.trans K394 all0
        have E_r_393 := nw_E_r_393; clear nw_E_r_393
        have F_r_393_low := nw_F_r_393_low; clear nw_F_r_393_low
        have F_r_393_high := nw_F_r_393_high; clear nw_F_r_393_high
        show own_Go Z EL n0 p e below s _ _ _ (T387.setTop (mkF m 62 #[.val (.long a), .second, .val (.long b), .second, .val (.long cc), .second, .val (.long ee), .second, .val (.int sel), .val (.int (0 : Int32)), .val (.int (1 : Int32)), .val (.int (1 : Int32)), .val (.ref a353), .val (.ref a368), .unset, .unset] [(.ref r_393), (.ref r_385)]))
        refine own_callV (pc' := 65) w388 (hw _ (List.mem_of_getElem? (i := 30) rfl)) (hw _ (List.mem_of_getElem? (i := 31) rfl)) (fun s' hZ' => notFace_of_selects (args := #[]) (mvT hZ' (hw _ (List.mem_of_getElem? (i := 33) rfl)))) (hw _ (List.mem_of_getElem? (i := 33) rfl)) (hw _ (List.mem_of_getElem? (i := 32) rfl)) (hw _ (List.mem_of_getElem? (i := 18) rfl)) (hw _ (List.mem_of_getElem? (i := 34) rfl)) (by decide) E_r_385 (own_ct_times l Z a0 hw EL hE n0 [] h389 (own_old w388) r_385 r_393 a b F_r_385_low F_r_385_high F_r_393_low F_r_393_high) all0 (argsL := [(.ref r_393)]) (rest := []) rfl rfl own_pd6 rfl own_d13_62 rfl (by decide) (W := 0) rfl (by decide) (by decide) (by decide) fun T395 h397 v398 ms399 w396 q400 => ?_
        obtain ⟨K402, r_401, rfl, rfl, nw_E_r_401, nw_F_r_401_low, nw_F_r_401_high, p62_times_0⟩ := q400
        have ne_a353_r_401 : a353 ≠ r_401 := Nat.ne_of_lt (Nat.lt_of_lt_of_le E_a353.lt p62_times_0)
        have ne_a368_r_401 : a368 ≠ r_401 := Nat.ne_of_lt (Nat.lt_of_lt_of_le E_a368.lt p62_times_0)
        have ne_r_385_r_401 : r_385 ≠ r_401 := Nat.ne_of_lt (Nat.lt_of_lt_of_le E_r_385.lt p62_times_0)
        have ne_r_393_r_401 : r_393 ≠ r_401 := Nat.ne_of_lt (Nat.lt_of_lt_of_le E_r_393.lt p62_times_0)
        have ne_t_361_r_401 : t_361 ≠ r_401 := Nat.ne_of_lt (Nat.lt_of_lt_of_le A_t_361.lt p62_times_0)
        have ne_t_376_r_401 : t_376 ≠ r_401 := Nat.ne_of_lt (Nat.lt_of_lt_of_le A_t_376.lt p62_times_0)
        have nw_r_401 : h0.size ≤ r_401 := Nat.le_trans K.1 p62_times_0
        replace E_a353 := E_a353.keep K402
        replace F_a353_narrow := F_a353_narrow.keep K402 nin0
        replace F_a353_bits := F_a353_bits.keep K402 nin0
        replace A_t_361 := A_t_361.keep K402 nin0
        replace E_a368 := E_a368.keep K402
        replace F_a368_narrow := F_a368_narrow.keep K402 nin0
        replace F_a368_bits := F_a368_bits.keep K402 nin0
        replace A_t_376 := A_t_376.keep K402 nin0
        replace E_r_385 := E_r_385.keep K402
        replace F_r_385_low := F_r_385_low.keep K402 nin0
        replace F_r_385_high := F_r_385_high.keep K402 nin0
        replace E_r_393 := E_r_393.keep K402
        replace F_r_393_low := F_r_393_low.keep K402 nin0
        replace F_r_393_high := F_r_393_high.keep K402 nin0
        replace K := K.trans K402 all0
        have E_r_401 := nw_E_r_401; clear nw_E_r_401
        have F_r_401_low := nw_F_r_401_low; clear nw_F_r_401_low
        have F_r_401_high := nw_F_r_401_high; clear nw_F_r_401_high
        show own_Go Z EL n0 p e below s _ _ _ (T395.setTop (mkF m 65 #[.val (.long a), .second, .val (.long b), .second, .val (.long cc), .second, .val (.long ee), .second, .val (.int sel), .val (.int (0 : Int32)), .val (.int (1 : Int32)), .val (.int (1 : Int32)), .val (.ref a353), .val (.ref a368), .unset, .unset] [(.ref r_401)]))
        refine own_astore (pc' := 67) w396 own_d13_65 rfl (Ls' := #[.val (.long a), .second, .val (.long b), .second, .val (.long cc), .second, .val (.long ee), .second, .val (.int sel), .val (.int (0 : Int32)), .val (.int (1 : Int32)), .val (.int (1 : Int32)), .val (.ref a353), .val (.ref a368), .val (.ref r_401), .unset]) rfl rfl ?_
        refine own_aload (pc' := 69) w396 own_d13_67 rfl rfl rfl ?_
        refine own_iload (pc' := 71) w396 own_d13_69 rfl rfl ?_
        refine own_aload (pc' := 73) w396 own_d13_71 rfl rfl rfl ?_
        refine own_callV (pc' := 76) w396 (hw _ (List.mem_of_getElem? (i := 43) rfl)) (hw _ (List.mem_of_getElem? (i := 44) rfl)) (fun s' hZ' => notFace_of_selects (args := #[]) (mvT hZ' (hw _ (List.mem_of_getElem? (i := 46) rfl)))) (hw _ (List.mem_of_getElem? (i := 46) rfl)) (hw _ (List.mem_of_getElem? (i := 45) rfl)) (hw _ (List.mem_of_getElem? (i := 2) rfl)) (hw _ (List.mem_of_getElem? (i := 47) rfl)) (by decide) E_a353 (own_ct_setCW1 l Z a0 hw EL hE n0 [] h397 (own_old w396) a353 r_401 t_361 kt_362 (own_mh a b) (a * b) 0 0 0 0 F_a353_narrow F_a353_bits A_t_361 F_r_401_low F_r_401_high ne_a353_t_361 (Ne.symm ne_t_361_r_401)) (allS (P := fun x => x ∈ _) (by simp) all0) (argsL := [(.int (1 : Int32)), (.ref r_401)]) (rest := []) rfl rfl own_pd7 rfl own_d13_73 rfl (by decide) (W := 0) rfl (by decide) (by decide) (by decide) fun T403 h405 v406 ms407 w404 q408 => ?_
        obtain ⟨K409, rfl, rfl, nw_A_t_361⟩ := q408
        replace E_a353 := E_a353.keep K409
        replace F_a353_narrow := F_a353_narrow.keep K409 (ninS ne_a353_t_361 nin0)
        replace F_a353_bits := F_a353_bits.keep K409 (ninS ne_a353_t_361 nin0)
        replace E_a368 := E_a368.keep K409
        replace F_a368_narrow := F_a368_narrow.keep K409 (ninS (Ne.symm ne_t_361_a368) nin0)
        replace F_a368_bits := F_a368_bits.keep K409 (ninS (Ne.symm ne_t_361_a368) nin0)
        replace A_t_376 := A_t_376.keep K409 (ninS (Ne.symm ne_t_361_t_376) nin0)
        replace E_r_385 := E_r_385.keep K409
        replace F_r_385_low := F_r_385_low.keep K409 (ninS (Ne.symm ne_t_361_r_385) nin0)
        replace F_r_385_high := F_r_385_high.keep K409 (ninS (Ne.symm ne_t_361_r_385) nin0)
        replace E_r_393 := E_r_393.keep K409
        replace F_r_393_low := F_r_393_low.keep K409 (ninS (Ne.symm ne_t_361_r_393) nin0)
        replace F_r_393_high := F_r_393_high.keep K409 (ninS (Ne.symm ne_t_361_r_393) nin0)
        replace E_r_401 := E_r_401.keep K409
        replace F_r_401_low := F_r_401_low.keep K409 (ninS (Ne.symm ne_t_361_r_401) nin0)
        replace F_r_401_high := F_r_401_high.keep K409 (ninS (Ne.symm ne_t_361_r_401) nin0)
        replace K := K.trans K409 (allS (P := fun x => x ∈ ([] : List Addr) ∨ h0.size ≤ x) (Or.inr nw_t_361) all0)
        have A_t_361 := nw_A_t_361; clear nw_A_t_361
        show own_Go Z EL n0 p e below s _ _ _ (T403.setTop (mkF m 76 #[.val (.long a), .second, .val (.long b), .second, .val (.long cc), .second, .val (.long ee), .second, .val (.int sel), .val (.int (0 : Int32)), .val (.int (1 : Int32)), .val (.int (1 : Int32)), .val (.ref a353), .val (.ref a368), .val (.ref r_401), .unset] []))
        refine own_aload (pc' := 78) w404 own_d13_76 rfl rfl rfl ?_
        refine own_iconst (pc' := 79) w404 own_d13_78 (x := (1 : Int32)) rfl rfl ?_
        refine own_iload (pc' := 81) w404 own_d13_79 rfl rfl ?_
        refine own_isub (pc' := 82) w404 own_d13_81 (z := (0 : Int32)) (by decide) rfl ?_
        refine own_lload (pc' := 84) w404 own_d13_82 rfl rfl ?_
        refine own_callV (pc' := 87) w404 (hw _ (List.mem_of_getElem? (i := 49) rfl)) (hw _ (List.mem_of_getElem? (i := 50) rfl)) (fun s' hZ' => notFace_of_selects (args := #[]) (mvT hZ' (hw _ (List.mem_of_getElem? (i := 52) rfl)))) (hw _ (List.mem_of_getElem? (i := 52) rfl)) (hw _ (List.mem_of_getElem? (i := 51) rfl)) (hw _ (List.mem_of_getElem? (i := 2) rfl)) (hw _ (List.mem_of_getElem? (i := 53) rfl)) (by decide) E_a353 (own_ct_setJW0 l Z a0 hw EL hE n0 [] h405 (own_old w404) a353 ee t_361 kt_362 0 0 (own_mh a b) (a * b) F_a353_narrow F_a353_bits A_t_361 ne_a353_t_361) (allS (P := fun x => x ∈ _) (by simp) all0) (argsL := [(.int (0 : Int32)), (.long ee)]) (rest := []) rfl rfl own_pd8 rfl own_d13_84 rfl (by decide) (W := 0) rfl (by decide) (by decide) (by decide) fun T410 h412 v413 ms414 w411 q415 => ?_
        obtain ⟨K416, rfl, rfl, nw_A_t_361⟩ := q415
        replace E_a353 := E_a353.keep K416
        replace F_a353_narrow := F_a353_narrow.keep K416 (ninS ne_a353_t_361 nin0)
        replace F_a353_bits := F_a353_bits.keep K416 (ninS ne_a353_t_361 nin0)
        replace E_a368 := E_a368.keep K416
        replace F_a368_narrow := F_a368_narrow.keep K416 (ninS (Ne.symm ne_t_361_a368) nin0)
        replace F_a368_bits := F_a368_bits.keep K416 (ninS (Ne.symm ne_t_361_a368) nin0)
        replace A_t_376 := A_t_376.keep K416 (ninS (Ne.symm ne_t_361_t_376) nin0)
        replace E_r_385 := E_r_385.keep K416
        replace F_r_385_low := F_r_385_low.keep K416 (ninS (Ne.symm ne_t_361_r_385) nin0)
        replace F_r_385_high := F_r_385_high.keep K416 (ninS (Ne.symm ne_t_361_r_385) nin0)
        replace E_r_393 := E_r_393.keep K416
        replace F_r_393_low := F_r_393_low.keep K416 (ninS (Ne.symm ne_t_361_r_393) nin0)
        replace F_r_393_high := F_r_393_high.keep K416 (ninS (Ne.symm ne_t_361_r_393) nin0)
        replace E_r_401 := E_r_401.keep K416
        replace F_r_401_low := F_r_401_low.keep K416 (ninS (Ne.symm ne_t_361_r_401) nin0)
        replace F_r_401_high := F_r_401_high.keep K416 (ninS (Ne.symm ne_t_361_r_401) nin0)
        replace K := K.trans K416 (allS (P := fun x => x ∈ ([] : List Addr) ∨ h0.size ≤ x) (Or.inr nw_t_361) all0)
        have A_t_361 := nw_A_t_361; clear nw_A_t_361
        show own_Go Z EL n0 p e below s _ _ _ (T410.setTop (mkF m 87 #[.val (.long a), .second, .val (.long b), .second, .val (.long cc), .second, .val (.long ee), .second, .val (.int sel), .val (.int (0 : Int32)), .val (.int (1 : Int32)), .val (.int (1 : Int32)), .val (.ref a353), .val (.ref a368), .val (.ref r_401), .unset] []))
        refine own_aload (pc' := 89) w411 own_d13_87 rfl rfl rfl ?_
        refine own_iload (pc' := 91) w411 own_d13_89 rfl rfl ?_
        refine own_lload (pc' := 93) w411 own_d13_91 rfl rfl ?_
        refine own_callV (pc' := 96) w411 (hw _ (List.mem_of_getElem? (i := 49) rfl)) (hw _ (List.mem_of_getElem? (i := 50) rfl)) (fun s' hZ' => notFace_of_selects (args := #[]) (mvT hZ' (hw _ (List.mem_of_getElem? (i := 52) rfl)))) (hw _ (List.mem_of_getElem? (i := 52) rfl)) (hw _ (List.mem_of_getElem? (i := 51) rfl)) (hw _ (List.mem_of_getElem? (i := 2) rfl)) (hw _ (List.mem_of_getElem? (i := 53) rfl)) (by decide) E_a368 (own_ct_setJW1 l Z a0 hw EL hE n0 [] h412 (own_old w411) a368 cc t_376 kt_377 0 0 0 0 F_a368_narrow F_a368_bits A_t_376 ne_a368_t_376) (allS (P := fun x => x ∈ _) (by simp) all0) (argsL := [(.int (1 : Int32)), (.long cc)]) (rest := []) rfl rfl own_pd8 rfl own_d13_93 rfl (by decide) (W := 0) rfl (by decide) (by decide) (by decide) fun T417 h419 v420 ms421 w418 q422 => ?_
        obtain ⟨K423, rfl, rfl, nw_A_t_376⟩ := q422
        replace E_a353 := E_a353.keep K423
        replace F_a353_narrow := F_a353_narrow.keep K423 (ninS ne_a353_t_376 nin0)
        replace F_a353_bits := F_a353_bits.keep K423 (ninS ne_a353_t_376 nin0)
        replace E_a368 := E_a368.keep K423
        replace F_a368_narrow := F_a368_narrow.keep K423 (ninS ne_a368_t_376 nin0)
        replace F_a368_bits := F_a368_bits.keep K423 (ninS ne_a368_t_376 nin0)
        replace E_r_385 := E_r_385.keep K423
        replace F_r_385_low := F_r_385_low.keep K423 (ninS (Ne.symm ne_t_376_r_385) nin0)
        replace F_r_385_high := F_r_385_high.keep K423 (ninS (Ne.symm ne_t_376_r_385) nin0)
        replace E_r_393 := E_r_393.keep K423
        replace F_r_393_low := F_r_393_low.keep K423 (ninS (Ne.symm ne_t_376_r_393) nin0)
        replace F_r_393_high := F_r_393_high.keep K423 (ninS (Ne.symm ne_t_376_r_393) nin0)
        replace E_r_401 := E_r_401.keep K423
        replace F_r_401_low := F_r_401_low.keep K423 (ninS (Ne.symm ne_t_376_r_401) nin0)
        replace F_r_401_high := F_r_401_high.keep K423 (ninS (Ne.symm ne_t_376_r_401) nin0)
        replace A_t_361 := A_t_361.keep K423 (ninS ne_t_361_t_376 nin0)
        replace K := K.trans K423 (allS (P := fun x => x ∈ ([] : List Addr) ∨ h0.size ≤ x) (Or.inr nw_t_376) all0)
        have A_t_376 := nw_A_t_376; clear nw_A_t_376
        show own_Go Z EL n0 p e below s _ _ _ (T417.setTop (mkF m 96 #[.val (.long a), .second, .val (.long b), .second, .val (.long cc), .second, .val (.long ee), .second, .val (.int sel), .val (.int (0 : Int32)), .val (.int (1 : Int32)), .val (.int (1 : Int32)), .val (.ref a353), .val (.ref a368), .val (.ref r_401), .unset] []))
        refine own_aload (pc' := 98) w418 own_d13_96 rfl rfl rfl ?_
        refine own_iload (pc' := 100) w418 own_d13_98 rfl rfl ?_
        refine own_aload (pc' := 102) w418 own_d13_100 rfl rfl rfl ?_
        refine own_iload (pc' := 104) w418 own_d13_102 rfl rfl ?_
        refine own_callV (pc' := 107) w418 (hw _ (List.mem_of_getElem? (i := 54) rfl)) (hw _ (List.mem_of_getElem? (i := 55) rfl)) (fun s' hZ' => notFace_of_selects (args := #[]) (mvT hZ' (hw _ (List.mem_of_getElem? (i := 57) rfl)))) (hw _ (List.mem_of_getElem? (i := 57) rfl)) (hw _ (List.mem_of_getElem? (i := 56) rfl)) (hw _ (List.mem_of_getElem? (i := 2) rfl)) (hw _ (List.mem_of_getElem? (i := 58) rfl)) (by decide) E_a368 (own_ct_setAW11 l Z a0 hw EL hE n0 [] h419 (own_old w418) a368 a353 t_376 kt_377 t_361 kt_362 0 0 (own_sgn cc) cc (own_sgn ee) ee (own_mh a b) (a * b) F_a368_narrow F_a368_bits A_t_376 F_a353_bits A_t_361 ne_a368_t_376 ne_a353_t_376 ne_t_361_t_376) (allS (P := fun x => x ∈ _) (by simp) all0) (argsL := [(.int (1 : Int32)), (.ref a353), (.int (1 : Int32))]) (rest := []) rfl rfl own_pd9 rfl own_d13_104 rfl (by decide) (W := 0) rfl (by decide) (by decide) (by decide) fun T424 h426 v427 ms428 w425 q429 => ?_
        obtain ⟨K430, rfl, rfl, nw_A_t_376⟩ := q429
        replace E_a353 := E_a353.keep K430
        replace F_a353_narrow := F_a353_narrow.keep K430 (ninS ne_a353_t_376 nin0)
        replace F_a353_bits := F_a353_bits.keep K430 (ninS ne_a353_t_376 nin0)
        replace E_a368 := E_a368.keep K430
        replace F_a368_narrow := F_a368_narrow.keep K430 (ninS ne_a368_t_376 nin0)
        replace F_a368_bits := F_a368_bits.keep K430 (ninS ne_a368_t_376 nin0)
        replace E_r_385 := E_r_385.keep K430
        replace F_r_385_low := F_r_385_low.keep K430 (ninS (Ne.symm ne_t_376_r_385) nin0)
        replace F_r_385_high := F_r_385_high.keep K430 (ninS (Ne.symm ne_t_376_r_385) nin0)
        replace E_r_393 := E_r_393.keep K430
        replace F_r_393_low := F_r_393_low.keep K430 (ninS (Ne.symm ne_t_376_r_393) nin0)
        replace F_r_393_high := F_r_393_high.keep K430 (ninS (Ne.symm ne_t_376_r_393) nin0)
        replace E_r_401 := E_r_401.keep K430
        replace F_r_401_low := F_r_401_low.keep K430 (ninS (Ne.symm ne_t_376_r_401) nin0)
        replace F_r_401_high := F_r_401_high.keep K430 (ninS (Ne.symm ne_t_376_r_401) nin0)
        replace A_t_361 := A_t_361.keep K430 (ninS ne_t_361_t_376 nin0)
        replace K := K.trans K430 (allS (P := fun x => x ∈ ([] : List Addr) ∨ h0.size ≤ x) (Or.inr nw_t_376) all0)
        have A_t_376 := nw_A_t_376; clear nw_A_t_376
        show own_Go Z EL n0 p e below s _ _ _ (T424.setTop (mkF m 107 #[.val (.long a), .second, .val (.long b), .second, .val (.long cc), .second, .val (.long ee), .second, .val (.int sel), .val (.int (0 : Int32)), .val (.int (1 : Int32)), .val (.int (1 : Int32)), .val (.ref a353), .val (.ref a368), .val (.ref r_401), .unset] []))
        refine own_iload (pc' := 109) w425 own_d13_107 rfl rfl ?_
        refine own_if (pc' := 112) w425 own_d13_109 rfl (by decide) (pcY := 121) rfl (fun (hb109 : (0 : Int32) = (0 : Int32)) => ?_) (fun (hb109 : ¬ (0 : Int32) = (0 : Int32)) => absurd hb109 (by decide))
        refine own_aload (pc' := 123) w425 own_d13_121 rfl rfl rfl ?_
        refine own_astore (pc' := 125) w425 own_d13_123 rfl (Ls' := #[.val (.long a), .second, .val (.long b), .second, .val (.long cc), .second, .val (.long ee), .second, .val (.int sel), .val (.int (0 : Int32)), .val (.int (1 : Int32)), .val (.int (1 : Int32)), .val (.ref a353), .val (.ref a368), .val (.ref r_401), .val (.ref r_401)]) rfl rfl ?_
        refine own_aload (pc' := 127) w425 own_d13_125 rfl rfl rfl ?_
        refine own_iload (pc' := 129) w425 own_d13_127 rfl rfl ?_
        refine own_callV (pc' := 132) w425 (hw _ (List.mem_of_getElem? (i := 59) rfl)) (hw _ (List.mem_of_getElem? (i := 60) rfl)) (fun s' hZ' => notFace_of_selects (args := #[]) (mvT hZ' (hw _ (List.mem_of_getElem? (i := 62) rfl)))) (hw _ (List.mem_of_getElem? (i := 62) rfl)) (hw _ (List.mem_of_getElem? (i := 61) rfl)) (hw _ (List.mem_of_getElem? (i := 2) rfl)) (hw _ (List.mem_of_getElem? (i := 63) rfl)) (by decide) E_a368 (own_ct_getW1 l Z a0 hw EL hE n0 [] h426 (own_old w425) a368 t_376 kt_377 0 0 (own_mh a b) (a * b) F_a368_narrow F_a368_bits A_t_376) all0 (argsL := [(.int (1 : Int32))]) (rest := []) rfl rfl own_pd10 rfl own_d13_129 rfl (by decide) (W := 0) rfl (by decide) (by decide) (by decide) fun T431 h433 v434 ms435 w432 q436 => ?_
        obtain ⟨K438, r_437, rfl, rfl, nw_E_r_437, nw_F_r_437_low, nw_F_r_437_high, p129_getW1_0⟩ := q436
        have ne_a353_r_437 : a353 ≠ r_437 := Nat.ne_of_lt (Nat.lt_of_lt_of_le E_a353.lt p129_getW1_0)
        have ne_a368_r_437 : a368 ≠ r_437 := Nat.ne_of_lt (Nat.lt_of_lt_of_le E_a368.lt p129_getW1_0)
        have ne_r_385_r_437 : r_385 ≠ r_437 := Nat.ne_of_lt (Nat.lt_of_lt_of_le E_r_385.lt p129_getW1_0)
        have ne_r_393_r_437 : r_393 ≠ r_437 := Nat.ne_of_lt (Nat.lt_of_lt_of_le E_r_393.lt p129_getW1_0)
        have ne_r_401_r_437 : r_401 ≠ r_437 := Nat.ne_of_lt (Nat.lt_of_lt_of_le E_r_401.lt p129_getW1_0)
        have ne_t_361_r_437 : t_361 ≠ r_437 := Nat.ne_of_lt (Nat.lt_of_lt_of_le A_t_361.lt p129_getW1_0)
        have ne_t_376_r_437 : t_376 ≠ r_437 := Nat.ne_of_lt (Nat.lt_of_lt_of_le A_t_376.lt p129_getW1_0)
        have nw_r_437 : h0.size ≤ r_437 := Nat.le_trans K.1 p129_getW1_0
        replace E_a353 := E_a353.keep K438
        replace F_a353_narrow := F_a353_narrow.keep K438 nin0
        replace F_a353_bits := F_a353_bits.keep K438 nin0
        replace E_a368 := E_a368.keep K438
        replace F_a368_narrow := F_a368_narrow.keep K438 nin0
        replace F_a368_bits := F_a368_bits.keep K438 nin0
        replace E_r_385 := E_r_385.keep K438
        replace F_r_385_low := F_r_385_low.keep K438 nin0
        replace F_r_385_high := F_r_385_high.keep K438 nin0
        replace E_r_393 := E_r_393.keep K438
        replace F_r_393_low := F_r_393_low.keep K438 nin0
        replace F_r_393_high := F_r_393_high.keep K438 nin0
        replace E_r_401 := E_r_401.keep K438
        replace F_r_401_low := F_r_401_low.keep K438 nin0
        replace F_r_401_high := F_r_401_high.keep K438 nin0
        replace A_t_361 := A_t_361.keep K438 nin0
        replace A_t_376 := A_t_376.keep K438 nin0
        replace K := K.trans K438 all0
        have E_r_437 := nw_E_r_437; clear nw_E_r_437
        have F_r_437_low := nw_F_r_437_low; clear nw_F_r_437_low
        have F_r_437_high := nw_F_r_437_high; clear nw_F_r_437_high
        show own_Go Z EL n0 p e below s _ _ _ (T431.setTop (mkF m 132 #[.val (.long a), .second, .val (.long b), .second, .val (.long cc), .second, .val (.long ee), .second, .val (.int sel), .val (.int (0 : Int32)), .val (.int (1 : Int32)), .val (.int (1 : Int32)), .val (.ref a353), .val (.ref a368), .val (.ref r_401), .val (.ref r_401)] [(.ref r_437)]))
        refine own_aload (pc' := 134) w432 own_d13_132 rfl rfl rfl ?_
        refine own_callV (pc' := 137) w432 (hw _ (List.mem_of_getElem? (i := 65) rfl)) (hw _ (List.mem_of_getElem? (i := 66) rfl)) (fun s' hZ' => notFace_of_selects (args := #[]) (mvT hZ' (hw _ (List.mem_of_getElem? (i := 68) rfl)))) (hw _ (List.mem_of_getElem? (i := 68) rfl)) (hw _ (List.mem_of_getElem? (i := 67) rfl)) (hw _ (List.mem_of_getElem? (i := 18) rfl)) (hw _ (List.mem_of_getElem? (i := 69) rfl)) (by decide) E_r_437 (own_ct_ceq l Z a0 hw EL hE n0 [] h433 (own_old w432) r_437 r_401 (own_mh a b) (a * b) F_r_437_low F_r_437_high E_r_401 F_r_401_low F_r_401_high) all0 (argsL := [(.ref r_401)]) (rest := []) rfl rfl own_pd11 rfl own_d13_134 rfl (by decide) (W := 0) rfl (by decide) (by decide) (by decide) fun T439 h441 v442 ms443 w440 q444 => ?_
        obtain ⟨rfl, rfl, rfl⟩ := q444
        show own_Go Z EL n0 p e below s _ _ _ (T439.setTop (mkF m 137 #[.val (.long a), .second, .val (.long b), .second, .val (.long cc), .second, .val (.long ee), .second, .val (.int sel), .val (.int (0 : Int32)), .val (.int (1 : Int32)), .val (.int (1 : Int32)), .val (.ref a353), .val (.ref a368), .val (.ref r_401), .val (.ref r_401)] [(.int (1 : Int32))]))
        refine own_if (pc' := 140) w440 own_d13_137 rfl (by decide) (pcY := 171) rfl (fun (hb137 : (1 : Int32) = (0 : Int32)) => absurd hb137 (by decide)) (fun (hb137 : ¬ (1 : Int32) = (0 : Int32)) => ?_)
        refine own_aload (pc' := 142) w440 own_d13_140 rfl rfl rfl ?_
        refine own_iconst (pc' := 143) w440 own_d13_142 (x := (1 : Int32)) rfl rfl ?_
        refine own_iload (pc' := 145) w440 own_d13_143 rfl rfl ?_
        refine own_isub (pc' := 146) w440 own_d13_145 (z := (0 : Int32)) (by decide) rfl ?_
        refine own_callV (pc' := 149) w440 (hw _ (List.mem_of_getElem? (i := 71) rfl)) (hw _ (List.mem_of_getElem? (i := 72) rfl)) (fun s' hZ' => notFace_of_selects (args := #[]) (mvT hZ' (hw _ (List.mem_of_getElem? (i := 74) rfl)))) (hw _ (List.mem_of_getElem? (i := 74) rfl)) (hw _ (List.mem_of_getElem? (i := 73) rfl)) (hw _ (List.mem_of_getElem? (i := 2) rfl)) (hw _ (List.mem_of_getElem? (i := 75) rfl)) (by decide) E_a368 (own_ct_sigW0 l Z a0 hw EL hE n0 [] h433 (own_old w440) a368 t_376 kt_377 (own_mh a b) (a * b) F_a368_narrow F_a368_bits A_t_376) all0 (argsL := [(.int (0 : Int32))]) (rest := []) rfl rfl own_pd12 rfl own_d13_146 rfl (by decide) (W := 0) rfl (by decide) (by decide) (by decide) fun T445 h447 v448 ms449 w446 q450 => ?_
        obtain ⟨rfl, rfl, rfl⟩ := q450
        show own_Go Z EL n0 p e below s _ _ _ (T445.setTop (mkF m 149 #[.val (.long a), .second, .val (.long b), .second, .val (.long cc), .second, .val (.long ee), .second, .val (.int sel), .val (.int (0 : Int32)), .val (.int (1 : Int32)), .val (.int (1 : Int32)), .val (.ref a353), .val (.ref a368), .val (.ref r_401), .val (.ref r_401)] [(.int (0 : Int32))]))
        refine own_if (pc' := 152) w446 own_d13_149 rfl (by decide) (pcY := 171) rfl (fun (hb149 : ¬ (0 : Int32) = (0 : Int32)) => absurd hb149 (by decide)) (fun (hb149 : (0 : Int32) = (0 : Int32)) => ?_)
        refine own_aload (pc' := 154) w446 own_d13_152 rfl rfl rfl ?_
        refine own_iload (pc' := 156) w446 own_d13_154 rfl rfl ?_
        refine own_callV (pc' := 159) w446 (hw _ (List.mem_of_getElem? (i := 59) rfl)) (hw _ (List.mem_of_getElem? (i := 60) rfl)) (fun s' hZ' => notFace_of_selects (args := #[]) (mvT hZ' (hw _ (List.mem_of_getElem? (i := 62) rfl)))) (hw _ (List.mem_of_getElem? (i := 62) rfl)) (hw _ (List.mem_of_getElem? (i := 61) rfl)) (hw _ (List.mem_of_getElem? (i := 2) rfl)) (hw _ (List.mem_of_getElem? (i := 63) rfl)) (by decide) E_a353 (own_ct_getW1 l Z a0 hw EL hE n0 [] h433 (own_old w446) a353 t_361 kt_362 (own_sgn ee) ee (own_mh a b) (a * b) F_a353_narrow F_a353_bits A_t_361) all0 (argsL := [(.int (1 : Int32))]) (rest := []) rfl rfl own_pd10 rfl own_d13_156 rfl (by decide) (W := 0) rfl (by decide) (by decide) (by decide) fun T451 h453 v454 ms455 w452 q456 => ?_
        obtain ⟨K458, r_457, rfl, rfl, nw_E_r_457, nw_F_r_457_low, nw_F_r_457_high, p156_getW1_0⟩ := q456
        have ne_a353_r_457 : a353 ≠ r_457 := Nat.ne_of_lt (Nat.lt_of_lt_of_le E_a353.lt p156_getW1_0)
        have ne_a368_r_457 : a368 ≠ r_457 := Nat.ne_of_lt (Nat.lt_of_lt_of_le E_a368.lt p156_getW1_0)
        have ne_r_385_r_457 : r_385 ≠ r_457 := Nat.ne_of_lt (Nat.lt_of_lt_of_le E_r_385.lt p156_getW1_0)
        have ne_r_393_r_457 : r_393 ≠ r_457 := Nat.ne_of_lt (Nat.lt_of_lt_of_le E_r_393.lt p156_getW1_0)
        have ne_r_401_r_457 : r_401 ≠ r_457 := Nat.ne_of_lt (Nat.lt_of_lt_of_le E_r_401.lt p156_getW1_0)
        have ne_r_437_r_457 : r_437 ≠ r_457 := Nat.ne_of_lt (Nat.lt_of_lt_of_le E_r_437.lt p156_getW1_0)
        have ne_t_361_r_457 : t_361 ≠ r_457 := Nat.ne_of_lt (Nat.lt_of_lt_of_le A_t_361.lt p156_getW1_0)
        have ne_t_376_r_457 : t_376 ≠ r_457 := Nat.ne_of_lt (Nat.lt_of_lt_of_le A_t_376.lt p156_getW1_0)
        have nw_r_457 : h0.size ≤ r_457 := Nat.le_trans K.1 p156_getW1_0
        replace E_a353 := E_a353.keep K458
        replace F_a353_narrow := F_a353_narrow.keep K458 nin0
        replace F_a353_bits := F_a353_bits.keep K458 nin0
        replace E_a368 := E_a368.keep K458
        replace F_a368_narrow := F_a368_narrow.keep K458 nin0
        replace F_a368_bits := F_a368_bits.keep K458 nin0
        replace E_r_385 := E_r_385.keep K458
        replace F_r_385_low := F_r_385_low.keep K458 nin0
        replace F_r_385_high := F_r_385_high.keep K458 nin0
        replace E_r_393 := E_r_393.keep K458
        replace F_r_393_low := F_r_393_low.keep K458 nin0
        replace F_r_393_high := F_r_393_high.keep K458 nin0
        replace E_r_401 := E_r_401.keep K458
        replace F_r_401_low := F_r_401_low.keep K458 nin0
        replace F_r_401_high := F_r_401_high.keep K458 nin0
        replace A_t_361 := A_t_361.keep K458 nin0
        replace A_t_376 := A_t_376.keep K458 nin0
        replace E_r_437 := E_r_437.keep K458
        replace F_r_437_low := F_r_437_low.keep K458 nin0
        replace F_r_437_high := F_r_437_high.keep K458 nin0
        replace K := K.trans K458 all0
        have E_r_457 := nw_E_r_457; clear nw_E_r_457
        have F_r_457_low := nw_F_r_457_low; clear nw_F_r_457_low
        have F_r_457_high := nw_F_r_457_high; clear nw_F_r_457_high
        show own_Go Z EL n0 p e below s _ _ _ (T451.setTop (mkF m 159 #[.val (.long a), .second, .val (.long b), .second, .val (.long cc), .second, .val (.long ee), .second, .val (.int sel), .val (.int (0 : Int32)), .val (.int (1 : Int32)), .val (.int (1 : Int32)), .val (.ref a353), .val (.ref a368), .val (.ref r_401), .val (.ref r_401)] [(.ref r_457)]))
        refine own_aload (pc' := 161) w452 own_d13_159 rfl rfl rfl ?_
        refine own_callV (pc' := 164) w452 (hw _ (List.mem_of_getElem? (i := 65) rfl)) (hw _ (List.mem_of_getElem? (i := 66) rfl)) (fun s' hZ' => notFace_of_selects (args := #[]) (mvT hZ' (hw _ (List.mem_of_getElem? (i := 68) rfl)))) (hw _ (List.mem_of_getElem? (i := 68) rfl)) (hw _ (List.mem_of_getElem? (i := 67) rfl)) (hw _ (List.mem_of_getElem? (i := 18) rfl)) (hw _ (List.mem_of_getElem? (i := 69) rfl)) (by decide) E_r_457 (own_ct_ceq l Z a0 hw EL hE n0 [] h453 (own_old w452) r_457 r_401 (own_mh a b) (a * b) F_r_457_low F_r_457_high E_r_401 F_r_401_low F_r_401_high) all0 (argsL := [(.ref r_401)]) (rest := []) rfl rfl own_pd11 rfl own_d13_161 rfl (by decide) (W := 0) rfl (by decide) (by decide) (by decide) fun T459 h461 v462 ms463 w460 q464 => ?_
        obtain ⟨rfl, rfl, rfl⟩ := q464
        show own_Go Z EL n0 p e below s _ _ _ (T459.setTop (mkF m 164 #[.val (.long a), .second, .val (.long b), .second, .val (.long cc), .second, .val (.long ee), .second, .val (.int sel), .val (.int (0 : Int32)), .val (.int (1 : Int32)), .val (.int (1 : Int32)), .val (.ref a353), .val (.ref a368), .val (.ref r_401), .val (.ref r_401)] [(.int (1 : Int32))]))
        refine own_if (pc' := 167) w460 own_d13_164 rfl (by decide) (pcY := 171) rfl (fun (hb164 : (1 : Int32) = (0 : Int32)) => absurd hb164 (by decide)) (fun (hb164 : ¬ (1 : Int32) = (0 : Int32)) => ?_)
        refine own_iconst (pc' := 168) w460 own_d13_167 (x := (1 : Int32)) rfl rfl ?_
        refine own_goto w460 own_d13_168 (by decide) (pc' := 172) rfl ?_
        exact own_retV w460 (t := .boolean) rfl rfl (Or.inl ⟨rfl, by simp, _, rfl⟩) own_d13_172 (by decide) (by decide) (ms' := []) all0 ⟨K, rfl, rfl⟩
  · -- f
    refine own_iconst (pc' := 8) w0 own_d13_7 (x := (1 : Int32)) rfl rfl ?_
    refine own_goto w0 own_d13_8 (by decide) (pc' := 12) rfl ?_
    refine own_istore (pc' := 14) w0 own_d13_12 (Ls' := #[.val (.long a), .second, .val (.long b), .second, .val (.long cc), .second, .val (.long ee), .second, .val (.int sel), .val (.int (1 : Int32)), .unset, .unset, .unset, .unset, .unset, .unset]) rfl rfl ?_
    refine own_iload (pc' := 16) w0 own_d13_14 rfl rfl ?_
    refine own_iconst (pc' := 17) w0 own_d13_16 (x := (1 : Int32)) rfl rfl ?_
    refine own_iushr (pc' := 18) w0 own_d13_17 (z := (XT.ushr sel (1 : Int32))) rfl rfl ?_
    refine own_iconst (pc' := 19) w0 own_d13_18 (x := (1 : Int32)) rfl rfl ?_
    rcases and_one (XT.ushr sel (1 : Int32)) with hix | hix
    · -- f0
      refine own_iand (pc' := 20) w0 own_d13_19 (z := (0 : Int32)) hix rfl ?_
      refine own_istore (pc' := 22) w0 own_d13_20 (Ls' := #[.val (.long a), .second, .val (.long b), .second, .val (.long cc), .second, .val (.long ee), .second, .val (.int sel), .val (.int (1 : Int32)), .val (.int (0 : Int32)), .unset, .unset, .unset, .unset, .unset]) rfl rfl ?_
      refine own_iload (pc' := 24) w0 own_d13_22 rfl rfl ?_
      refine own_iconst (pc' := 25) w0 own_d13_24 (x := (2 : Int32)) rfl rfl ?_
      refine own_iushr (pc' := 26) w0 own_d13_25 (z := (XT.ushr sel (2 : Int32))) rfl rfl ?_
      refine own_iconst (pc' := 27) w0 own_d13_26 (x := (1 : Int32)) rfl rfl ?_
      rcases and_one (XT.ushr sel (2 : Int32)) with hat | hat
      · -- f00
        refine own_iand (pc' := 28) w0 own_d13_27 (z := (0 : Int32)) hat rfl ?_
        refine own_istore (pc' := 30) w0 own_d13_28 (Ls' := #[.val (.long a), .second, .val (.long b), .second, .val (.long cc), .second, .val (.long ee), .second, .val (.int sel), .val (.int (1 : Int32)), .val (.int (0 : Int32)), .val (.int (0 : Int32)), .unset, .unset, .unset, .unset]) rfl rfl ?_
        refine own_newO (pc' := 33) w0 (hw _ (List.mem_of_getElem? (i := 0) rfl)) (hw _ (List.mem_of_getElem? (i := 1) rfl)) (hw _ (List.mem_of_getElem? (i := 2) rfl)) own_d13_30 rfl (by decide) (by decide) fun T465 h467 a469 g_a469 w466 E468 ⟨E_a469, D470⟩ => ?_
        have nw_a469 : h0.size ≤ a469 := Nat.le_trans K.1 (Nat.le_of_eq g_a469)
        replace K := K.ext E468
        have F_a469_product : Fld Z h467 a469 "com/example/throng/throng/engine/Count$Array" "product" "[J" .null := D470 (Or.inr (hw _ (List.mem_of_getElem? (i := 11) rfl))) (ty := (.array .long)) (by decide)
        have F_a469_narrow : Fld Z h467 a469 "com/example/throng/throng/engine/Count$Array" "narrow" "Z" (.int 0) := D470 (Or.inr (hw _ (List.mem_of_getElem? (i := 13) rfl))) (ty := .boolean) (by decide)
        have F_a469_bits : Fld Z h467 a469 "com/example/throng/throng/engine/Count$Array" "bits" "[J" .null := D470 (Or.inr (hw _ (List.mem_of_getElem? (i := 15) rfl))) (ty := (.array .long)) (by decide)
        refine own_dup (pc' := 34) w466 own_d13_33 rfl rfl ?_
        refine own_iconst (pc' := 35) w466 own_d13_34 (x := (2 : Int32)) rfl rfl ?_
        refine own_iload (pc' := 37) w466 own_d13_35 rfl rfl ?_
        refine own_callI (pc' := 40) w466 rfl (hw _ (List.mem_of_getElem? (i := 3) rfl)) (hw _ (List.mem_of_getElem? (i := 4) rfl)) (hw _ (List.mem_of_getElem? (i := 2) rfl)) (hw _ (List.mem_of_getElem? (i := 5) rfl)) (by decide) (own_ct_aInitN l Z a0 hw EL hE n0 [] h467 (own_old w466) a469 .null (.int 0) .null E_a469 F_a469_product F_a469_narrow F_a469_bits) (allS (P := fun x => x ∈ _) (by simp) all0) (argsL := [(.int (2 : Int32)), (.int (1 : Int32))]) (rest := [(.ref a469)]) rfl rfl own_pd5 rfl own_d13_37 rfl (by decide) (W := 1) rfl (by decide) (by decide) (by decide) fun T471 h473 v474 ms475 w472 q476 => ?_
        obtain ⟨K479, t_477, kt_478, rfl, rfl, nw_E_a469, nw_F_a469_narrow, nw_F_a469_bits, nw_A_t_477, p37_aInitN_0⟩ := q476
        have ne_a469_t_477 : a469 ≠ t_477 := Nat.ne_of_lt (Nat.lt_of_lt_of_le E_a469.lt p37_aInitN_0)
        have nw_t_477 : h0.size ≤ t_477 := Nat.le_trans K.1 p37_aInitN_0
        replace K := K.trans K479 (allS (P := fun x => x ∈ ([] : List Addr) ∨ h0.size ≤ x) (Or.inr nw_a469) all0)
        have E_a469 := nw_E_a469; clear nw_E_a469
        have F_a469_narrow := nw_F_a469_narrow; clear nw_F_a469_narrow
        have F_a469_bits := nw_F_a469_bits; clear nw_F_a469_bits
        have A_t_477 := nw_A_t_477; clear nw_A_t_477
        show own_Go Z EL n0 p e below s _ _ _ (T471.setTop (mkF m 40 #[.val (.long a), .second, .val (.long b), .second, .val (.long cc), .second, .val (.long ee), .second, .val (.int sel), .val (.int (1 : Int32)), .val (.int (0 : Int32)), .val (.int (0 : Int32)), .unset, .unset, .unset, .unset] [(.ref a469)]))
        refine own_astore (pc' := 42) w472 own_d13_40 rfl (Ls' := #[.val (.long a), .second, .val (.long b), .second, .val (.long cc), .second, .val (.long ee), .second, .val (.int sel), .val (.int (1 : Int32)), .val (.int (0 : Int32)), .val (.int (0 : Int32)), .val (.ref a469), .unset, .unset, .unset]) rfl rfl ?_
        refine own_newO (pc' := 45) w472 (hw _ (List.mem_of_getElem? (i := 0) rfl)) (hw _ (List.mem_of_getElem? (i := 1) rfl)) (hw _ (List.mem_of_getElem? (i := 2) rfl)) own_d13_42 rfl (by decide) (by decide) fun T480 h482 a484 g_a484 w481 E483 ⟨E_a484, D485⟩ => ?_
        have ne_a469_a484 : a469 ≠ a484 := Nat.ne_of_lt (Nat.lt_of_lt_of_le E_a469.lt (Nat.le_of_eq g_a484))
        have ne_t_477_a484 : t_477 ≠ a484 := Nat.ne_of_lt (Nat.lt_of_lt_of_le A_t_477.lt (Nat.le_of_eq g_a484))
        have nw_a484 : h0.size ≤ a484 := Nat.le_trans K.1 (Nat.le_of_eq g_a484)
        replace E_a469 := E_a469.ext E483
        replace F_a469_narrow := F_a469_narrow.ext E483
        replace F_a469_bits := F_a469_bits.ext E483
        replace A_t_477 := A_t_477.ext E483
        replace K := K.ext E483
        have F_a484_product : Fld Z h482 a484 "com/example/throng/throng/engine/Count$Array" "product" "[J" .null := D485 (Or.inr (hw _ (List.mem_of_getElem? (i := 11) rfl))) (ty := (.array .long)) (by decide)
        have F_a484_narrow : Fld Z h482 a484 "com/example/throng/throng/engine/Count$Array" "narrow" "Z" (.int 0) := D485 (Or.inr (hw _ (List.mem_of_getElem? (i := 13) rfl))) (ty := .boolean) (by decide)
        have F_a484_bits : Fld Z h482 a484 "com/example/throng/throng/engine/Count$Array" "bits" "[J" .null := D485 (Or.inr (hw _ (List.mem_of_getElem? (i := 15) rfl))) (ty := (.array .long)) (by decide)
        refine own_dup (pc' := 46) w481 own_d13_45 rfl rfl ?_
        refine own_iconst (pc' := 47) w481 own_d13_46 (x := (2 : Int32)) rfl rfl ?_
        refine own_iload (pc' := 49) w481 own_d13_47 rfl rfl ?_
        refine own_callI (pc' := 52) w481 rfl (hw _ (List.mem_of_getElem? (i := 3) rfl)) (hw _ (List.mem_of_getElem? (i := 4) rfl)) (hw _ (List.mem_of_getElem? (i := 2) rfl)) (hw _ (List.mem_of_getElem? (i := 5) rfl)) (by decide) (own_ct_aInitN l Z a0 hw EL hE n0 [] h482 (own_old w481) a484 .null (.int 0) .null E_a484 F_a484_product F_a484_narrow F_a484_bits) (allS (P := fun x => x ∈ _) (by simp) all0) (argsL := [(.int (2 : Int32)), (.int (1 : Int32))]) (rest := [(.ref a484)]) rfl rfl own_pd5 rfl own_d13_49 rfl (by decide) (W := 1) rfl (by decide) (by decide) (by decide) fun T486 h488 v489 ms490 w487 q491 => ?_
        obtain ⟨K494, t_492, kt_493, rfl, rfl, nw_E_a484, nw_F_a484_narrow, nw_F_a484_bits, nw_A_t_492, p49_aInitN_0⟩ := q491
        have ne_a469_t_492 : a469 ≠ t_492 := Nat.ne_of_lt (Nat.lt_of_lt_of_le E_a469.lt p49_aInitN_0)
        have ne_a484_t_492 : a484 ≠ t_492 := Nat.ne_of_lt (Nat.lt_of_lt_of_le E_a484.lt p49_aInitN_0)
        have ne_t_477_t_492 : t_477 ≠ t_492 := Nat.ne_of_lt (Nat.lt_of_lt_of_le A_t_477.lt p49_aInitN_0)
        have nw_t_492 : h0.size ≤ t_492 := Nat.le_trans K.1 p49_aInitN_0
        replace E_a469 := E_a469.keep K494
        replace F_a469_narrow := F_a469_narrow.keep K494 (ninS ne_a469_a484 nin0)
        replace F_a469_bits := F_a469_bits.keep K494 (ninS ne_a469_a484 nin0)
        replace A_t_477 := A_t_477.keep K494 (ninS ne_t_477_a484 nin0)
        replace K := K.trans K494 (allS (P := fun x => x ∈ ([] : List Addr) ∨ h0.size ≤ x) (Or.inr nw_a484) all0)
        have E_a484 := nw_E_a484; clear nw_E_a484
        have F_a484_narrow := nw_F_a484_narrow; clear nw_F_a484_narrow
        have F_a484_bits := nw_F_a484_bits; clear nw_F_a484_bits
        have A_t_492 := nw_A_t_492; clear nw_A_t_492
        show own_Go Z EL n0 p e below s _ _ _ (T486.setTop (mkF m 52 #[.val (.long a), .second, .val (.long b), .second, .val (.long cc), .second, .val (.long ee), .second, .val (.int sel), .val (.int (1 : Int32)), .val (.int (0 : Int32)), .val (.int (0 : Int32)), .val (.ref a469), .unset, .unset, .unset] [(.ref a484)]))
        refine own_astore (pc' := 54) w487 own_d13_52 rfl (Ls' := #[.val (.long a), .second, .val (.long b), .second, .val (.long cc), .second, .val (.long ee), .second, .val (.int sel), .val (.int (1 : Int32)), .val (.int (0 : Int32)), .val (.int (0 : Int32)), .val (.ref a469), .val (.ref a484), .unset, .unset]) rfl rfl ?_
        refine own_lloadN (pc' := 55) w487 own_d13_54 rfl rfl ?_
        refine own_callS (pc' := 58) w487 (hw _ (List.mem_of_getElem? (i := 16) rfl)) (hw _ (List.mem_of_getElem? (i := 17) rfl)) (hw _ (List.mem_of_getElem? (i := 18) rfl)) (hw _ (List.mem_of_getElem? (i := 19) rfl)) (by decide) (own_ct_cOf l Z a0 hw EL hE n0 [] h488 (own_old w487) a ) all0 (argsL := [(.long a)]) (rest := []) rfl rfl own_pd4 rfl own_d13_55 rfl (by decide) (W := 0) rfl (by decide) (by decide) (by decide) fun T495 h497 v498 ms499 w496 q500 => ?_
        obtain ⟨K502, r_501, rfl, rfl, nw_E_r_501, nw_F_r_501_low, nw_F_r_501_high, p55_cOf_0⟩ := q500
        have ne_a469_r_501 : a469 ≠ r_501 := Nat.ne_of_lt (Nat.lt_of_lt_of_le E_a469.lt p55_cOf_0)
        have ne_a484_r_501 : a484 ≠ r_501 := Nat.ne_of_lt (Nat.lt_of_lt_of_le E_a484.lt p55_cOf_0)
        have ne_t_477_r_501 : t_477 ≠ r_501 := Nat.ne_of_lt (Nat.lt_of_lt_of_le A_t_477.lt p55_cOf_0)
        have ne_t_492_r_501 : t_492 ≠ r_501 := Nat.ne_of_lt (Nat.lt_of_lt_of_le A_t_492.lt p55_cOf_0)
        have nw_r_501 : h0.size ≤ r_501 := Nat.le_trans K.1 p55_cOf_0
        replace E_a469 := E_a469.keep K502
        replace F_a469_narrow := F_a469_narrow.keep K502 nin0
        replace F_a469_bits := F_a469_bits.keep K502 nin0
        replace A_t_477 := A_t_477.keep K502 nin0
        replace E_a484 := E_a484.keep K502
        replace F_a484_narrow := F_a484_narrow.keep K502 nin0
        replace F_a484_bits := F_a484_bits.keep K502 nin0
        replace A_t_492 := A_t_492.keep K502 nin0
        replace K := K.trans K502 all0
        have E_r_501 := nw_E_r_501; clear nw_E_r_501
        have F_r_501_low := nw_F_r_501_low; clear nw_F_r_501_low
        have F_r_501_high := nw_F_r_501_high; clear nw_F_r_501_high
        show own_Go Z EL n0 p e below s _ _ _ (T495.setTop (mkF m 58 #[.val (.long a), .second, .val (.long b), .second, .val (.long cc), .second, .val (.long ee), .second, .val (.int sel), .val (.int (1 : Int32)), .val (.int (0 : Int32)), .val (.int (0 : Int32)), .val (.ref a469), .val (.ref a484), .unset, .unset] [(.ref r_501)]))
        refine own_lloadN (pc' := 59) w496 own_d13_58 rfl rfl ?_
        refine own_callS (pc' := 62) w496 (hw _ (List.mem_of_getElem? (i := 16) rfl)) (hw _ (List.mem_of_getElem? (i := 17) rfl)) (hw _ (List.mem_of_getElem? (i := 18) rfl)) (hw _ (List.mem_of_getElem? (i := 19) rfl)) (by decide) (own_ct_cOf l Z a0 hw EL hE n0 [] h497 (own_old w496) b ) all0 (argsL := [(.long b)]) (rest := [(.ref r_501)]) rfl rfl own_pd4 rfl own_d13_59 rfl (by decide) (W := 1) rfl (by decide) (by decide) (by decide) fun T503 h505 v506 ms507 w504 q508 => ?_
        obtain ⟨K510, r_509, rfl, rfl, nw_E_r_509, nw_F_r_509_low, nw_F_r_509_high, p59_cOf_0⟩ := q508
        have ne_a469_r_509 : a469 ≠ r_509 := Nat.ne_of_lt (Nat.lt_of_lt_of_le E_a469.lt p59_cOf_0)
        have ne_a484_r_509 : a484 ≠ r_509 := Nat.ne_of_lt (Nat.lt_of_lt_of_le E_a484.lt p59_cOf_0)
        have ne_r_501_r_509 : r_501 ≠ r_509 := Nat.ne_of_lt (Nat.lt_of_lt_of_le E_r_501.lt p59_cOf_0)
        have ne_t_477_r_509 : t_477 ≠ r_509 := Nat.ne_of_lt (Nat.lt_of_lt_of_le A_t_477.lt p59_cOf_0)
        have ne_t_492_r_509 : t_492 ≠ r_509 := Nat.ne_of_lt (Nat.lt_of_lt_of_le A_t_492.lt p59_cOf_0)
        have nw_r_509 : h0.size ≤ r_509 := Nat.le_trans K.1 p59_cOf_0
        replace E_a469 := E_a469.keep K510
        replace F_a469_narrow := F_a469_narrow.keep K510 nin0
        replace F_a469_bits := F_a469_bits.keep K510 nin0
        replace A_t_477 := A_t_477.keep K510 nin0
        replace E_a484 := E_a484.keep K510
        replace F_a484_narrow := F_a484_narrow.keep K510 nin0
        replace F_a484_bits := F_a484_bits.keep K510 nin0
        replace A_t_492 := A_t_492.keep K510 nin0
        replace E_r_501 := E_r_501.keep K510
        replace F_r_501_low := F_r_501_low.keep K510 nin0
        replace F_r_501_high := F_r_501_high.keep K510 nin0
        replace K := K.trans K510 all0
        have E_r_509 := nw_E_r_509; clear nw_E_r_509
        have F_r_509_low := nw_F_r_509_low; clear nw_F_r_509_low
        have F_r_509_high := nw_F_r_509_high; clear nw_F_r_509_high
        show own_Go Z EL n0 p e below s _ _ _ (T503.setTop (mkF m 62 #[.val (.long a), .second, .val (.long b), .second, .val (.long cc), .second, .val (.long ee), .second, .val (.int sel), .val (.int (1 : Int32)), .val (.int (0 : Int32)), .val (.int (0 : Int32)), .val (.ref a469), .val (.ref a484), .unset, .unset] [(.ref r_509), (.ref r_501)]))
        refine own_callV (pc' := 65) w504 (hw _ (List.mem_of_getElem? (i := 30) rfl)) (hw _ (List.mem_of_getElem? (i := 31) rfl)) (fun s' hZ' => notFace_of_selects (args := #[]) (mvT hZ' (hw _ (List.mem_of_getElem? (i := 33) rfl)))) (hw _ (List.mem_of_getElem? (i := 33) rfl)) (hw _ (List.mem_of_getElem? (i := 32) rfl)) (hw _ (List.mem_of_getElem? (i := 18) rfl)) (hw _ (List.mem_of_getElem? (i := 34) rfl)) (by decide) E_r_501 (own_ct_times l Z a0 hw EL hE n0 [] h505 (own_old w504) r_501 r_509 a b F_r_501_low F_r_501_high F_r_509_low F_r_509_high) all0 (argsL := [(.ref r_509)]) (rest := []) rfl rfl own_pd6 rfl own_d13_62 rfl (by decide) (W := 0) rfl (by decide) (by decide) (by decide) fun T511 h513 v514 ms515 w512 q516 => ?_
        obtain ⟨K518, r_517, rfl, rfl, nw_E_r_517, nw_F_r_517_low, nw_F_r_517_high, p62_times_0⟩ := q516
        have ne_a469_r_517 : a469 ≠ r_517 := Nat.ne_of_lt (Nat.lt_of_lt_of_le E_a469.lt p62_times_0)
        have ne_a484_r_517 : a484 ≠ r_517 := Nat.ne_of_lt (Nat.lt_of_lt_of_le E_a484.lt p62_times_0)
        have ne_r_501_r_517 : r_501 ≠ r_517 := Nat.ne_of_lt (Nat.lt_of_lt_of_le E_r_501.lt p62_times_0)
        have ne_r_509_r_517 : r_509 ≠ r_517 := Nat.ne_of_lt (Nat.lt_of_lt_of_le E_r_509.lt p62_times_0)
        have ne_t_477_r_517 : t_477 ≠ r_517 := Nat.ne_of_lt (Nat.lt_of_lt_of_le A_t_477.lt p62_times_0)
        have ne_t_492_r_517 : t_492 ≠ r_517 := Nat.ne_of_lt (Nat.lt_of_lt_of_le A_t_492.lt p62_times_0)
        have nw_r_517 : h0.size ≤ r_517 := Nat.le_trans K.1 p62_times_0
        replace E_a469 := E_a469.keep K518
        replace F_a469_narrow := F_a469_narrow.keep K518 nin0
        replace F_a469_bits := F_a469_bits.keep K518 nin0
        replace A_t_477 := A_t_477.keep K518 nin0
        replace E_a484 := E_a484.keep K518
        replace F_a484_narrow := F_a484_narrow.keep K518 nin0
        replace F_a484_bits := F_a484_bits.keep K518 nin0
        replace A_t_492 := A_t_492.keep K518 nin0
        replace E_r_501 := E_r_501.keep K518
        replace F_r_501_low := F_r_501_low.keep K518 nin0
        replace F_r_501_high := F_r_501_high.keep K518 nin0
        replace E_r_509 := E_r_509.keep K518
        replace F_r_509_low := F_r_509_low.keep K518 nin0
        replace F_r_509_high := F_r_509_high.keep K518 nin0
        replace K := K.trans K518 all0
        have E_r_517 := nw_E_r_517; clear nw_E_r_517
        have F_r_517_low := nw_F_r_517_low; clear nw_F_r_517_low
        have F_r_517_high := nw_F_r_517_high; clear nw_F_r_517_high
        show own_Go Z EL n0 p e below s _ _ _ (T511.setTop (mkF m 65 #[.val (.long a), .second, .val (.long b), .second, .val (.long cc), .second, .val (.long ee), .second, .val (.int sel), .val (.int (1 : Int32)), .val (.int (0 : Int32)), .val (.int (0 : Int32)), .val (.ref a469), .val (.ref a484), .unset, .unset] [(.ref r_517)]))
        refine own_astore (pc' := 67) w512 own_d13_65 rfl (Ls' := #[.val (.long a), .second, .val (.long b), .second, .val (.long cc), .second, .val (.long ee), .second, .val (.int sel), .val (.int (1 : Int32)), .val (.int (0 : Int32)), .val (.int (0 : Int32)), .val (.ref a469), .val (.ref a484), .val (.ref r_517), .unset]) rfl rfl ?_
        refine own_aload (pc' := 69) w512 own_d13_67 rfl rfl rfl ?_
        refine own_iload (pc' := 71) w512 own_d13_69 rfl rfl ?_
        refine own_aload (pc' := 73) w512 own_d13_71 rfl rfl rfl ?_
        refine own_callV (pc' := 76) w512 (hw _ (List.mem_of_getElem? (i := 43) rfl)) (hw _ (List.mem_of_getElem? (i := 44) rfl)) (fun s' hZ' => notFace_of_selects (args := #[]) (mvT hZ' (hw _ (List.mem_of_getElem? (i := 46) rfl)))) (hw _ (List.mem_of_getElem? (i := 46) rfl)) (hw _ (List.mem_of_getElem? (i := 45) rfl)) (hw _ (List.mem_of_getElem? (i := 2) rfl)) (hw _ (List.mem_of_getElem? (i := 47) rfl)) (by decide) E_a469 (own_ct_setCN0 l Z a0 hw EL hE n0 [] h513 (own_old w512) a469 r_517 t_477 kt_478 (own_mh a b) (a * b) 0 0 F_a469_narrow F_a469_bits A_t_477 F_r_517_low F_r_517_high ne_a469_t_477 (Ne.symm ne_t_477_r_517)) (allS (P := fun x => x ∈ _) (by simp) all0) (argsL := [(.int (0 : Int32)), (.ref r_517)]) (rest := []) rfl rfl own_pd7 rfl own_d13_73 rfl (by decide) (W := 0) rfl (by decide) (by decide) (by decide) fun T519 h521 v522 ms523 w520 q524 => ?_
        obtain ⟨K525, rfl, rfl, nw_A_t_477⟩ := q524
        replace E_a469 := E_a469.keep K525
        replace F_a469_narrow := F_a469_narrow.keep K525 (ninS ne_a469_t_477 nin0)
        replace F_a469_bits := F_a469_bits.keep K525 (ninS ne_a469_t_477 nin0)
        replace E_a484 := E_a484.keep K525
        replace F_a484_narrow := F_a484_narrow.keep K525 (ninS (Ne.symm ne_t_477_a484) nin0)
        replace F_a484_bits := F_a484_bits.keep K525 (ninS (Ne.symm ne_t_477_a484) nin0)
        replace A_t_492 := A_t_492.keep K525 (ninS (Ne.symm ne_t_477_t_492) nin0)
        replace E_r_501 := E_r_501.keep K525
        replace F_r_501_low := F_r_501_low.keep K525 (ninS (Ne.symm ne_t_477_r_501) nin0)
        replace F_r_501_high := F_r_501_high.keep K525 (ninS (Ne.symm ne_t_477_r_501) nin0)
        replace E_r_509 := E_r_509.keep K525
        replace F_r_509_low := F_r_509_low.keep K525 (ninS (Ne.symm ne_t_477_r_509) nin0)
        replace F_r_509_high := F_r_509_high.keep K525 (ninS (Ne.symm ne_t_477_r_509) nin0)
        replace E_r_517 := E_r_517.keep K525
        replace F_r_517_low := F_r_517_low.keep K525 (ninS (Ne.symm ne_t_477_r_517) nin0)
        replace F_r_517_high := F_r_517_high.keep K525 (ninS (Ne.symm ne_t_477_r_517) nin0)
        replace K := K.trans K525 (allS (P := fun x => x ∈ ([] : List Addr) ∨ h0.size ≤ x) (Or.inr nw_t_477) all0)
        have A_t_477 := nw_A_t_477; clear nw_A_t_477
        show own_Go Z EL n0 p e below s _ _ _ (T519.setTop (mkF m 76 #[.val (.long a), .second, .val (.long b), .second, .val (.long cc), .second, .val (.long ee), .second, .val (.int sel), .val (.int (1 : Int32)), .val (.int (0 : Int32)), .val (.int (0 : Int32)), .val (.ref a469), .val (.ref a484), .val (.ref r_517), .unset] []))
        refine own_aload (pc' := 78) w520 own_d13_76 rfl rfl rfl ?_
        refine own_iconst (pc' := 79) w520 own_d13_78 (x := (1 : Int32)) rfl rfl ?_
        refine own_iload (pc' := 81) w520 own_d13_79 rfl rfl ?_
        refine own_isub (pc' := 82) w520 own_d13_81 (z := (1 : Int32)) (by decide) rfl ?_
        refine own_lload (pc' := 84) w520 own_d13_82 rfl rfl ?_
        refine own_callV (pc' := 87) w520 (hw _ (List.mem_of_getElem? (i := 49) rfl)) (hw _ (List.mem_of_getElem? (i := 50) rfl)) (fun s' hZ' => notFace_of_selects (args := #[]) (mvT hZ' (hw _ (List.mem_of_getElem? (i := 52) rfl)))) (hw _ (List.mem_of_getElem? (i := 52) rfl)) (hw _ (List.mem_of_getElem? (i := 51) rfl)) (hw _ (List.mem_of_getElem? (i := 2) rfl)) (hw _ (List.mem_of_getElem? (i := 53) rfl)) (by decide) E_a469 (own_ct_setJN1 l Z a0 hw EL hE n0 [] h521 (own_old w520) a469 ee t_477 kt_478 (a * b) 0 F_a469_narrow F_a469_bits A_t_477 ne_a469_t_477) (allS (P := fun x => x ∈ _) (by simp) all0) (argsL := [(.int (1 : Int32)), (.long ee)]) (rest := []) rfl rfl own_pd8 rfl own_d13_84 rfl (by decide) (W := 0) rfl (by decide) (by decide) (by decide) fun T526 h528 v529 ms530 w527 q531 => ?_
        obtain ⟨K532, rfl, rfl, nw_A_t_477⟩ := q531
        replace E_a469 := E_a469.keep K532
        replace F_a469_narrow := F_a469_narrow.keep K532 (ninS ne_a469_t_477 nin0)
        replace F_a469_bits := F_a469_bits.keep K532 (ninS ne_a469_t_477 nin0)
        replace E_a484 := E_a484.keep K532
        replace F_a484_narrow := F_a484_narrow.keep K532 (ninS (Ne.symm ne_t_477_a484) nin0)
        replace F_a484_bits := F_a484_bits.keep K532 (ninS (Ne.symm ne_t_477_a484) nin0)
        replace A_t_492 := A_t_492.keep K532 (ninS (Ne.symm ne_t_477_t_492) nin0)
        replace E_r_501 := E_r_501.keep K532
        replace F_r_501_low := F_r_501_low.keep K532 (ninS (Ne.symm ne_t_477_r_501) nin0)
        replace F_r_501_high := F_r_501_high.keep K532 (ninS (Ne.symm ne_t_477_r_501) nin0)
        replace E_r_509 := E_r_509.keep K532
        replace F_r_509_low := F_r_509_low.keep K532 (ninS (Ne.symm ne_t_477_r_509) nin0)
        replace F_r_509_high := F_r_509_high.keep K532 (ninS (Ne.symm ne_t_477_r_509) nin0)
        replace E_r_517 := E_r_517.keep K532
        replace F_r_517_low := F_r_517_low.keep K532 (ninS (Ne.symm ne_t_477_r_517) nin0)
        replace F_r_517_high := F_r_517_high.keep K532 (ninS (Ne.symm ne_t_477_r_517) nin0)
        replace K := K.trans K532 (allS (P := fun x => x ∈ ([] : List Addr) ∨ h0.size ≤ x) (Or.inr nw_t_477) all0)
        have A_t_477 := nw_A_t_477; clear nw_A_t_477
        show own_Go Z EL n0 p e below s _ _ _ (T526.setTop (mkF m 87 #[.val (.long a), .second, .val (.long b), .second, .val (.long cc), .second, .val (.long ee), .second, .val (.int sel), .val (.int (1 : Int32)), .val (.int (0 : Int32)), .val (.int (0 : Int32)), .val (.ref a469), .val (.ref a484), .val (.ref r_517), .unset] []))
        refine own_aload (pc' := 89) w527 own_d13_87 rfl rfl rfl ?_
        refine own_iload (pc' := 91) w527 own_d13_89 rfl rfl ?_
        refine own_lload (pc' := 93) w527 own_d13_91 rfl rfl ?_
        refine own_callV (pc' := 96) w527 (hw _ (List.mem_of_getElem? (i := 49) rfl)) (hw _ (List.mem_of_getElem? (i := 50) rfl)) (fun s' hZ' => notFace_of_selects (args := #[]) (mvT hZ' (hw _ (List.mem_of_getElem? (i := 52) rfl)))) (hw _ (List.mem_of_getElem? (i := 52) rfl)) (hw _ (List.mem_of_getElem? (i := 51) rfl)) (hw _ (List.mem_of_getElem? (i := 2) rfl)) (hw _ (List.mem_of_getElem? (i := 53) rfl)) (by decide) E_a484 (own_ct_setJN0 l Z a0 hw EL hE n0 [] h528 (own_old w527) a484 cc t_492 kt_493 0 0 F_a484_narrow F_a484_bits A_t_492 ne_a484_t_492) (allS (P := fun x => x ∈ _) (by simp) all0) (argsL := [(.int (0 : Int32)), (.long cc)]) (rest := []) rfl rfl own_pd8 rfl own_d13_93 rfl (by decide) (W := 0) rfl (by decide) (by decide) (by decide) fun T533 h535 v536 ms537 w534 q538 => ?_
        obtain ⟨K539, rfl, rfl, nw_A_t_492⟩ := q538
        replace E_a469 := E_a469.keep K539
        replace F_a469_narrow := F_a469_narrow.keep K539 (ninS ne_a469_t_492 nin0)
        replace F_a469_bits := F_a469_bits.keep K539 (ninS ne_a469_t_492 nin0)
        replace E_a484 := E_a484.keep K539
        replace F_a484_narrow := F_a484_narrow.keep K539 (ninS ne_a484_t_492 nin0)
        replace F_a484_bits := F_a484_bits.keep K539 (ninS ne_a484_t_492 nin0)
        replace E_r_501 := E_r_501.keep K539
        replace F_r_501_low := F_r_501_low.keep K539 (ninS (Ne.symm ne_t_492_r_501) nin0)
        replace F_r_501_high := F_r_501_high.keep K539 (ninS (Ne.symm ne_t_492_r_501) nin0)
        replace E_r_509 := E_r_509.keep K539
        replace F_r_509_low := F_r_509_low.keep K539 (ninS (Ne.symm ne_t_492_r_509) nin0)
        replace F_r_509_high := F_r_509_high.keep K539 (ninS (Ne.symm ne_t_492_r_509) nin0)
        replace E_r_517 := E_r_517.keep K539
        replace F_r_517_low := F_r_517_low.keep K539 (ninS (Ne.symm ne_t_492_r_517) nin0)
        replace F_r_517_high := F_r_517_high.keep K539 (ninS (Ne.symm ne_t_492_r_517) nin0)
        replace A_t_477 := A_t_477.keep K539 (ninS ne_t_477_t_492 nin0)
        replace K := K.trans K539 (allS (P := fun x => x ∈ ([] : List Addr) ∨ h0.size ≤ x) (Or.inr nw_t_492) all0)
        have A_t_492 := nw_A_t_492; clear nw_A_t_492
        show own_Go Z EL n0 p e below s _ _ _ (T533.setTop (mkF m 96 #[.val (.long a), .second, .val (.long b), .second, .val (.long cc), .second, .val (.long ee), .second, .val (.int sel), .val (.int (1 : Int32)), .val (.int (0 : Int32)), .val (.int (0 : Int32)), .val (.ref a469), .val (.ref a484), .val (.ref r_517), .unset] []))
        refine own_aload (pc' := 98) w534 own_d13_96 rfl rfl rfl ?_
        refine own_iload (pc' := 100) w534 own_d13_98 rfl rfl ?_
        refine own_aload (pc' := 102) w534 own_d13_100 rfl rfl rfl ?_
        refine own_iload (pc' := 104) w534 own_d13_102 rfl rfl ?_
        refine own_callV (pc' := 107) w534 (hw _ (List.mem_of_getElem? (i := 54) rfl)) (hw _ (List.mem_of_getElem? (i := 55) rfl)) (fun s' hZ' => notFace_of_selects (args := #[]) (mvT hZ' (hw _ (List.mem_of_getElem? (i := 57) rfl)))) (hw _ (List.mem_of_getElem? (i := 57) rfl)) (hw _ (List.mem_of_getElem? (i := 56) rfl)) (hw _ (List.mem_of_getElem? (i := 2) rfl)) (hw _ (List.mem_of_getElem? (i := 58) rfl)) (by decide) E_a484 (own_ct_setAN00 l Z a0 hw EL hE n0 [] h535 (own_old w534) a484 a469 t_492 kt_493 t_477 kt_478 cc 0 (a * b) ee F_a484_narrow F_a484_bits A_t_492 F_a469_bits A_t_477 ne_a484_t_492 ne_a469_t_492 ne_t_477_t_492) (allS (P := fun x => x ∈ _) (by simp) all0) (argsL := [(.int (0 : Int32)), (.ref a469), (.int (0 : Int32))]) (rest := []) rfl rfl own_pd9 rfl own_d13_104 rfl (by decide) (W := 0) rfl (by decide) (by decide) (by decide) fun T540 h542 v543 ms544 w541 q545 => ?_
        obtain ⟨K546, rfl, rfl, nw_A_t_492⟩ := q545
        replace E_a469 := E_a469.keep K546
        replace F_a469_narrow := F_a469_narrow.keep K546 (ninS ne_a469_t_492 nin0)
        replace F_a469_bits := F_a469_bits.keep K546 (ninS ne_a469_t_492 nin0)
        replace E_a484 := E_a484.keep K546
        replace F_a484_narrow := F_a484_narrow.keep K546 (ninS ne_a484_t_492 nin0)
        replace F_a484_bits := F_a484_bits.keep K546 (ninS ne_a484_t_492 nin0)
        replace E_r_501 := E_r_501.keep K546
        replace F_r_501_low := F_r_501_low.keep K546 (ninS (Ne.symm ne_t_492_r_501) nin0)
        replace F_r_501_high := F_r_501_high.keep K546 (ninS (Ne.symm ne_t_492_r_501) nin0)
        replace E_r_509 := E_r_509.keep K546
        replace F_r_509_low := F_r_509_low.keep K546 (ninS (Ne.symm ne_t_492_r_509) nin0)
        replace F_r_509_high := F_r_509_high.keep K546 (ninS (Ne.symm ne_t_492_r_509) nin0)
        replace E_r_517 := E_r_517.keep K546
        replace F_r_517_low := F_r_517_low.keep K546 (ninS (Ne.symm ne_t_492_r_517) nin0)
        replace F_r_517_high := F_r_517_high.keep K546 (ninS (Ne.symm ne_t_492_r_517) nin0)
        replace A_t_477 := A_t_477.keep K546 (ninS ne_t_477_t_492 nin0)
        replace K := K.trans K546 (allS (P := fun x => x ∈ ([] : List Addr) ∨ h0.size ≤ x) (Or.inr nw_t_492) all0)
        have A_t_492 := nw_A_t_492; clear nw_A_t_492
        show own_Go Z EL n0 p e below s _ _ _ (T540.setTop (mkF m 107 #[.val (.long a), .second, .val (.long b), .second, .val (.long cc), .second, .val (.long ee), .second, .val (.int sel), .val (.int (1 : Int32)), .val (.int (0 : Int32)), .val (.int (0 : Int32)), .val (.ref a469), .val (.ref a484), .val (.ref r_517), .unset] []))
        refine own_iload (pc' := 109) w541 own_d13_107 rfl rfl ?_
        refine own_if (pc' := 112) w541 own_d13_109 rfl (by decide) (pcY := 121) rfl (fun (hb109 : (1 : Int32) = (0 : Int32)) => absurd hb109 (by decide)) (fun (hb109 : ¬ (1 : Int32) = (0 : Int32)) => ?_)
        refine own_lloadN (pc' := 113) w541 own_d13_112 rfl rfl ?_
        refine own_lloadN (pc' := 114) w541 own_d13_113 rfl rfl ?_
        refine own_lmul (pc' := 115) w541 own_d13_114 (z := (a * b)) rfl rfl ?_
        refine own_callS (pc' := 118) w541 (hw _ (List.mem_of_getElem? (i := 16) rfl)) (hw _ (List.mem_of_getElem? (i := 17) rfl)) (hw _ (List.mem_of_getElem? (i := 18) rfl)) (hw _ (List.mem_of_getElem? (i := 19) rfl)) (by decide) (own_ct_cOf l Z a0 hw EL hE n0 [] h542 (own_old w541) (a * b) ) all0 (argsL := [(.long (a * b))]) (rest := []) rfl rfl own_pd4 rfl own_d13_115 rfl (by decide) (W := 0) rfl (by decide) (by decide) (by decide) fun T547 h549 v550 ms551 w548 q552 => ?_
        obtain ⟨K554, r_553, rfl, rfl, nw_E_r_553, nw_F_r_553_low, nw_F_r_553_high, p115_cOf_0⟩ := q552
        have ne_a469_r_553 : a469 ≠ r_553 := Nat.ne_of_lt (Nat.lt_of_lt_of_le E_a469.lt p115_cOf_0)
        have ne_a484_r_553 : a484 ≠ r_553 := Nat.ne_of_lt (Nat.lt_of_lt_of_le E_a484.lt p115_cOf_0)
        have ne_r_501_r_553 : r_501 ≠ r_553 := Nat.ne_of_lt (Nat.lt_of_lt_of_le E_r_501.lt p115_cOf_0)
        have ne_r_509_r_553 : r_509 ≠ r_553 := Nat.ne_of_lt (Nat.lt_of_lt_of_le E_r_509.lt p115_cOf_0)
        have ne_r_517_r_553 : r_517 ≠ r_553 := Nat.ne_of_lt (Nat.lt_of_lt_of_le E_r_517.lt p115_cOf_0)
        have ne_t_477_r_553 : t_477 ≠ r_553 := Nat.ne_of_lt (Nat.lt_of_lt_of_le A_t_477.lt p115_cOf_0)
        have ne_t_492_r_553 : t_492 ≠ r_553 := Nat.ne_of_lt (Nat.lt_of_lt_of_le A_t_492.lt p115_cOf_0)
        have nw_r_553 : h0.size ≤ r_553 := Nat.le_trans K.1 p115_cOf_0
        replace E_a469 := E_a469.keep K554
        replace F_a469_narrow := F_a469_narrow.keep K554 nin0
        replace F_a469_bits := F_a469_bits.keep K554 nin0
        replace E_a484 := E_a484.keep K554
        replace F_a484_narrow := F_a484_narrow.keep K554 nin0
        replace F_a484_bits := F_a484_bits.keep K554 nin0
        replace E_r_501 := E_r_501.keep K554
        replace F_r_501_low := F_r_501_low.keep K554 nin0
        replace F_r_501_high := F_r_501_high.keep K554 nin0
        replace E_r_509 := E_r_509.keep K554
        replace F_r_509_low := F_r_509_low.keep K554 nin0
        replace F_r_509_high := F_r_509_high.keep K554 nin0
        replace E_r_517 := E_r_517.keep K554
        replace F_r_517_low := F_r_517_low.keep K554 nin0
        replace F_r_517_high := F_r_517_high.keep K554 nin0
        replace A_t_477 := A_t_477.keep K554 nin0
        replace A_t_492 := A_t_492.keep K554 nin0
        replace K := K.trans K554 all0
        have E_r_553 := nw_E_r_553; clear nw_E_r_553
        have F_r_553_low := nw_F_r_553_low; clear nw_F_r_553_low
        have F_r_553_high := nw_F_r_553_high; clear nw_F_r_553_high
        show own_Go Z EL n0 p e below s _ _ _ (T547.setTop (mkF m 118 #[.val (.long a), .second, .val (.long b), .second, .val (.long cc), .second, .val (.long ee), .second, .val (.int sel), .val (.int (1 : Int32)), .val (.int (0 : Int32)), .val (.int (0 : Int32)), .val (.ref a469), .val (.ref a484), .val (.ref r_517), .unset] [(.ref r_553)]))
        refine own_goto w548 own_d13_118 (by decide) (pc' := 123) rfl ?_
        refine own_astore (pc' := 125) w548 own_d13_123 rfl (Ls' := #[.val (.long a), .second, .val (.long b), .second, .val (.long cc), .second, .val (.long ee), .second, .val (.int sel), .val (.int (1 : Int32)), .val (.int (0 : Int32)), .val (.int (0 : Int32)), .val (.ref a469), .val (.ref a484), .val (.ref r_517), .val (.ref r_553)]) rfl rfl ?_
        refine own_aload (pc' := 127) w548 own_d13_125 rfl rfl rfl ?_
        refine own_iload (pc' := 129) w548 own_d13_127 rfl rfl ?_
        refine own_callV (pc' := 132) w548 (hw _ (List.mem_of_getElem? (i := 59) rfl)) (hw _ (List.mem_of_getElem? (i := 60) rfl)) (fun s' hZ' => notFace_of_selects (args := #[]) (mvT hZ' (hw _ (List.mem_of_getElem? (i := 62) rfl)))) (hw _ (List.mem_of_getElem? (i := 62) rfl)) (hw _ (List.mem_of_getElem? (i := 61) rfl)) (hw _ (List.mem_of_getElem? (i := 2) rfl)) (hw _ (List.mem_of_getElem? (i := 63) rfl)) (by decide) E_a484 (own_ct_getN0 l Z a0 hw EL hE n0 [] h549 (own_old w548) a484 t_492 kt_493 (a * b) 0 F_a484_narrow F_a484_bits A_t_492) all0 (argsL := [(.int (0 : Int32))]) (rest := []) rfl rfl own_pd10 rfl own_d13_129 rfl (by decide) (W := 0) rfl (by decide) (by decide) (by decide) fun T555 h557 v558 ms559 w556 q560 => ?_
        obtain ⟨K562, r_561, rfl, rfl, nw_E_r_561, nw_F_r_561_low, nw_F_r_561_high, p129_getN0_0⟩ := q560
        have ne_a469_r_561 : a469 ≠ r_561 := Nat.ne_of_lt (Nat.lt_of_lt_of_le E_a469.lt p129_getN0_0)
        have ne_a484_r_561 : a484 ≠ r_561 := Nat.ne_of_lt (Nat.lt_of_lt_of_le E_a484.lt p129_getN0_0)
        have ne_r_501_r_561 : r_501 ≠ r_561 := Nat.ne_of_lt (Nat.lt_of_lt_of_le E_r_501.lt p129_getN0_0)
        have ne_r_509_r_561 : r_509 ≠ r_561 := Nat.ne_of_lt (Nat.lt_of_lt_of_le E_r_509.lt p129_getN0_0)
        have ne_r_517_r_561 : r_517 ≠ r_561 := Nat.ne_of_lt (Nat.lt_of_lt_of_le E_r_517.lt p129_getN0_0)
        have ne_r_553_r_561 : r_553 ≠ r_561 := Nat.ne_of_lt (Nat.lt_of_lt_of_le E_r_553.lt p129_getN0_0)
        have ne_t_477_r_561 : t_477 ≠ r_561 := Nat.ne_of_lt (Nat.lt_of_lt_of_le A_t_477.lt p129_getN0_0)
        have ne_t_492_r_561 : t_492 ≠ r_561 := Nat.ne_of_lt (Nat.lt_of_lt_of_le A_t_492.lt p129_getN0_0)
        have nw_r_561 : h0.size ≤ r_561 := Nat.le_trans K.1 p129_getN0_0
        replace E_a469 := E_a469.keep K562
        replace F_a469_narrow := F_a469_narrow.keep K562 nin0
        replace F_a469_bits := F_a469_bits.keep K562 nin0
        replace E_a484 := E_a484.keep K562
        replace F_a484_narrow := F_a484_narrow.keep K562 nin0
        replace F_a484_bits := F_a484_bits.keep K562 nin0
        replace E_r_501 := E_r_501.keep K562
        replace F_r_501_low := F_r_501_low.keep K562 nin0
        replace F_r_501_high := F_r_501_high.keep K562 nin0
        replace E_r_509 := E_r_509.keep K562
        replace F_r_509_low := F_r_509_low.keep K562 nin0
        replace F_r_509_high := F_r_509_high.keep K562 nin0
        replace E_r_517 := E_r_517.keep K562
        replace F_r_517_low := F_r_517_low.keep K562 nin0
        replace F_r_517_high := F_r_517_high.keep K562 nin0
        replace A_t_477 := A_t_477.keep K562 nin0
        replace A_t_492 := A_t_492.keep K562 nin0
        replace E_r_553 := E_r_553.keep K562
        replace F_r_553_low := F_r_553_low.keep K562 nin0
        replace F_r_553_high := F_r_553_high.keep K562 nin0
        replace K := K.trans K562 all0
        have E_r_561 := nw_E_r_561; clear nw_E_r_561
        have F_r_561_low := nw_F_r_561_low; clear nw_F_r_561_low
        have F_r_561_high := nw_F_r_561_high; clear nw_F_r_561_high
        show own_Go Z EL n0 p e below s _ _ _ (T555.setTop (mkF m 132 #[.val (.long a), .second, .val (.long b), .second, .val (.long cc), .second, .val (.long ee), .second, .val (.int sel), .val (.int (1 : Int32)), .val (.int (0 : Int32)), .val (.int (0 : Int32)), .val (.ref a469), .val (.ref a484), .val (.ref r_517), .val (.ref r_553)] [(.ref r_561)]))
        refine own_aload (pc' := 134) w556 own_d13_132 rfl rfl rfl ?_
        refine own_callV (pc' := 137) w556 (hw _ (List.mem_of_getElem? (i := 65) rfl)) (hw _ (List.mem_of_getElem? (i := 66) rfl)) (fun s' hZ' => notFace_of_selects (args := #[]) (mvT hZ' (hw _ (List.mem_of_getElem? (i := 68) rfl)))) (hw _ (List.mem_of_getElem? (i := 68) rfl)) (hw _ (List.mem_of_getElem? (i := 67) rfl)) (hw _ (List.mem_of_getElem? (i := 18) rfl)) (hw _ (List.mem_of_getElem? (i := 69) rfl)) (by decide) E_r_561 (own_ct_ceq l Z a0 hw EL hE n0 [] h557 (own_old w556) r_561 r_553 (own_sgn (a * b)) (a * b) F_r_561_low F_r_561_high E_r_553 F_r_553_low F_r_553_high) all0 (argsL := [(.ref r_553)]) (rest := []) rfl rfl own_pd11 rfl own_d13_134 rfl (by decide) (W := 0) rfl (by decide) (by decide) (by decide) fun T563 h565 v566 ms567 w564 q568 => ?_
        obtain ⟨rfl, rfl, rfl⟩ := q568
        show own_Go Z EL n0 p e below s _ _ _ (T563.setTop (mkF m 137 #[.val (.long a), .second, .val (.long b), .second, .val (.long cc), .second, .val (.long ee), .second, .val (.int sel), .val (.int (1 : Int32)), .val (.int (0 : Int32)), .val (.int (0 : Int32)), .val (.ref a469), .val (.ref a484), .val (.ref r_517), .val (.ref r_553)] [(.int (1 : Int32))]))
        refine own_if (pc' := 140) w564 own_d13_137 rfl (by decide) (pcY := 171) rfl (fun (hb137 : (1 : Int32) = (0 : Int32)) => absurd hb137 (by decide)) (fun (hb137 : ¬ (1 : Int32) = (0 : Int32)) => ?_)
        refine own_aload (pc' := 142) w564 own_d13_140 rfl rfl rfl ?_
        refine own_iconst (pc' := 143) w564 own_d13_142 (x := (1 : Int32)) rfl rfl ?_
        refine own_iload (pc' := 145) w564 own_d13_143 rfl rfl ?_
        refine own_isub (pc' := 146) w564 own_d13_145 (z := (1 : Int32)) (by decide) rfl ?_
        refine own_callV (pc' := 149) w564 (hw _ (List.mem_of_getElem? (i := 71) rfl)) (hw _ (List.mem_of_getElem? (i := 72) rfl)) (fun s' hZ' => notFace_of_selects (args := #[]) (mvT hZ' (hw _ (List.mem_of_getElem? (i := 74) rfl)))) (hw _ (List.mem_of_getElem? (i := 74) rfl)) (hw _ (List.mem_of_getElem? (i := 73) rfl)) (hw _ (List.mem_of_getElem? (i := 2) rfl)) (hw _ (List.mem_of_getElem? (i := 75) rfl)) (by decide) E_a484 (own_ct_sigN1 l Z a0 hw EL hE n0 [] h557 (own_old w564) a484 t_492 kt_493 (a * b) F_a484_narrow F_a484_bits A_t_492) all0 (argsL := [(.int (1 : Int32))]) (rest := []) rfl rfl own_pd12 rfl own_d13_146 rfl (by decide) (W := 0) rfl (by decide) (by decide) (by decide) fun T569 h571 v572 ms573 w570 q574 => ?_
        obtain ⟨rfl, rfl, rfl⟩ := q574
        show own_Go Z EL n0 p e below s _ _ _ (T569.setTop (mkF m 149 #[.val (.long a), .second, .val (.long b), .second, .val (.long cc), .second, .val (.long ee), .second, .val (.int sel), .val (.int (1 : Int32)), .val (.int (0 : Int32)), .val (.int (0 : Int32)), .val (.ref a469), .val (.ref a484), .val (.ref r_517), .val (.ref r_553)] [(.int (0 : Int32))]))
        refine own_if (pc' := 152) w570 own_d13_149 rfl (by decide) (pcY := 171) rfl (fun (hb149 : ¬ (0 : Int32) = (0 : Int32)) => absurd hb149 (by decide)) (fun (hb149 : (0 : Int32) = (0 : Int32)) => ?_)
        refine own_aload (pc' := 154) w570 own_d13_152 rfl rfl rfl ?_
        refine own_iload (pc' := 156) w570 own_d13_154 rfl rfl ?_
        refine own_callV (pc' := 159) w570 (hw _ (List.mem_of_getElem? (i := 59) rfl)) (hw _ (List.mem_of_getElem? (i := 60) rfl)) (fun s' hZ' => notFace_of_selects (args := #[]) (mvT hZ' (hw _ (List.mem_of_getElem? (i := 62) rfl)))) (hw _ (List.mem_of_getElem? (i := 62) rfl)) (hw _ (List.mem_of_getElem? (i := 61) rfl)) (hw _ (List.mem_of_getElem? (i := 2) rfl)) (hw _ (List.mem_of_getElem? (i := 63) rfl)) (by decide) E_a469 (own_ct_getN0 l Z a0 hw EL hE n0 [] h557 (own_old w570) a469 t_477 kt_478 (a * b) ee F_a469_narrow F_a469_bits A_t_477) all0 (argsL := [(.int (0 : Int32))]) (rest := []) rfl rfl own_pd10 rfl own_d13_156 rfl (by decide) (W := 0) rfl (by decide) (by decide) (by decide) fun T575 h577 v578 ms579 w576 q580 => ?_
        obtain ⟨K582, r_581, rfl, rfl, nw_E_r_581, nw_F_r_581_low, nw_F_r_581_high, p156_getN0_0⟩ := q580
        have ne_a469_r_581 : a469 ≠ r_581 := Nat.ne_of_lt (Nat.lt_of_lt_of_le E_a469.lt p156_getN0_0)
        have ne_a484_r_581 : a484 ≠ r_581 := Nat.ne_of_lt (Nat.lt_of_lt_of_le E_a484.lt p156_getN0_0)
        have ne_r_501_r_581 : r_501 ≠ r_581 := Nat.ne_of_lt (Nat.lt_of_lt_of_le E_r_501.lt p156_getN0_0)
        have ne_r_509_r_581 : r_509 ≠ r_581 := Nat.ne_of_lt (Nat.lt_of_lt_of_le E_r_509.lt p156_getN0_0)
        have ne_r_517_r_581 : r_517 ≠ r_581 := Nat.ne_of_lt (Nat.lt_of_lt_of_le E_r_517.lt p156_getN0_0)
        have ne_r_553_r_581 : r_553 ≠ r_581 := Nat.ne_of_lt (Nat.lt_of_lt_of_le E_r_553.lt p156_getN0_0)
        have ne_r_561_r_581 : r_561 ≠ r_581 := Nat.ne_of_lt (Nat.lt_of_lt_of_le E_r_561.lt p156_getN0_0)
        have ne_t_477_r_581 : t_477 ≠ r_581 := Nat.ne_of_lt (Nat.lt_of_lt_of_le A_t_477.lt p156_getN0_0)
        have ne_t_492_r_581 : t_492 ≠ r_581 := Nat.ne_of_lt (Nat.lt_of_lt_of_le A_t_492.lt p156_getN0_0)
        have nw_r_581 : h0.size ≤ r_581 := Nat.le_trans K.1 p156_getN0_0
        replace E_a469 := E_a469.keep K582
        replace F_a469_narrow := F_a469_narrow.keep K582 nin0
        replace F_a469_bits := F_a469_bits.keep K582 nin0
        replace E_a484 := E_a484.keep K582
        replace F_a484_narrow := F_a484_narrow.keep K582 nin0
        replace F_a484_bits := F_a484_bits.keep K582 nin0
        replace E_r_501 := E_r_501.keep K582
        replace F_r_501_low := F_r_501_low.keep K582 nin0
        replace F_r_501_high := F_r_501_high.keep K582 nin0
        replace E_r_509 := E_r_509.keep K582
        replace F_r_509_low := F_r_509_low.keep K582 nin0
        replace F_r_509_high := F_r_509_high.keep K582 nin0
        replace E_r_517 := E_r_517.keep K582
        replace F_r_517_low := F_r_517_low.keep K582 nin0
        replace F_r_517_high := F_r_517_high.keep K582 nin0
        replace A_t_477 := A_t_477.keep K582 nin0
        replace A_t_492 := A_t_492.keep K582 nin0
        replace E_r_553 := E_r_553.keep K582
        replace F_r_553_low := F_r_553_low.keep K582 nin0
        replace F_r_553_high := F_r_553_high.keep K582 nin0
        replace E_r_561 := E_r_561.keep K582
        replace F_r_561_low := F_r_561_low.keep K582 nin0
        replace F_r_561_high := F_r_561_high.keep K582 nin0
        replace K := K.trans K582 all0
        have E_r_581 := nw_E_r_581; clear nw_E_r_581
        have F_r_581_low := nw_F_r_581_low; clear nw_F_r_581_low
        have F_r_581_high := nw_F_r_581_high; clear nw_F_r_581_high
        show own_Go Z EL n0 p e below s _ _ _ (T575.setTop (mkF m 159 #[.val (.long a), .second, .val (.long b), .second, .val (.long cc), .second, .val (.long ee), .second, .val (.int sel), .val (.int (1 : Int32)), .val (.int (0 : Int32)), .val (.int (0 : Int32)), .val (.ref a469), .val (.ref a484), .val (.ref r_517), .val (.ref r_553)] [(.ref r_581)]))
        refine own_aload (pc' := 161) w576 own_d13_159 rfl rfl rfl ?_
        refine own_callV (pc' := 164) w576 (hw _ (List.mem_of_getElem? (i := 65) rfl)) (hw _ (List.mem_of_getElem? (i := 66) rfl)) (fun s' hZ' => notFace_of_selects (args := #[]) (mvT hZ' (hw _ (List.mem_of_getElem? (i := 68) rfl)))) (hw _ (List.mem_of_getElem? (i := 68) rfl)) (hw _ (List.mem_of_getElem? (i := 67) rfl)) (hw _ (List.mem_of_getElem? (i := 18) rfl)) (hw _ (List.mem_of_getElem? (i := 69) rfl)) (by decide) E_r_581 (own_ct_ceq l Z a0 hw EL hE n0 [] h577 (own_old w576) r_581 r_553 (own_sgn (a * b)) (a * b) F_r_581_low F_r_581_high E_r_553 F_r_553_low F_r_553_high) all0 (argsL := [(.ref r_553)]) (rest := []) rfl rfl own_pd11 rfl own_d13_161 rfl (by decide) (W := 0) rfl (by decide) (by decide) (by decide) fun T583 h585 v586 ms587 w584 q588 => ?_
        obtain ⟨rfl, rfl, rfl⟩ := q588
        show own_Go Z EL n0 p e below s _ _ _ (T583.setTop (mkF m 164 #[.val (.long a), .second, .val (.long b), .second, .val (.long cc), .second, .val (.long ee), .second, .val (.int sel), .val (.int (1 : Int32)), .val (.int (0 : Int32)), .val (.int (0 : Int32)), .val (.ref a469), .val (.ref a484), .val (.ref r_517), .val (.ref r_553)] [(.int (1 : Int32))]))
        refine own_if (pc' := 167) w584 own_d13_164 rfl (by decide) (pcY := 171) rfl (fun (hb164 : (1 : Int32) = (0 : Int32)) => absurd hb164 (by decide)) (fun (hb164 : ¬ (1 : Int32) = (0 : Int32)) => ?_)
        refine own_iconst (pc' := 168) w584 own_d13_167 (x := (1 : Int32)) rfl rfl ?_
        refine own_goto w584 own_d13_168 (by decide) (pc' := 172) rfl ?_
        exact own_retV w584 (t := .boolean) rfl rfl (Or.inl ⟨rfl, by simp, _, rfl⟩) own_d13_172 (by decide) (by decide) (ms' := []) all0 ⟨K, rfl, rfl⟩
      · -- f01
        refine own_iand (pc' := 28) w0 own_d13_27 (z := (1 : Int32)) hat rfl ?_
        refine own_istore (pc' := 30) w0 own_d13_28 (Ls' := #[.val (.long a), .second, .val (.long b), .second, .val (.long cc), .second, .val (.long ee), .second, .val (.int sel), .val (.int (1 : Int32)), .val (.int (0 : Int32)), .val (.int (1 : Int32)), .unset, .unset, .unset, .unset]) rfl rfl ?_
        refine own_newO (pc' := 33) w0 (hw _ (List.mem_of_getElem? (i := 0) rfl)) (hw _ (List.mem_of_getElem? (i := 1) rfl)) (hw _ (List.mem_of_getElem? (i := 2) rfl)) own_d13_30 rfl (by decide) (by decide) fun T589 h591 a593 g_a593 w590 E592 ⟨E_a593, D594⟩ => ?_
        have nw_a593 : h0.size ≤ a593 := Nat.le_trans K.1 (Nat.le_of_eq g_a593)
        replace K := K.ext E592
        have F_a593_product : Fld Z h591 a593 "com/example/throng/throng/engine/Count$Array" "product" "[J" .null := D594 (Or.inr (hw _ (List.mem_of_getElem? (i := 11) rfl))) (ty := (.array .long)) (by decide)
        have F_a593_narrow : Fld Z h591 a593 "com/example/throng/throng/engine/Count$Array" "narrow" "Z" (.int 0) := D594 (Or.inr (hw _ (List.mem_of_getElem? (i := 13) rfl))) (ty := .boolean) (by decide)
        have F_a593_bits : Fld Z h591 a593 "com/example/throng/throng/engine/Count$Array" "bits" "[J" .null := D594 (Or.inr (hw _ (List.mem_of_getElem? (i := 15) rfl))) (ty := (.array .long)) (by decide)
        refine own_dup (pc' := 34) w590 own_d13_33 rfl rfl ?_
        refine own_iconst (pc' := 35) w590 own_d13_34 (x := (2 : Int32)) rfl rfl ?_
        refine own_iload (pc' := 37) w590 own_d13_35 rfl rfl ?_
        refine own_callI (pc' := 40) w590 rfl (hw _ (List.mem_of_getElem? (i := 3) rfl)) (hw _ (List.mem_of_getElem? (i := 4) rfl)) (hw _ (List.mem_of_getElem? (i := 2) rfl)) (hw _ (List.mem_of_getElem? (i := 5) rfl)) (by decide) (own_ct_aInitN l Z a0 hw EL hE n0 [] h591 (own_old w590) a593 .null (.int 0) .null E_a593 F_a593_product F_a593_narrow F_a593_bits) (allS (P := fun x => x ∈ _) (by simp) all0) (argsL := [(.int (2 : Int32)), (.int (1 : Int32))]) (rest := [(.ref a593)]) rfl rfl own_pd5 rfl own_d13_37 rfl (by decide) (W := 1) rfl (by decide) (by decide) (by decide) fun T595 h597 v598 ms599 w596 q600 => ?_
        obtain ⟨K603, t_601, kt_602, rfl, rfl, nw_E_a593, nw_F_a593_narrow, nw_F_a593_bits, nw_A_t_601, p37_aInitN_0⟩ := q600
        have ne_a593_t_601 : a593 ≠ t_601 := Nat.ne_of_lt (Nat.lt_of_lt_of_le E_a593.lt p37_aInitN_0)
        have nw_t_601 : h0.size ≤ t_601 := Nat.le_trans K.1 p37_aInitN_0
        replace K := K.trans K603 (allS (P := fun x => x ∈ ([] : List Addr) ∨ h0.size ≤ x) (Or.inr nw_a593) all0)
        have E_a593 := nw_E_a593; clear nw_E_a593
        have F_a593_narrow := nw_F_a593_narrow; clear nw_F_a593_narrow
        have F_a593_bits := nw_F_a593_bits; clear nw_F_a593_bits
        have A_t_601 := nw_A_t_601; clear nw_A_t_601
        show own_Go Z EL n0 p e below s _ _ _ (T595.setTop (mkF m 40 #[.val (.long a), .second, .val (.long b), .second, .val (.long cc), .second, .val (.long ee), .second, .val (.int sel), .val (.int (1 : Int32)), .val (.int (0 : Int32)), .val (.int (1 : Int32)), .unset, .unset, .unset, .unset] [(.ref a593)]))
        refine own_astore (pc' := 42) w596 own_d13_40 rfl (Ls' := #[.val (.long a), .second, .val (.long b), .second, .val (.long cc), .second, .val (.long ee), .second, .val (.int sel), .val (.int (1 : Int32)), .val (.int (0 : Int32)), .val (.int (1 : Int32)), .val (.ref a593), .unset, .unset, .unset]) rfl rfl ?_
        refine own_newO (pc' := 45) w596 (hw _ (List.mem_of_getElem? (i := 0) rfl)) (hw _ (List.mem_of_getElem? (i := 1) rfl)) (hw _ (List.mem_of_getElem? (i := 2) rfl)) own_d13_42 rfl (by decide) (by decide) fun T604 h606 a608 g_a608 w605 E607 ⟨E_a608, D609⟩ => ?_
        have ne_a593_a608 : a593 ≠ a608 := Nat.ne_of_lt (Nat.lt_of_lt_of_le E_a593.lt (Nat.le_of_eq g_a608))
        have ne_t_601_a608 : t_601 ≠ a608 := Nat.ne_of_lt (Nat.lt_of_lt_of_le A_t_601.lt (Nat.le_of_eq g_a608))
        have nw_a608 : h0.size ≤ a608 := Nat.le_trans K.1 (Nat.le_of_eq g_a608)
        replace E_a593 := E_a593.ext E607
        replace F_a593_narrow := F_a593_narrow.ext E607
        replace F_a593_bits := F_a593_bits.ext E607
        replace A_t_601 := A_t_601.ext E607
        replace K := K.ext E607
        have F_a608_product : Fld Z h606 a608 "com/example/throng/throng/engine/Count$Array" "product" "[J" .null := D609 (Or.inr (hw _ (List.mem_of_getElem? (i := 11) rfl))) (ty := (.array .long)) (by decide)
        have F_a608_narrow : Fld Z h606 a608 "com/example/throng/throng/engine/Count$Array" "narrow" "Z" (.int 0) := D609 (Or.inr (hw _ (List.mem_of_getElem? (i := 13) rfl))) (ty := .boolean) (by decide)
        have F_a608_bits : Fld Z h606 a608 "com/example/throng/throng/engine/Count$Array" "bits" "[J" .null := D609 (Or.inr (hw _ (List.mem_of_getElem? (i := 15) rfl))) (ty := (.array .long)) (by decide)
        refine own_dup (pc' := 46) w605 own_d13_45 rfl rfl ?_
        refine own_iconst (pc' := 47) w605 own_d13_46 (x := (2 : Int32)) rfl rfl ?_
        refine own_iload (pc' := 49) w605 own_d13_47 rfl rfl ?_
        refine own_callI (pc' := 52) w605 rfl (hw _ (List.mem_of_getElem? (i := 3) rfl)) (hw _ (List.mem_of_getElem? (i := 4) rfl)) (hw _ (List.mem_of_getElem? (i := 2) rfl)) (hw _ (List.mem_of_getElem? (i := 5) rfl)) (by decide) (own_ct_aInitN l Z a0 hw EL hE n0 [] h606 (own_old w605) a608 .null (.int 0) .null E_a608 F_a608_product F_a608_narrow F_a608_bits) (allS (P := fun x => x ∈ _) (by simp) all0) (argsL := [(.int (2 : Int32)), (.int (1 : Int32))]) (rest := [(.ref a608)]) rfl rfl own_pd5 rfl own_d13_49 rfl (by decide) (W := 1) rfl (by decide) (by decide) (by decide) fun T610 h612 v613 ms614 w611 q615 => ?_
        obtain ⟨K618, t_616, kt_617, rfl, rfl, nw_E_a608, nw_F_a608_narrow, nw_F_a608_bits, nw_A_t_616, p49_aInitN_0⟩ := q615
        have ne_a593_t_616 : a593 ≠ t_616 := Nat.ne_of_lt (Nat.lt_of_lt_of_le E_a593.lt p49_aInitN_0)
        have ne_a608_t_616 : a608 ≠ t_616 := Nat.ne_of_lt (Nat.lt_of_lt_of_le E_a608.lt p49_aInitN_0)
        have ne_t_601_t_616 : t_601 ≠ t_616 := Nat.ne_of_lt (Nat.lt_of_lt_of_le A_t_601.lt p49_aInitN_0)
        have nw_t_616 : h0.size ≤ t_616 := Nat.le_trans K.1 p49_aInitN_0
        replace E_a593 := E_a593.keep K618
        replace F_a593_narrow := F_a593_narrow.keep K618 (ninS ne_a593_a608 nin0)
        replace F_a593_bits := F_a593_bits.keep K618 (ninS ne_a593_a608 nin0)
        replace A_t_601 := A_t_601.keep K618 (ninS ne_t_601_a608 nin0)
        replace K := K.trans K618 (allS (P := fun x => x ∈ ([] : List Addr) ∨ h0.size ≤ x) (Or.inr nw_a608) all0)
        have E_a608 := nw_E_a608; clear nw_E_a608
        have F_a608_narrow := nw_F_a608_narrow; clear nw_F_a608_narrow
        have F_a608_bits := nw_F_a608_bits; clear nw_F_a608_bits
        have A_t_616 := nw_A_t_616; clear nw_A_t_616
        show own_Go Z EL n0 p e below s _ _ _ (T610.setTop (mkF m 52 #[.val (.long a), .second, .val (.long b), .second, .val (.long cc), .second, .val (.long ee), .second, .val (.int sel), .val (.int (1 : Int32)), .val (.int (0 : Int32)), .val (.int (1 : Int32)), .val (.ref a593), .unset, .unset, .unset] [(.ref a608)]))
        refine own_astore (pc' := 54) w611 own_d13_52 rfl (Ls' := #[.val (.long a), .second, .val (.long b), .second, .val (.long cc), .second, .val (.long ee), .second, .val (.int sel), .val (.int (1 : Int32)), .val (.int (0 : Int32)), .val (.int (1 : Int32)), .val (.ref a593), .val (.ref a608), .unset, .unset]) rfl rfl ?_
        refine own_lloadN (pc' := 55) w611 own_d13_54 rfl rfl ?_
        refine own_callS (pc' := 58) w611 (hw _ (List.mem_of_getElem? (i := 16) rfl)) (hw _ (List.mem_of_getElem? (i := 17) rfl)) (hw _ (List.mem_of_getElem? (i := 18) rfl)) (hw _ (List.mem_of_getElem? (i := 19) rfl)) (by decide) (own_ct_cOf l Z a0 hw EL hE n0 [] h612 (own_old w611) a ) all0 (argsL := [(.long a)]) (rest := []) rfl rfl own_pd4 rfl own_d13_55 rfl (by decide) (W := 0) rfl (by decide) (by decide) (by decide) fun T619 h621 v622 ms623 w620 q624 => ?_
        obtain ⟨K626, r_625, rfl, rfl, nw_E_r_625, nw_F_r_625_low, nw_F_r_625_high, p55_cOf_0⟩ := q624
        have ne_a593_r_625 : a593 ≠ r_625 := Nat.ne_of_lt (Nat.lt_of_lt_of_le E_a593.lt p55_cOf_0)
        have ne_a608_r_625 : a608 ≠ r_625 := Nat.ne_of_lt (Nat.lt_of_lt_of_le E_a608.lt p55_cOf_0)
        have ne_t_601_r_625 : t_601 ≠ r_625 := Nat.ne_of_lt (Nat.lt_of_lt_of_le A_t_601.lt p55_cOf_0)
        have ne_t_616_r_625 : t_616 ≠ r_625 := Nat.ne_of_lt (Nat.lt_of_lt_of_le A_t_616.lt p55_cOf_0)
        have nw_r_625 : h0.size ≤ r_625 := Nat.le_trans K.1 p55_cOf_0
        replace E_a593 := E_a593.keep K626
        replace F_a593_narrow := F_a593_narrow.keep K626 nin0
        replace F_a593_bits := F_a593_bits.keep K626 nin0
        replace A_t_601 := A_t_601.keep K626 nin0
        replace E_a608 := E_a608.keep K626
        replace F_a608_narrow := F_a608_narrow.keep K626 nin0
        replace F_a608_bits := F_a608_bits.keep K626 nin0
        replace A_t_616 := A_t_616.keep K626 nin0
        replace K := K.trans K626 all0
        have E_r_625 := nw_E_r_625; clear nw_E_r_625
        have F_r_625_low := nw_F_r_625_low; clear nw_F_r_625_low
        have F_r_625_high := nw_F_r_625_high; clear nw_F_r_625_high
        show own_Go Z EL n0 p e below s _ _ _ (T619.setTop (mkF m 58 #[.val (.long a), .second, .val (.long b), .second, .val (.long cc), .second, .val (.long ee), .second, .val (.int sel), .val (.int (1 : Int32)), .val (.int (0 : Int32)), .val (.int (1 : Int32)), .val (.ref a593), .val (.ref a608), .unset, .unset] [(.ref r_625)]))
        refine own_lloadN (pc' := 59) w620 own_d13_58 rfl rfl ?_
        refine own_callS (pc' := 62) w620 (hw _ (List.mem_of_getElem? (i := 16) rfl)) (hw _ (List.mem_of_getElem? (i := 17) rfl)) (hw _ (List.mem_of_getElem? (i := 18) rfl)) (hw _ (List.mem_of_getElem? (i := 19) rfl)) (by decide) (own_ct_cOf l Z a0 hw EL hE n0 [] h621 (own_old w620) b ) all0 (argsL := [(.long b)]) (rest := [(.ref r_625)]) rfl rfl own_pd4 rfl own_d13_59 rfl (by decide) (W := 1) rfl (by decide) (by decide) (by decide) fun T627 h629 v630 ms631 w628 q632 => ?_
        obtain ⟨K634, r_633, rfl, rfl, nw_E_r_633, nw_F_r_633_low, nw_F_r_633_high, p59_cOf_0⟩ := q632
        have ne_a593_r_633 : a593 ≠ r_633 := Nat.ne_of_lt (Nat.lt_of_lt_of_le E_a593.lt p59_cOf_0)
        have ne_a608_r_633 : a608 ≠ r_633 := Nat.ne_of_lt (Nat.lt_of_lt_of_le E_a608.lt p59_cOf_0)
        have ne_r_625_r_633 : r_625 ≠ r_633 := Nat.ne_of_lt (Nat.lt_of_lt_of_le E_r_625.lt p59_cOf_0)
        have ne_t_601_r_633 : t_601 ≠ r_633 := Nat.ne_of_lt (Nat.lt_of_lt_of_le A_t_601.lt p59_cOf_0)
        have ne_t_616_r_633 : t_616 ≠ r_633 := Nat.ne_of_lt (Nat.lt_of_lt_of_le A_t_616.lt p59_cOf_0)
        have nw_r_633 : h0.size ≤ r_633 := Nat.le_trans K.1 p59_cOf_0
        replace E_a593 := E_a593.keep K634
        replace F_a593_narrow := F_a593_narrow.keep K634 nin0
        replace F_a593_bits := F_a593_bits.keep K634 nin0
        replace A_t_601 := A_t_601.keep K634 nin0
        replace E_a608 := E_a608.keep K634
        replace F_a608_narrow := F_a608_narrow.keep K634 nin0
        replace F_a608_bits := F_a608_bits.keep K634 nin0
        replace A_t_616 := A_t_616.keep K634 nin0
        replace E_r_625 := E_r_625.keep K634
        replace F_r_625_low := F_r_625_low.keep K634 nin0
        replace F_r_625_high := F_r_625_high.keep K634 nin0
        replace K := K.trans K634 all0
        have E_r_633 := nw_E_r_633; clear nw_E_r_633
        have F_r_633_low := nw_F_r_633_low; clear nw_F_r_633_low
        have F_r_633_high := nw_F_r_633_high; clear nw_F_r_633_high
        show own_Go Z EL n0 p e below s _ _ _ (T627.setTop (mkF m 62 #[.val (.long a), .second, .val (.long b), .second, .val (.long cc), .second, .val (.long ee), .second, .val (.int sel), .val (.int (1 : Int32)), .val (.int (0 : Int32)), .val (.int (1 : Int32)), .val (.ref a593), .val (.ref a608), .unset, .unset] [(.ref r_633), (.ref r_625)]))
        refine own_callV (pc' := 65) w628 (hw _ (List.mem_of_getElem? (i := 30) rfl)) (hw _ (List.mem_of_getElem? (i := 31) rfl)) (fun s' hZ' => notFace_of_selects (args := #[]) (mvT hZ' (hw _ (List.mem_of_getElem? (i := 33) rfl)))) (hw _ (List.mem_of_getElem? (i := 33) rfl)) (hw _ (List.mem_of_getElem? (i := 32) rfl)) (hw _ (List.mem_of_getElem? (i := 18) rfl)) (hw _ (List.mem_of_getElem? (i := 34) rfl)) (by decide) E_r_625 (own_ct_times l Z a0 hw EL hE n0 [] h629 (own_old w628) r_625 r_633 a b F_r_625_low F_r_625_high F_r_633_low F_r_633_high) all0 (argsL := [(.ref r_633)]) (rest := []) rfl rfl own_pd6 rfl own_d13_62 rfl (by decide) (W := 0) rfl (by decide) (by decide) (by decide) fun T635 h637 v638 ms639 w636 q640 => ?_
        obtain ⟨K642, r_641, rfl, rfl, nw_E_r_641, nw_F_r_641_low, nw_F_r_641_high, p62_times_0⟩ := q640
        have ne_a593_r_641 : a593 ≠ r_641 := Nat.ne_of_lt (Nat.lt_of_lt_of_le E_a593.lt p62_times_0)
        have ne_a608_r_641 : a608 ≠ r_641 := Nat.ne_of_lt (Nat.lt_of_lt_of_le E_a608.lt p62_times_0)
        have ne_r_625_r_641 : r_625 ≠ r_641 := Nat.ne_of_lt (Nat.lt_of_lt_of_le E_r_625.lt p62_times_0)
        have ne_r_633_r_641 : r_633 ≠ r_641 := Nat.ne_of_lt (Nat.lt_of_lt_of_le E_r_633.lt p62_times_0)
        have ne_t_601_r_641 : t_601 ≠ r_641 := Nat.ne_of_lt (Nat.lt_of_lt_of_le A_t_601.lt p62_times_0)
        have ne_t_616_r_641 : t_616 ≠ r_641 := Nat.ne_of_lt (Nat.lt_of_lt_of_le A_t_616.lt p62_times_0)
        have nw_r_641 : h0.size ≤ r_641 := Nat.le_trans K.1 p62_times_0
        replace E_a593 := E_a593.keep K642
        replace F_a593_narrow := F_a593_narrow.keep K642 nin0
        replace F_a593_bits := F_a593_bits.keep K642 nin0
        replace A_t_601 := A_t_601.keep K642 nin0
        replace E_a608 := E_a608.keep K642
        replace F_a608_narrow := F_a608_narrow.keep K642 nin0
        replace F_a608_bits := F_a608_bits.keep K642 nin0
        replace A_t_616 := A_t_616.keep K642 nin0
        replace E_r_625 := E_r_625.keep K642
        replace F_r_625_low := F_r_625_low.keep K642 nin0
        replace F_r_625_high := F_r_625_high.keep K642 nin0
        replace E_r_633 := E_r_633.keep K642
        replace F_r_633_low := F_r_633_low.keep K642 nin0
        replace F_r_633_high := F_r_633_high.keep K642 nin0
        replace K := K.trans K642 all0
        have E_r_641 := nw_E_r_641; clear nw_E_r_641
        have F_r_641_low := nw_F_r_641_low; clear nw_F_r_641_low
        have F_r_641_high := nw_F_r_641_high; clear nw_F_r_641_high
        show own_Go Z EL n0 p e below s _ _ _ (T635.setTop (mkF m 65 #[.val (.long a), .second, .val (.long b), .second, .val (.long cc), .second, .val (.long ee), .second, .val (.int sel), .val (.int (1 : Int32)), .val (.int (0 : Int32)), .val (.int (1 : Int32)), .val (.ref a593), .val (.ref a608), .unset, .unset] [(.ref r_641)]))
        refine own_astore (pc' := 67) w636 own_d13_65 rfl (Ls' := #[.val (.long a), .second, .val (.long b), .second, .val (.long cc), .second, .val (.long ee), .second, .val (.int sel), .val (.int (1 : Int32)), .val (.int (0 : Int32)), .val (.int (1 : Int32)), .val (.ref a593), .val (.ref a608), .val (.ref r_641), .unset]) rfl rfl ?_
        refine own_aload (pc' := 69) w636 own_d13_67 rfl rfl rfl ?_
        refine own_iload (pc' := 71) w636 own_d13_69 rfl rfl ?_
        refine own_aload (pc' := 73) w636 own_d13_71 rfl rfl rfl ?_
        refine own_callV (pc' := 76) w636 (hw _ (List.mem_of_getElem? (i := 43) rfl)) (hw _ (List.mem_of_getElem? (i := 44) rfl)) (fun s' hZ' => notFace_of_selects (args := #[]) (mvT hZ' (hw _ (List.mem_of_getElem? (i := 46) rfl)))) (hw _ (List.mem_of_getElem? (i := 46) rfl)) (hw _ (List.mem_of_getElem? (i := 45) rfl)) (hw _ (List.mem_of_getElem? (i := 2) rfl)) (hw _ (List.mem_of_getElem? (i := 47) rfl)) (by decide) E_a593 (own_ct_setCN1 l Z a0 hw EL hE n0 [] h637 (own_old w636) a593 r_641 t_601 kt_602 (own_mh a b) (a * b) 0 0 F_a593_narrow F_a593_bits A_t_601 F_r_641_low F_r_641_high ne_a593_t_601 (Ne.symm ne_t_601_r_641)) (allS (P := fun x => x ∈ _) (by simp) all0) (argsL := [(.int (1 : Int32)), (.ref r_641)]) (rest := []) rfl rfl own_pd7 rfl own_d13_73 rfl (by decide) (W := 0) rfl (by decide) (by decide) (by decide) fun T643 h645 v646 ms647 w644 q648 => ?_
        obtain ⟨K649, rfl, rfl, nw_A_t_601⟩ := q648
        replace E_a593 := E_a593.keep K649
        replace F_a593_narrow := F_a593_narrow.keep K649 (ninS ne_a593_t_601 nin0)
        replace F_a593_bits := F_a593_bits.keep K649 (ninS ne_a593_t_601 nin0)
        replace E_a608 := E_a608.keep K649
        replace F_a608_narrow := F_a608_narrow.keep K649 (ninS (Ne.symm ne_t_601_a608) nin0)
        replace F_a608_bits := F_a608_bits.keep K649 (ninS (Ne.symm ne_t_601_a608) nin0)
        replace A_t_616 := A_t_616.keep K649 (ninS (Ne.symm ne_t_601_t_616) nin0)
        replace E_r_625 := E_r_625.keep K649
        replace F_r_625_low := F_r_625_low.keep K649 (ninS (Ne.symm ne_t_601_r_625) nin0)
        replace F_r_625_high := F_r_625_high.keep K649 (ninS (Ne.symm ne_t_601_r_625) nin0)
        replace E_r_633 := E_r_633.keep K649
        replace F_r_633_low := F_r_633_low.keep K649 (ninS (Ne.symm ne_t_601_r_633) nin0)
        replace F_r_633_high := F_r_633_high.keep K649 (ninS (Ne.symm ne_t_601_r_633) nin0)
        replace E_r_641 := E_r_641.keep K649
        replace F_r_641_low := F_r_641_low.keep K649 (ninS (Ne.symm ne_t_601_r_641) nin0)
        replace F_r_641_high := F_r_641_high.keep K649 (ninS (Ne.symm ne_t_601_r_641) nin0)
        replace K := K.trans K649 (allS (P := fun x => x ∈ ([] : List Addr) ∨ h0.size ≤ x) (Or.inr nw_t_601) all0)
        have A_t_601 := nw_A_t_601; clear nw_A_t_601
        show own_Go Z EL n0 p e below s _ _ _ (T643.setTop (mkF m 76 #[.val (.long a), .second, .val (.long b), .second, .val (.long cc), .second, .val (.long ee), .second, .val (.int sel), .val (.int (1 : Int32)), .val (.int (0 : Int32)), .val (.int (1 : Int32)), .val (.ref a593), .val (.ref a608), .val (.ref r_641), .unset] []))
        refine own_aload (pc' := 78) w644 own_d13_76 rfl rfl rfl ?_
        refine own_iconst (pc' := 79) w644 own_d13_78 (x := (1 : Int32)) rfl rfl ?_
        refine own_iload (pc' := 81) w644 own_d13_79 rfl rfl ?_
        refine own_isub (pc' := 82) w644 own_d13_81 (z := (0 : Int32)) (by decide) rfl ?_
        refine own_lload (pc' := 84) w644 own_d13_82 rfl rfl ?_
        refine own_callV (pc' := 87) w644 (hw _ (List.mem_of_getElem? (i := 49) rfl)) (hw _ (List.mem_of_getElem? (i := 50) rfl)) (fun s' hZ' => notFace_of_selects (args := #[]) (mvT hZ' (hw _ (List.mem_of_getElem? (i := 52) rfl)))) (hw _ (List.mem_of_getElem? (i := 52) rfl)) (hw _ (List.mem_of_getElem? (i := 51) rfl)) (hw _ (List.mem_of_getElem? (i := 2) rfl)) (hw _ (List.mem_of_getElem? (i := 53) rfl)) (by decide) E_a593 (own_ct_setJN0 l Z a0 hw EL hE n0 [] h645 (own_old w644) a593 ee t_601 kt_602 0 (a * b) F_a593_narrow F_a593_bits A_t_601 ne_a593_t_601) (allS (P := fun x => x ∈ _) (by simp) all0) (argsL := [(.int (0 : Int32)), (.long ee)]) (rest := []) rfl rfl own_pd8 rfl own_d13_84 rfl (by decide) (W := 0) rfl (by decide) (by decide) (by decide) fun T650 h652 v653 ms654 w651 q655 => ?_
        obtain ⟨K656, rfl, rfl, nw_A_t_601⟩ := q655
        replace E_a593 := E_a593.keep K656
        replace F_a593_narrow := F_a593_narrow.keep K656 (ninS ne_a593_t_601 nin0)
        replace F_a593_bits := F_a593_bits.keep K656 (ninS ne_a593_t_601 nin0)
        replace E_a608 := E_a608.keep K656
        replace F_a608_narrow := F_a608_narrow.keep K656 (ninS (Ne.symm ne_t_601_a608) nin0)
        replace F_a608_bits := F_a608_bits.keep K656 (ninS (Ne.symm ne_t_601_a608) nin0)
        replace A_t_616 := A_t_616.keep K656 (ninS (Ne.symm ne_t_601_t_616) nin0)
        replace E_r_625 := E_r_625.keep K656
        replace F_r_625_low := F_r_625_low.keep K656 (ninS (Ne.symm ne_t_601_r_625) nin0)
        replace F_r_625_high := F_r_625_high.keep K656 (ninS (Ne.symm ne_t_601_r_625) nin0)
        replace E_r_633 := E_r_633.keep K656
        replace F_r_633_low := F_r_633_low.keep K656 (ninS (Ne.symm ne_t_601_r_633) nin0)
        replace F_r_633_high := F_r_633_high.keep K656 (ninS (Ne.symm ne_t_601_r_633) nin0)
        replace E_r_641 := E_r_641.keep K656
        replace F_r_641_low := F_r_641_low.keep K656 (ninS (Ne.symm ne_t_601_r_641) nin0)
        replace F_r_641_high := F_r_641_high.keep K656 (ninS (Ne.symm ne_t_601_r_641) nin0)
        replace K := K.trans K656 (allS (P := fun x => x ∈ ([] : List Addr) ∨ h0.size ≤ x) (Or.inr nw_t_601) all0)
        have A_t_601 := nw_A_t_601; clear nw_A_t_601
        show own_Go Z EL n0 p e below s _ _ _ (T650.setTop (mkF m 87 #[.val (.long a), .second, .val (.long b), .second, .val (.long cc), .second, .val (.long ee), .second, .val (.int sel), .val (.int (1 : Int32)), .val (.int (0 : Int32)), .val (.int (1 : Int32)), .val (.ref a593), .val (.ref a608), .val (.ref r_641), .unset] []))
        refine own_aload (pc' := 89) w651 own_d13_87 rfl rfl rfl ?_
        refine own_iload (pc' := 91) w651 own_d13_89 rfl rfl ?_
        refine own_lload (pc' := 93) w651 own_d13_91 rfl rfl ?_
        refine own_callV (pc' := 96) w651 (hw _ (List.mem_of_getElem? (i := 49) rfl)) (hw _ (List.mem_of_getElem? (i := 50) rfl)) (fun s' hZ' => notFace_of_selects (args := #[]) (mvT hZ' (hw _ (List.mem_of_getElem? (i := 52) rfl)))) (hw _ (List.mem_of_getElem? (i := 52) rfl)) (hw _ (List.mem_of_getElem? (i := 51) rfl)) (hw _ (List.mem_of_getElem? (i := 2) rfl)) (hw _ (List.mem_of_getElem? (i := 53) rfl)) (by decide) E_a608 (own_ct_setJN0 l Z a0 hw EL hE n0 [] h652 (own_old w651) a608 cc t_616 kt_617 0 0 F_a608_narrow F_a608_bits A_t_616 ne_a608_t_616) (allS (P := fun x => x ∈ _) (by simp) all0) (argsL := [(.int (0 : Int32)), (.long cc)]) (rest := []) rfl rfl own_pd8 rfl own_d13_93 rfl (by decide) (W := 0) rfl (by decide) (by decide) (by decide) fun T657 h659 v660 ms661 w658 q662 => ?_
        obtain ⟨K663, rfl, rfl, nw_A_t_616⟩ := q662
        replace E_a593 := E_a593.keep K663
        replace F_a593_narrow := F_a593_narrow.keep K663 (ninS ne_a593_t_616 nin0)
        replace F_a593_bits := F_a593_bits.keep K663 (ninS ne_a593_t_616 nin0)
        replace E_a608 := E_a608.keep K663
        replace F_a608_narrow := F_a608_narrow.keep K663 (ninS ne_a608_t_616 nin0)
        replace F_a608_bits := F_a608_bits.keep K663 (ninS ne_a608_t_616 nin0)
        replace E_r_625 := E_r_625.keep K663
        replace F_r_625_low := F_r_625_low.keep K663 (ninS (Ne.symm ne_t_616_r_625) nin0)
        replace F_r_625_high := F_r_625_high.keep K663 (ninS (Ne.symm ne_t_616_r_625) nin0)
        replace E_r_633 := E_r_633.keep K663
        replace F_r_633_low := F_r_633_low.keep K663 (ninS (Ne.symm ne_t_616_r_633) nin0)
        replace F_r_633_high := F_r_633_high.keep K663 (ninS (Ne.symm ne_t_616_r_633) nin0)
        replace E_r_641 := E_r_641.keep K663
        replace F_r_641_low := F_r_641_low.keep K663 (ninS (Ne.symm ne_t_616_r_641) nin0)
        replace F_r_641_high := F_r_641_high.keep K663 (ninS (Ne.symm ne_t_616_r_641) nin0)
        replace A_t_601 := A_t_601.keep K663 (ninS ne_t_601_t_616 nin0)
        replace K := K.trans K663 (allS (P := fun x => x ∈ ([] : List Addr) ∨ h0.size ≤ x) (Or.inr nw_t_616) all0)
        have A_t_616 := nw_A_t_616; clear nw_A_t_616
        show own_Go Z EL n0 p e below s _ _ _ (T657.setTop (mkF m 96 #[.val (.long a), .second, .val (.long b), .second, .val (.long cc), .second, .val (.long ee), .second, .val (.int sel), .val (.int (1 : Int32)), .val (.int (0 : Int32)), .val (.int (1 : Int32)), .val (.ref a593), .val (.ref a608), .val (.ref r_641), .unset] []))
        refine own_aload (pc' := 98) w658 own_d13_96 rfl rfl rfl ?_
        refine own_iload (pc' := 100) w658 own_d13_98 rfl rfl ?_
        refine own_aload (pc' := 102) w658 own_d13_100 rfl rfl rfl ?_
        refine own_iload (pc' := 104) w658 own_d13_102 rfl rfl ?_
        refine own_callV (pc' := 107) w658 (hw _ (List.mem_of_getElem? (i := 54) rfl)) (hw _ (List.mem_of_getElem? (i := 55) rfl)) (fun s' hZ' => notFace_of_selects (args := #[]) (mvT hZ' (hw _ (List.mem_of_getElem? (i := 57) rfl)))) (hw _ (List.mem_of_getElem? (i := 57) rfl)) (hw _ (List.mem_of_getElem? (i := 56) rfl)) (hw _ (List.mem_of_getElem? (i := 2) rfl)) (hw _ (List.mem_of_getElem? (i := 58) rfl)) (by decide) E_a608 (own_ct_setAN01 l Z a0 hw EL hE n0 [] h659 (own_old w658) a608 a593 t_616 kt_617 t_601 kt_602 cc 0 ee (a * b) F_a608_narrow F_a608_bits A_t_616 F_a593_bits A_t_601 ne_a608_t_616 ne_a593_t_616 ne_t_601_t_616) (allS (P := fun x => x ∈ _) (by simp) all0) (argsL := [(.int (0 : Int32)), (.ref a593), (.int (1 : Int32))]) (rest := []) rfl rfl own_pd9 rfl own_d13_104 rfl (by decide) (W := 0) rfl (by decide) (by decide) (by decide) fun T664 h666 v667 ms668 w665 q669 => ?_
        obtain ⟨K670, rfl, rfl, nw_A_t_616⟩ := q669
        replace E_a593 := E_a593.keep K670
        replace F_a593_narrow := F_a593_narrow.keep K670 (ninS ne_a593_t_616 nin0)
        replace F_a593_bits := F_a593_bits.keep K670 (ninS ne_a593_t_616 nin0)
        replace E_a608 := E_a608.keep K670
        replace F_a608_narrow := F_a608_narrow.keep K670 (ninS ne_a608_t_616 nin0)
        replace F_a608_bits := F_a608_bits.keep K670 (ninS ne_a608_t_616 nin0)
        replace E_r_625 := E_r_625.keep K670
        replace F_r_625_low := F_r_625_low.keep K670 (ninS (Ne.symm ne_t_616_r_625) nin0)
        replace F_r_625_high := F_r_625_high.keep K670 (ninS (Ne.symm ne_t_616_r_625) nin0)
        replace E_r_633 := E_r_633.keep K670
        replace F_r_633_low := F_r_633_low.keep K670 (ninS (Ne.symm ne_t_616_r_633) nin0)
        replace F_r_633_high := F_r_633_high.keep K670 (ninS (Ne.symm ne_t_616_r_633) nin0)
        replace E_r_641 := E_r_641.keep K670
        replace F_r_641_low := F_r_641_low.keep K670 (ninS (Ne.symm ne_t_616_r_641) nin0)
        replace F_r_641_high := F_r_641_high.keep K670 (ninS (Ne.symm ne_t_616_r_641) nin0)
        replace A_t_601 := A_t_601.keep K670 (ninS ne_t_601_t_616 nin0)
        replace K := K.trans K670 (allS (P := fun x => x ∈ ([] : List Addr) ∨ h0.size ≤ x) (Or.inr nw_t_616) all0)
        have A_t_616 := nw_A_t_616; clear nw_A_t_616
        show own_Go Z EL n0 p e below s _ _ _ (T664.setTop (mkF m 107 #[.val (.long a), .second, .val (.long b), .second, .val (.long cc), .second, .val (.long ee), .second, .val (.int sel), .val (.int (1 : Int32)), .val (.int (0 : Int32)), .val (.int (1 : Int32)), .val (.ref a593), .val (.ref a608), .val (.ref r_641), .unset] []))
        refine own_iload (pc' := 109) w665 own_d13_107 rfl rfl ?_
        refine own_if (pc' := 112) w665 own_d13_109 rfl (by decide) (pcY := 121) rfl (fun (hb109 : (1 : Int32) = (0 : Int32)) => absurd hb109 (by decide)) (fun (hb109 : ¬ (1 : Int32) = (0 : Int32)) => ?_)
        refine own_lloadN (pc' := 113) w665 own_d13_112 rfl rfl ?_
        refine own_lloadN (pc' := 114) w665 own_d13_113 rfl rfl ?_
        refine own_lmul (pc' := 115) w665 own_d13_114 (z := (a * b)) rfl rfl ?_
        refine own_callS (pc' := 118) w665 (hw _ (List.mem_of_getElem? (i := 16) rfl)) (hw _ (List.mem_of_getElem? (i := 17) rfl)) (hw _ (List.mem_of_getElem? (i := 18) rfl)) (hw _ (List.mem_of_getElem? (i := 19) rfl)) (by decide) (own_ct_cOf l Z a0 hw EL hE n0 [] h666 (own_old w665) (a * b) ) all0 (argsL := [(.long (a * b))]) (rest := []) rfl rfl own_pd4 rfl own_d13_115 rfl (by decide) (W := 0) rfl (by decide) (by decide) (by decide) fun T671 h673 v674 ms675 w672 q676 => ?_
        obtain ⟨K678, r_677, rfl, rfl, nw_E_r_677, nw_F_r_677_low, nw_F_r_677_high, p115_cOf_0⟩ := q676
        have ne_a593_r_677 : a593 ≠ r_677 := Nat.ne_of_lt (Nat.lt_of_lt_of_le E_a593.lt p115_cOf_0)
        have ne_a608_r_677 : a608 ≠ r_677 := Nat.ne_of_lt (Nat.lt_of_lt_of_le E_a608.lt p115_cOf_0)
        have ne_r_625_r_677 : r_625 ≠ r_677 := Nat.ne_of_lt (Nat.lt_of_lt_of_le E_r_625.lt p115_cOf_0)
        have ne_r_633_r_677 : r_633 ≠ r_677 := Nat.ne_of_lt (Nat.lt_of_lt_of_le E_r_633.lt p115_cOf_0)
        have ne_r_641_r_677 : r_641 ≠ r_677 := Nat.ne_of_lt (Nat.lt_of_lt_of_le E_r_641.lt p115_cOf_0)
        have ne_t_601_r_677 : t_601 ≠ r_677 := Nat.ne_of_lt (Nat.lt_of_lt_of_le A_t_601.lt p115_cOf_0)
        have ne_t_616_r_677 : t_616 ≠ r_677 := Nat.ne_of_lt (Nat.lt_of_lt_of_le A_t_616.lt p115_cOf_0)
        have nw_r_677 : h0.size ≤ r_677 := Nat.le_trans K.1 p115_cOf_0
        replace E_a593 := E_a593.keep K678
        replace F_a593_narrow := F_a593_narrow.keep K678 nin0
        replace F_a593_bits := F_a593_bits.keep K678 nin0
        replace E_a608 := E_a608.keep K678
        replace F_a608_narrow := F_a608_narrow.keep K678 nin0
        replace F_a608_bits := F_a608_bits.keep K678 nin0
        replace E_r_625 := E_r_625.keep K678
        replace F_r_625_low := F_r_625_low.keep K678 nin0
        replace F_r_625_high := F_r_625_high.keep K678 nin0
        replace E_r_633 := E_r_633.keep K678
        replace F_r_633_low := F_r_633_low.keep K678 nin0
        replace F_r_633_high := F_r_633_high.keep K678 nin0
        replace E_r_641 := E_r_641.keep K678
        replace F_r_641_low := F_r_641_low.keep K678 nin0
        replace F_r_641_high := F_r_641_high.keep K678 nin0
        replace A_t_601 := A_t_601.keep K678 nin0
        replace A_t_616 := A_t_616.keep K678 nin0
        replace K := K.trans K678 all0
        have E_r_677 := nw_E_r_677; clear nw_E_r_677
        have F_r_677_low := nw_F_r_677_low; clear nw_F_r_677_low
        have F_r_677_high := nw_F_r_677_high; clear nw_F_r_677_high
        show own_Go Z EL n0 p e below s _ _ _ (T671.setTop (mkF m 118 #[.val (.long a), .second, .val (.long b), .second, .val (.long cc), .second, .val (.long ee), .second, .val (.int sel), .val (.int (1 : Int32)), .val (.int (0 : Int32)), .val (.int (1 : Int32)), .val (.ref a593), .val (.ref a608), .val (.ref r_641), .unset] [(.ref r_677)]))
        refine own_goto w672 own_d13_118 (by decide) (pc' := 123) rfl ?_
        refine own_astore (pc' := 125) w672 own_d13_123 rfl (Ls' := #[.val (.long a), .second, .val (.long b), .second, .val (.long cc), .second, .val (.long ee), .second, .val (.int sel), .val (.int (1 : Int32)), .val (.int (0 : Int32)), .val (.int (1 : Int32)), .val (.ref a593), .val (.ref a608), .val (.ref r_641), .val (.ref r_677)]) rfl rfl ?_
        refine own_aload (pc' := 127) w672 own_d13_125 rfl rfl rfl ?_
        refine own_iload (pc' := 129) w672 own_d13_127 rfl rfl ?_
        refine own_callV (pc' := 132) w672 (hw _ (List.mem_of_getElem? (i := 59) rfl)) (hw _ (List.mem_of_getElem? (i := 60) rfl)) (fun s' hZ' => notFace_of_selects (args := #[]) (mvT hZ' (hw _ (List.mem_of_getElem? (i := 62) rfl)))) (hw _ (List.mem_of_getElem? (i := 62) rfl)) (hw _ (List.mem_of_getElem? (i := 61) rfl)) (hw _ (List.mem_of_getElem? (i := 2) rfl)) (hw _ (List.mem_of_getElem? (i := 63) rfl)) (by decide) E_a608 (own_ct_getN0 l Z a0 hw EL hE n0 [] h673 (own_old w672) a608 t_616 kt_617 (a * b) 0 F_a608_narrow F_a608_bits A_t_616) all0 (argsL := [(.int (0 : Int32))]) (rest := []) rfl rfl own_pd10 rfl own_d13_129 rfl (by decide) (W := 0) rfl (by decide) (by decide) (by decide) fun T679 h681 v682 ms683 w680 q684 => ?_
        obtain ⟨K686, r_685, rfl, rfl, nw_E_r_685, nw_F_r_685_low, nw_F_r_685_high, p129_getN0_0⟩ := q684
        have ne_a593_r_685 : a593 ≠ r_685 := Nat.ne_of_lt (Nat.lt_of_lt_of_le E_a593.lt p129_getN0_0)
        have ne_a608_r_685 : a608 ≠ r_685 := Nat.ne_of_lt (Nat.lt_of_lt_of_le E_a608.lt p129_getN0_0)
        have ne_r_625_r_685 : r_625 ≠ r_685 := Nat.ne_of_lt (Nat.lt_of_lt_of_le E_r_625.lt p129_getN0_0)
        have ne_r_633_r_685 : r_633 ≠ r_685 := Nat.ne_of_lt (Nat.lt_of_lt_of_le E_r_633.lt p129_getN0_0)
        have ne_r_641_r_685 : r_641 ≠ r_685 := Nat.ne_of_lt (Nat.lt_of_lt_of_le E_r_641.lt p129_getN0_0)
        have ne_r_677_r_685 : r_677 ≠ r_685 := Nat.ne_of_lt (Nat.lt_of_lt_of_le E_r_677.lt p129_getN0_0)
        have ne_t_601_r_685 : t_601 ≠ r_685 := Nat.ne_of_lt (Nat.lt_of_lt_of_le A_t_601.lt p129_getN0_0)
        have ne_t_616_r_685 : t_616 ≠ r_685 := Nat.ne_of_lt (Nat.lt_of_lt_of_le A_t_616.lt p129_getN0_0)
        have nw_r_685 : h0.size ≤ r_685 := Nat.le_trans K.1 p129_getN0_0
        replace E_a593 := E_a593.keep K686
        replace F_a593_narrow := F_a593_narrow.keep K686 nin0
        replace F_a593_bits := F_a593_bits.keep K686 nin0
        replace E_a608 := E_a608.keep K686
        replace F_a608_narrow := F_a608_narrow.keep K686 nin0
        replace F_a608_bits := F_a608_bits.keep K686 nin0
        replace E_r_625 := E_r_625.keep K686
        replace F_r_625_low := F_r_625_low.keep K686 nin0
        replace F_r_625_high := F_r_625_high.keep K686 nin0
        replace E_r_633 := E_r_633.keep K686
        replace F_r_633_low := F_r_633_low.keep K686 nin0
        replace F_r_633_high := F_r_633_high.keep K686 nin0
        replace E_r_641 := E_r_641.keep K686
        replace F_r_641_low := F_r_641_low.keep K686 nin0
        replace F_r_641_high := F_r_641_high.keep K686 nin0
        replace A_t_601 := A_t_601.keep K686 nin0
        replace A_t_616 := A_t_616.keep K686 nin0
        replace E_r_677 := E_r_677.keep K686
        replace F_r_677_low := F_r_677_low.keep K686 nin0
        replace F_r_677_high := F_r_677_high.keep K686 nin0
        replace K := K.trans K686 all0
        have E_r_685 := nw_E_r_685; clear nw_E_r_685
        have F_r_685_low := nw_F_r_685_low; clear nw_F_r_685_low
        have F_r_685_high := nw_F_r_685_high; clear nw_F_r_685_high
        show own_Go Z EL n0 p e below s _ _ _ (T679.setTop (mkF m 132 #[.val (.long a), .second, .val (.long b), .second, .val (.long cc), .second, .val (.long ee), .second, .val (.int sel), .val (.int (1 : Int32)), .val (.int (0 : Int32)), .val (.int (1 : Int32)), .val (.ref a593), .val (.ref a608), .val (.ref r_641), .val (.ref r_677)] [(.ref r_685)]))
        refine own_aload (pc' := 134) w680 own_d13_132 rfl rfl rfl ?_
        refine own_callV (pc' := 137) w680 (hw _ (List.mem_of_getElem? (i := 65) rfl)) (hw _ (List.mem_of_getElem? (i := 66) rfl)) (fun s' hZ' => notFace_of_selects (args := #[]) (mvT hZ' (hw _ (List.mem_of_getElem? (i := 68) rfl)))) (hw _ (List.mem_of_getElem? (i := 68) rfl)) (hw _ (List.mem_of_getElem? (i := 67) rfl)) (hw _ (List.mem_of_getElem? (i := 18) rfl)) (hw _ (List.mem_of_getElem? (i := 69) rfl)) (by decide) E_r_685 (own_ct_ceq l Z a0 hw EL hE n0 [] h681 (own_old w680) r_685 r_677 (own_sgn (a * b)) (a * b) F_r_685_low F_r_685_high E_r_677 F_r_677_low F_r_677_high) all0 (argsL := [(.ref r_677)]) (rest := []) rfl rfl own_pd11 rfl own_d13_134 rfl (by decide) (W := 0) rfl (by decide) (by decide) (by decide) fun T687 h689 v690 ms691 w688 q692 => ?_
        obtain ⟨rfl, rfl, rfl⟩ := q692
        show own_Go Z EL n0 p e below s _ _ _ (T687.setTop (mkF m 137 #[.val (.long a), .second, .val (.long b), .second, .val (.long cc), .second, .val (.long ee), .second, .val (.int sel), .val (.int (1 : Int32)), .val (.int (0 : Int32)), .val (.int (1 : Int32)), .val (.ref a593), .val (.ref a608), .val (.ref r_641), .val (.ref r_677)] [(.int (1 : Int32))]))
        refine own_if (pc' := 140) w688 own_d13_137 rfl (by decide) (pcY := 171) rfl (fun (hb137 : (1 : Int32) = (0 : Int32)) => absurd hb137 (by decide)) (fun (hb137 : ¬ (1 : Int32) = (0 : Int32)) => ?_)
        refine own_aload (pc' := 142) w688 own_d13_140 rfl rfl rfl ?_
        refine own_iconst (pc' := 143) w688 own_d13_142 (x := (1 : Int32)) rfl rfl ?_
        refine own_iload (pc' := 145) w688 own_d13_143 rfl rfl ?_
        refine own_isub (pc' := 146) w688 own_d13_145 (z := (1 : Int32)) (by decide) rfl ?_
        refine own_callV (pc' := 149) w688 (hw _ (List.mem_of_getElem? (i := 71) rfl)) (hw _ (List.mem_of_getElem? (i := 72) rfl)) (fun s' hZ' => notFace_of_selects (args := #[]) (mvT hZ' (hw _ (List.mem_of_getElem? (i := 74) rfl)))) (hw _ (List.mem_of_getElem? (i := 74) rfl)) (hw _ (List.mem_of_getElem? (i := 73) rfl)) (hw _ (List.mem_of_getElem? (i := 2) rfl)) (hw _ (List.mem_of_getElem? (i := 75) rfl)) (by decide) E_a608 (own_ct_sigN1 l Z a0 hw EL hE n0 [] h681 (own_old w688) a608 t_616 kt_617 (a * b) F_a608_narrow F_a608_bits A_t_616) all0 (argsL := [(.int (1 : Int32))]) (rest := []) rfl rfl own_pd12 rfl own_d13_146 rfl (by decide) (W := 0) rfl (by decide) (by decide) (by decide) fun T693 h695 v696 ms697 w694 q698 => ?_
        obtain ⟨rfl, rfl, rfl⟩ := q698
        show own_Go Z EL n0 p e below s _ _ _ (T693.setTop (mkF m 149 #[.val (.long a), .second, .val (.long b), .second, .val (.long cc), .second, .val (.long ee), .second, .val (.int sel), .val (.int (1 : Int32)), .val (.int (0 : Int32)), .val (.int (1 : Int32)), .val (.ref a593), .val (.ref a608), .val (.ref r_641), .val (.ref r_677)] [(.int (0 : Int32))]))
        refine own_if (pc' := 152) w694 own_d13_149 rfl (by decide) (pcY := 171) rfl (fun (hb149 : ¬ (0 : Int32) = (0 : Int32)) => absurd hb149 (by decide)) (fun (hb149 : (0 : Int32) = (0 : Int32)) => ?_)
        refine own_aload (pc' := 154) w694 own_d13_152 rfl rfl rfl ?_
        refine own_iload (pc' := 156) w694 own_d13_154 rfl rfl ?_
        refine own_callV (pc' := 159) w694 (hw _ (List.mem_of_getElem? (i := 59) rfl)) (hw _ (List.mem_of_getElem? (i := 60) rfl)) (fun s' hZ' => notFace_of_selects (args := #[]) (mvT hZ' (hw _ (List.mem_of_getElem? (i := 62) rfl)))) (hw _ (List.mem_of_getElem? (i := 62) rfl)) (hw _ (List.mem_of_getElem? (i := 61) rfl)) (hw _ (List.mem_of_getElem? (i := 2) rfl)) (hw _ (List.mem_of_getElem? (i := 63) rfl)) (by decide) E_a593 (own_ct_getN1 l Z a0 hw EL hE n0 [] h681 (own_old w694) a593 t_601 kt_602 ee (a * b) F_a593_narrow F_a593_bits A_t_601) all0 (argsL := [(.int (1 : Int32))]) (rest := []) rfl rfl own_pd10 rfl own_d13_156 rfl (by decide) (W := 0) rfl (by decide) (by decide) (by decide) fun T699 h701 v702 ms703 w700 q704 => ?_
        obtain ⟨K706, r_705, rfl, rfl, nw_E_r_705, nw_F_r_705_low, nw_F_r_705_high, p156_getN1_0⟩ := q704
        have ne_a593_r_705 : a593 ≠ r_705 := Nat.ne_of_lt (Nat.lt_of_lt_of_le E_a593.lt p156_getN1_0)
        have ne_a608_r_705 : a608 ≠ r_705 := Nat.ne_of_lt (Nat.lt_of_lt_of_le E_a608.lt p156_getN1_0)
        have ne_r_625_r_705 : r_625 ≠ r_705 := Nat.ne_of_lt (Nat.lt_of_lt_of_le E_r_625.lt p156_getN1_0)
        have ne_r_633_r_705 : r_633 ≠ r_705 := Nat.ne_of_lt (Nat.lt_of_lt_of_le E_r_633.lt p156_getN1_0)
        have ne_r_641_r_705 : r_641 ≠ r_705 := Nat.ne_of_lt (Nat.lt_of_lt_of_le E_r_641.lt p156_getN1_0)
        have ne_r_677_r_705 : r_677 ≠ r_705 := Nat.ne_of_lt (Nat.lt_of_lt_of_le E_r_677.lt p156_getN1_0)
        have ne_r_685_r_705 : r_685 ≠ r_705 := Nat.ne_of_lt (Nat.lt_of_lt_of_le E_r_685.lt p156_getN1_0)
        have ne_t_601_r_705 : t_601 ≠ r_705 := Nat.ne_of_lt (Nat.lt_of_lt_of_le A_t_601.lt p156_getN1_0)
        have ne_t_616_r_705 : t_616 ≠ r_705 := Nat.ne_of_lt (Nat.lt_of_lt_of_le A_t_616.lt p156_getN1_0)
        have nw_r_705 : h0.size ≤ r_705 := Nat.le_trans K.1 p156_getN1_0
        replace E_a593 := E_a593.keep K706
        replace F_a593_narrow := F_a593_narrow.keep K706 nin0
        replace F_a593_bits := F_a593_bits.keep K706 nin0
        replace E_a608 := E_a608.keep K706
        replace F_a608_narrow := F_a608_narrow.keep K706 nin0
        replace F_a608_bits := F_a608_bits.keep K706 nin0
        replace E_r_625 := E_r_625.keep K706
        replace F_r_625_low := F_r_625_low.keep K706 nin0
        replace F_r_625_high := F_r_625_high.keep K706 nin0
        replace E_r_633 := E_r_633.keep K706
        replace F_r_633_low := F_r_633_low.keep K706 nin0
        replace F_r_633_high := F_r_633_high.keep K706 nin0
        replace E_r_641 := E_r_641.keep K706
        replace F_r_641_low := F_r_641_low.keep K706 nin0
        replace F_r_641_high := F_r_641_high.keep K706 nin0
        replace A_t_601 := A_t_601.keep K706 nin0
        replace A_t_616 := A_t_616.keep K706 nin0
        replace E_r_677 := E_r_677.keep K706
        replace F_r_677_low := F_r_677_low.keep K706 nin0
        replace F_r_677_high := F_r_677_high.keep K706 nin0
        replace E_r_685 := E_r_685.keep K706
        replace F_r_685_low := F_r_685_low.keep K706 nin0
        replace F_r_685_high := F_r_685_high.keep K706 nin0
        replace K := K.trans K706 all0
        have E_r_705 := nw_E_r_705; clear nw_E_r_705
        have F_r_705_low := nw_F_r_705_low; clear nw_F_r_705_low
        have F_r_705_high := nw_F_r_705_high; clear nw_F_r_705_high
        show own_Go Z EL n0 p e below s _ _ _ (T699.setTop (mkF m 159 #[.val (.long a), .second, .val (.long b), .second, .val (.long cc), .second, .val (.long ee), .second, .val (.int sel), .val (.int (1 : Int32)), .val (.int (0 : Int32)), .val (.int (1 : Int32)), .val (.ref a593), .val (.ref a608), .val (.ref r_641), .val (.ref r_677)] [(.ref r_705)]))
        refine own_aload (pc' := 161) w700 own_d13_159 rfl rfl rfl ?_
        refine own_callV (pc' := 164) w700 (hw _ (List.mem_of_getElem? (i := 65) rfl)) (hw _ (List.mem_of_getElem? (i := 66) rfl)) (fun s' hZ' => notFace_of_selects (args := #[]) (mvT hZ' (hw _ (List.mem_of_getElem? (i := 68) rfl)))) (hw _ (List.mem_of_getElem? (i := 68) rfl)) (hw _ (List.mem_of_getElem? (i := 67) rfl)) (hw _ (List.mem_of_getElem? (i := 18) rfl)) (hw _ (List.mem_of_getElem? (i := 69) rfl)) (by decide) E_r_705 (own_ct_ceq l Z a0 hw EL hE n0 [] h701 (own_old w700) r_705 r_677 (own_sgn (a * b)) (a * b) F_r_705_low F_r_705_high E_r_677 F_r_677_low F_r_677_high) all0 (argsL := [(.ref r_677)]) (rest := []) rfl rfl own_pd11 rfl own_d13_161 rfl (by decide) (W := 0) rfl (by decide) (by decide) (by decide) fun T707 h709 v710 ms711 w708 q712 => ?_
        obtain ⟨rfl, rfl, rfl⟩ := q712
        show own_Go Z EL n0 p e below s _ _ _ (T707.setTop (mkF m 164 #[.val (.long a), .second, .val (.long b), .second, .val (.long cc), .second, .val (.long ee), .second, .val (.int sel), .val (.int (1 : Int32)), .val (.int (0 : Int32)), .val (.int (1 : Int32)), .val (.ref a593), .val (.ref a608), .val (.ref r_641), .val (.ref r_677)] [(.int (1 : Int32))]))
        refine own_if (pc' := 167) w708 own_d13_164 rfl (by decide) (pcY := 171) rfl (fun (hb164 : (1 : Int32) = (0 : Int32)) => absurd hb164 (by decide)) (fun (hb164 : ¬ (1 : Int32) = (0 : Int32)) => ?_)
        refine own_iconst (pc' := 168) w708 own_d13_167 (x := (1 : Int32)) rfl rfl ?_
        refine own_goto w708 own_d13_168 (by decide) (pc' := 172) rfl ?_
        exact own_retV w708 (t := .boolean) rfl rfl (Or.inl ⟨rfl, by simp, _, rfl⟩) own_d13_172 (by decide) (by decide) (ms' := []) all0 ⟨K, rfl, rfl⟩
    · -- f1
      refine own_iand (pc' := 20) w0 own_d13_19 (z := (1 : Int32)) hix rfl ?_
      refine own_istore (pc' := 22) w0 own_d13_20 (Ls' := #[.val (.long a), .second, .val (.long b), .second, .val (.long cc), .second, .val (.long ee), .second, .val (.int sel), .val (.int (1 : Int32)), .val (.int (1 : Int32)), .unset, .unset, .unset, .unset, .unset]) rfl rfl ?_
      refine own_iload (pc' := 24) w0 own_d13_22 rfl rfl ?_
      refine own_iconst (pc' := 25) w0 own_d13_24 (x := (2 : Int32)) rfl rfl ?_
      refine own_iushr (pc' := 26) w0 own_d13_25 (z := (XT.ushr sel (2 : Int32))) rfl rfl ?_
      refine own_iconst (pc' := 27) w0 own_d13_26 (x := (1 : Int32)) rfl rfl ?_
      rcases and_one (XT.ushr sel (2 : Int32)) with hat | hat
      · -- f10
        refine own_iand (pc' := 28) w0 own_d13_27 (z := (0 : Int32)) hat rfl ?_
        refine own_istore (pc' := 30) w0 own_d13_28 (Ls' := #[.val (.long a), .second, .val (.long b), .second, .val (.long cc), .second, .val (.long ee), .second, .val (.int sel), .val (.int (1 : Int32)), .val (.int (1 : Int32)), .val (.int (0 : Int32)), .unset, .unset, .unset, .unset]) rfl rfl ?_
        refine own_newO (pc' := 33) w0 (hw _ (List.mem_of_getElem? (i := 0) rfl)) (hw _ (List.mem_of_getElem? (i := 1) rfl)) (hw _ (List.mem_of_getElem? (i := 2) rfl)) own_d13_30 rfl (by decide) (by decide) fun T713 h715 a717 g_a717 w714 E716 ⟨E_a717, D718⟩ => ?_
        have nw_a717 : h0.size ≤ a717 := Nat.le_trans K.1 (Nat.le_of_eq g_a717)
        replace K := K.ext E716
        have F_a717_product : Fld Z h715 a717 "com/example/throng/throng/engine/Count$Array" "product" "[J" .null := D718 (Or.inr (hw _ (List.mem_of_getElem? (i := 11) rfl))) (ty := (.array .long)) (by decide)
        have F_a717_narrow : Fld Z h715 a717 "com/example/throng/throng/engine/Count$Array" "narrow" "Z" (.int 0) := D718 (Or.inr (hw _ (List.mem_of_getElem? (i := 13) rfl))) (ty := .boolean) (by decide)
        have F_a717_bits : Fld Z h715 a717 "com/example/throng/throng/engine/Count$Array" "bits" "[J" .null := D718 (Or.inr (hw _ (List.mem_of_getElem? (i := 15) rfl))) (ty := (.array .long)) (by decide)
        refine own_dup (pc' := 34) w714 own_d13_33 rfl rfl ?_
        refine own_iconst (pc' := 35) w714 own_d13_34 (x := (2 : Int32)) rfl rfl ?_
        refine own_iload (pc' := 37) w714 own_d13_35 rfl rfl ?_
        refine own_callI (pc' := 40) w714 rfl (hw _ (List.mem_of_getElem? (i := 3) rfl)) (hw _ (List.mem_of_getElem? (i := 4) rfl)) (hw _ (List.mem_of_getElem? (i := 2) rfl)) (hw _ (List.mem_of_getElem? (i := 5) rfl)) (by decide) (own_ct_aInitN l Z a0 hw EL hE n0 [] h715 (own_old w714) a717 .null (.int 0) .null E_a717 F_a717_product F_a717_narrow F_a717_bits) (allS (P := fun x => x ∈ _) (by simp) all0) (argsL := [(.int (2 : Int32)), (.int (1 : Int32))]) (rest := [(.ref a717)]) rfl rfl own_pd5 rfl own_d13_37 rfl (by decide) (W := 1) rfl (by decide) (by decide) (by decide) fun T719 h721 v722 ms723 w720 q724 => ?_
        obtain ⟨K727, t_725, kt_726, rfl, rfl, nw_E_a717, nw_F_a717_narrow, nw_F_a717_bits, nw_A_t_725, p37_aInitN_0⟩ := q724
        have ne_a717_t_725 : a717 ≠ t_725 := Nat.ne_of_lt (Nat.lt_of_lt_of_le E_a717.lt p37_aInitN_0)
        have nw_t_725 : h0.size ≤ t_725 := Nat.le_trans K.1 p37_aInitN_0
        replace K := K.trans K727 (allS (P := fun x => x ∈ ([] : List Addr) ∨ h0.size ≤ x) (Or.inr nw_a717) all0)
        have E_a717 := nw_E_a717; clear nw_E_a717
        have F_a717_narrow := nw_F_a717_narrow; clear nw_F_a717_narrow
        have F_a717_bits := nw_F_a717_bits; clear nw_F_a717_bits
        have A_t_725 := nw_A_t_725; clear nw_A_t_725
        show own_Go Z EL n0 p e below s _ _ _ (T719.setTop (mkF m 40 #[.val (.long a), .second, .val (.long b), .second, .val (.long cc), .second, .val (.long ee), .second, .val (.int sel), .val (.int (1 : Int32)), .val (.int (1 : Int32)), .val (.int (0 : Int32)), .unset, .unset, .unset, .unset] [(.ref a717)]))
        refine own_astore (pc' := 42) w720 own_d13_40 rfl (Ls' := #[.val (.long a), .second, .val (.long b), .second, .val (.long cc), .second, .val (.long ee), .second, .val (.int sel), .val (.int (1 : Int32)), .val (.int (1 : Int32)), .val (.int (0 : Int32)), .val (.ref a717), .unset, .unset, .unset]) rfl rfl ?_
        refine own_newO (pc' := 45) w720 (hw _ (List.mem_of_getElem? (i := 0) rfl)) (hw _ (List.mem_of_getElem? (i := 1) rfl)) (hw _ (List.mem_of_getElem? (i := 2) rfl)) own_d13_42 rfl (by decide) (by decide) fun T728 h730 a732 g_a732 w729 E731 ⟨E_a732, D733⟩ => ?_
        have ne_a717_a732 : a717 ≠ a732 := Nat.ne_of_lt (Nat.lt_of_lt_of_le E_a717.lt (Nat.le_of_eq g_a732))
        have ne_t_725_a732 : t_725 ≠ a732 := Nat.ne_of_lt (Nat.lt_of_lt_of_le A_t_725.lt (Nat.le_of_eq g_a732))
        have nw_a732 : h0.size ≤ a732 := Nat.le_trans K.1 (Nat.le_of_eq g_a732)
        replace E_a717 := E_a717.ext E731
        replace F_a717_narrow := F_a717_narrow.ext E731
        replace F_a717_bits := F_a717_bits.ext E731
        replace A_t_725 := A_t_725.ext E731
        replace K := K.ext E731
        have F_a732_product : Fld Z h730 a732 "com/example/throng/throng/engine/Count$Array" "product" "[J" .null := D733 (Or.inr (hw _ (List.mem_of_getElem? (i := 11) rfl))) (ty := (.array .long)) (by decide)
        have F_a732_narrow : Fld Z h730 a732 "com/example/throng/throng/engine/Count$Array" "narrow" "Z" (.int 0) := D733 (Or.inr (hw _ (List.mem_of_getElem? (i := 13) rfl))) (ty := .boolean) (by decide)
        have F_a732_bits : Fld Z h730 a732 "com/example/throng/throng/engine/Count$Array" "bits" "[J" .null := D733 (Or.inr (hw _ (List.mem_of_getElem? (i := 15) rfl))) (ty := (.array .long)) (by decide)
        refine own_dup (pc' := 46) w729 own_d13_45 rfl rfl ?_
        refine own_iconst (pc' := 47) w729 own_d13_46 (x := (2 : Int32)) rfl rfl ?_
        refine own_iload (pc' := 49) w729 own_d13_47 rfl rfl ?_
        refine own_callI (pc' := 52) w729 rfl (hw _ (List.mem_of_getElem? (i := 3) rfl)) (hw _ (List.mem_of_getElem? (i := 4) rfl)) (hw _ (List.mem_of_getElem? (i := 2) rfl)) (hw _ (List.mem_of_getElem? (i := 5) rfl)) (by decide) (own_ct_aInitN l Z a0 hw EL hE n0 [] h730 (own_old w729) a732 .null (.int 0) .null E_a732 F_a732_product F_a732_narrow F_a732_bits) (allS (P := fun x => x ∈ _) (by simp) all0) (argsL := [(.int (2 : Int32)), (.int (1 : Int32))]) (rest := [(.ref a732)]) rfl rfl own_pd5 rfl own_d13_49 rfl (by decide) (W := 1) rfl (by decide) (by decide) (by decide) fun T734 h736 v737 ms738 w735 q739 => ?_
        obtain ⟨K742, t_740, kt_741, rfl, rfl, nw_E_a732, nw_F_a732_narrow, nw_F_a732_bits, nw_A_t_740, p49_aInitN_0⟩ := q739
        have ne_a717_t_740 : a717 ≠ t_740 := Nat.ne_of_lt (Nat.lt_of_lt_of_le E_a717.lt p49_aInitN_0)
        have ne_a732_t_740 : a732 ≠ t_740 := Nat.ne_of_lt (Nat.lt_of_lt_of_le E_a732.lt p49_aInitN_0)
        have ne_t_725_t_740 : t_725 ≠ t_740 := Nat.ne_of_lt (Nat.lt_of_lt_of_le A_t_725.lt p49_aInitN_0)
        have nw_t_740 : h0.size ≤ t_740 := Nat.le_trans K.1 p49_aInitN_0
        replace E_a717 := E_a717.keep K742
        replace F_a717_narrow := F_a717_narrow.keep K742 (ninS ne_a717_a732 nin0)
        replace F_a717_bits := F_a717_bits.keep K742 (ninS ne_a717_a732 nin0)
        replace A_t_725 := A_t_725.keep K742 (ninS ne_t_725_a732 nin0)
        replace K := K.trans K742 (allS (P := fun x => x ∈ ([] : List Addr) ∨ h0.size ≤ x) (Or.inr nw_a732) all0)
        have E_a732 := nw_E_a732; clear nw_E_a732
        have F_a732_narrow := nw_F_a732_narrow; clear nw_F_a732_narrow
        have F_a732_bits := nw_F_a732_bits; clear nw_F_a732_bits
        have A_t_740 := nw_A_t_740; clear nw_A_t_740
        show own_Go Z EL n0 p e below s _ _ _ (T734.setTop (mkF m 52 #[.val (.long a), .second, .val (.long b), .second, .val (.long cc), .second, .val (.long ee), .second, .val (.int sel), .val (.int (1 : Int32)), .val (.int (1 : Int32)), .val (.int (0 : Int32)), .val (.ref a717), .unset, .unset, .unset] [(.ref a732)]))
        refine own_astore (pc' := 54) w735 own_d13_52 rfl (Ls' := #[.val (.long a), .second, .val (.long b), .second, .val (.long cc), .second, .val (.long ee), .second, .val (.int sel), .val (.int (1 : Int32)), .val (.int (1 : Int32)), .val (.int (0 : Int32)), .val (.ref a717), .val (.ref a732), .unset, .unset]) rfl rfl ?_
        refine own_lloadN (pc' := 55) w735 own_d13_54 rfl rfl ?_
        refine own_callS (pc' := 58) w735 (hw _ (List.mem_of_getElem? (i := 16) rfl)) (hw _ (List.mem_of_getElem? (i := 17) rfl)) (hw _ (List.mem_of_getElem? (i := 18) rfl)) (hw _ (List.mem_of_getElem? (i := 19) rfl)) (by decide) (own_ct_cOf l Z a0 hw EL hE n0 [] h736 (own_old w735) a ) all0 (argsL := [(.long a)]) (rest := []) rfl rfl own_pd4 rfl own_d13_55 rfl (by decide) (W := 0) rfl (by decide) (by decide) (by decide) fun T743 h745 v746 ms747 w744 q748 => ?_
        obtain ⟨K750, r_749, rfl, rfl, nw_E_r_749, nw_F_r_749_low, nw_F_r_749_high, p55_cOf_0⟩ := q748
        have ne_a717_r_749 : a717 ≠ r_749 := Nat.ne_of_lt (Nat.lt_of_lt_of_le E_a717.lt p55_cOf_0)
        have ne_a732_r_749 : a732 ≠ r_749 := Nat.ne_of_lt (Nat.lt_of_lt_of_le E_a732.lt p55_cOf_0)
        have ne_t_725_r_749 : t_725 ≠ r_749 := Nat.ne_of_lt (Nat.lt_of_lt_of_le A_t_725.lt p55_cOf_0)
        have ne_t_740_r_749 : t_740 ≠ r_749 := Nat.ne_of_lt (Nat.lt_of_lt_of_le A_t_740.lt p55_cOf_0)
        have nw_r_749 : h0.size ≤ r_749 := Nat.le_trans K.1 p55_cOf_0
        replace E_a717 := E_a717.keep K750
        replace F_a717_narrow := F_a717_narrow.keep K750 nin0
        replace F_a717_bits := F_a717_bits.keep K750 nin0
        replace A_t_725 := A_t_725.keep K750 nin0
        replace E_a732 := E_a732.keep K750
        replace F_a732_narrow := F_a732_narrow.keep K750 nin0
        replace F_a732_bits := F_a732_bits.keep K750 nin0
        replace A_t_740 := A_t_740.keep K750 nin0
        replace K := K.trans K750 all0
        have E_r_749 := nw_E_r_749; clear nw_E_r_749
        have F_r_749_low := nw_F_r_749_low; clear nw_F_r_749_low
        have F_r_749_high := nw_F_r_749_high; clear nw_F_r_749_high
        show own_Go Z EL n0 p e below s _ _ _ (T743.setTop (mkF m 58 #[.val (.long a), .second, .val (.long b), .second, .val (.long cc), .second, .val (.long ee), .second, .val (.int sel), .val (.int (1 : Int32)), .val (.int (1 : Int32)), .val (.int (0 : Int32)), .val (.ref a717), .val (.ref a732), .unset, .unset] [(.ref r_749)]))
        refine own_lloadN (pc' := 59) w744 own_d13_58 rfl rfl ?_
        refine own_callS (pc' := 62) w744 (hw _ (List.mem_of_getElem? (i := 16) rfl)) (hw _ (List.mem_of_getElem? (i := 17) rfl)) (hw _ (List.mem_of_getElem? (i := 18) rfl)) (hw _ (List.mem_of_getElem? (i := 19) rfl)) (by decide) (own_ct_cOf l Z a0 hw EL hE n0 [] h745 (own_old w744) b ) all0 (argsL := [(.long b)]) (rest := [(.ref r_749)]) rfl rfl own_pd4 rfl own_d13_59 rfl (by decide) (W := 1) rfl (by decide) (by decide) (by decide) fun T751 h753 v754 ms755 w752 q756 => ?_
        obtain ⟨K758, r_757, rfl, rfl, nw_E_r_757, nw_F_r_757_low, nw_F_r_757_high, p59_cOf_0⟩ := q756
        have ne_a717_r_757 : a717 ≠ r_757 := Nat.ne_of_lt (Nat.lt_of_lt_of_le E_a717.lt p59_cOf_0)
        have ne_a732_r_757 : a732 ≠ r_757 := Nat.ne_of_lt (Nat.lt_of_lt_of_le E_a732.lt p59_cOf_0)
        have ne_r_749_r_757 : r_749 ≠ r_757 := Nat.ne_of_lt (Nat.lt_of_lt_of_le E_r_749.lt p59_cOf_0)
        have ne_t_725_r_757 : t_725 ≠ r_757 := Nat.ne_of_lt (Nat.lt_of_lt_of_le A_t_725.lt p59_cOf_0)
        have ne_t_740_r_757 : t_740 ≠ r_757 := Nat.ne_of_lt (Nat.lt_of_lt_of_le A_t_740.lt p59_cOf_0)
        have nw_r_757 : h0.size ≤ r_757 := Nat.le_trans K.1 p59_cOf_0
        replace E_a717 := E_a717.keep K758
        replace F_a717_narrow := F_a717_narrow.keep K758 nin0
        replace F_a717_bits := F_a717_bits.keep K758 nin0
        replace A_t_725 := A_t_725.keep K758 nin0
        replace E_a732 := E_a732.keep K758
        replace F_a732_narrow := F_a732_narrow.keep K758 nin0
        replace F_a732_bits := F_a732_bits.keep K758 nin0
        replace A_t_740 := A_t_740.keep K758 nin0
        replace E_r_749 := E_r_749.keep K758
        replace F_r_749_low := F_r_749_low.keep K758 nin0
        replace F_r_749_high := F_r_749_high.keep K758 nin0
        replace K := K.trans K758 all0
        have E_r_757 := nw_E_r_757; clear nw_E_r_757
        have F_r_757_low := nw_F_r_757_low; clear nw_F_r_757_low
        have F_r_757_high := nw_F_r_757_high; clear nw_F_r_757_high
        show own_Go Z EL n0 p e below s _ _ _ (T751.setTop (mkF m 62 #[.val (.long a), .second, .val (.long b), .second, .val (.long cc), .second, .val (.long ee), .second, .val (.int sel), .val (.int (1 : Int32)), .val (.int (1 : Int32)), .val (.int (0 : Int32)), .val (.ref a717), .val (.ref a732), .unset, .unset] [(.ref r_757), (.ref r_749)]))
        refine own_callV (pc' := 65) w752 (hw _ (List.mem_of_getElem? (i := 30) rfl)) (hw _ (List.mem_of_getElem? (i := 31) rfl)) (fun s' hZ' => notFace_of_selects (args := #[]) (mvT hZ' (hw _ (List.mem_of_getElem? (i := 33) rfl)))) (hw _ (List.mem_of_getElem? (i := 33) rfl)) (hw _ (List.mem_of_getElem? (i := 32) rfl)) (hw _ (List.mem_of_getElem? (i := 18) rfl)) (hw _ (List.mem_of_getElem? (i := 34) rfl)) (by decide) E_r_749 (own_ct_times l Z a0 hw EL hE n0 [] h753 (own_old w752) r_749 r_757 a b F_r_749_low F_r_749_high F_r_757_low F_r_757_high) all0 (argsL := [(.ref r_757)]) (rest := []) rfl rfl own_pd6 rfl own_d13_62 rfl (by decide) (W := 0) rfl (by decide) (by decide) (by decide) fun T759 h761 v762 ms763 w760 q764 => ?_
        obtain ⟨K766, r_765, rfl, rfl, nw_E_r_765, nw_F_r_765_low, nw_F_r_765_high, p62_times_0⟩ := q764
        have ne_a717_r_765 : a717 ≠ r_765 := Nat.ne_of_lt (Nat.lt_of_lt_of_le E_a717.lt p62_times_0)
        have ne_a732_r_765 : a732 ≠ r_765 := Nat.ne_of_lt (Nat.lt_of_lt_of_le E_a732.lt p62_times_0)
        have ne_r_749_r_765 : r_749 ≠ r_765 := Nat.ne_of_lt (Nat.lt_of_lt_of_le E_r_749.lt p62_times_0)
        have ne_r_757_r_765 : r_757 ≠ r_765 := Nat.ne_of_lt (Nat.lt_of_lt_of_le E_r_757.lt p62_times_0)
        have ne_t_725_r_765 : t_725 ≠ r_765 := Nat.ne_of_lt (Nat.lt_of_lt_of_le A_t_725.lt p62_times_0)
        have ne_t_740_r_765 : t_740 ≠ r_765 := Nat.ne_of_lt (Nat.lt_of_lt_of_le A_t_740.lt p62_times_0)
        have nw_r_765 : h0.size ≤ r_765 := Nat.le_trans K.1 p62_times_0
        replace E_a717 := E_a717.keep K766
        replace F_a717_narrow := F_a717_narrow.keep K766 nin0
        replace F_a717_bits := F_a717_bits.keep K766 nin0
        replace A_t_725 := A_t_725.keep K766 nin0
        replace E_a732 := E_a732.keep K766
        replace F_a732_narrow := F_a732_narrow.keep K766 nin0
        replace F_a732_bits := F_a732_bits.keep K766 nin0
        replace A_t_740 := A_t_740.keep K766 nin0
        replace E_r_749 := E_r_749.keep K766
        replace F_r_749_low := F_r_749_low.keep K766 nin0
        replace F_r_749_high := F_r_749_high.keep K766 nin0
        replace E_r_757 := E_r_757.keep K766
        replace F_r_757_low := F_r_757_low.keep K766 nin0
        replace F_r_757_high := F_r_757_high.keep K766 nin0
        replace K := K.trans K766 all0
        have E_r_765 := nw_E_r_765; clear nw_E_r_765
        have F_r_765_low := nw_F_r_765_low; clear nw_F_r_765_low
        have F_r_765_high := nw_F_r_765_high; clear nw_F_r_765_high
        show own_Go Z EL n0 p e below s _ _ _ (T759.setTop (mkF m 65 #[.val (.long a), .second, .val (.long b), .second, .val (.long cc), .second, .val (.long ee), .second, .val (.int sel), .val (.int (1 : Int32)), .val (.int (1 : Int32)), .val (.int (0 : Int32)), .val (.ref a717), .val (.ref a732), .unset, .unset] [(.ref r_765)]))
        refine own_astore (pc' := 67) w760 own_d13_65 rfl (Ls' := #[.val (.long a), .second, .val (.long b), .second, .val (.long cc), .second, .val (.long ee), .second, .val (.int sel), .val (.int (1 : Int32)), .val (.int (1 : Int32)), .val (.int (0 : Int32)), .val (.ref a717), .val (.ref a732), .val (.ref r_765), .unset]) rfl rfl ?_
        refine own_aload (pc' := 69) w760 own_d13_67 rfl rfl rfl ?_
        refine own_iload (pc' := 71) w760 own_d13_69 rfl rfl ?_
        refine own_aload (pc' := 73) w760 own_d13_71 rfl rfl rfl ?_
        refine own_callV (pc' := 76) w760 (hw _ (List.mem_of_getElem? (i := 43) rfl)) (hw _ (List.mem_of_getElem? (i := 44) rfl)) (fun s' hZ' => notFace_of_selects (args := #[]) (mvT hZ' (hw _ (List.mem_of_getElem? (i := 46) rfl)))) (hw _ (List.mem_of_getElem? (i := 46) rfl)) (hw _ (List.mem_of_getElem? (i := 45) rfl)) (hw _ (List.mem_of_getElem? (i := 2) rfl)) (hw _ (List.mem_of_getElem? (i := 47) rfl)) (by decide) E_a717 (own_ct_setCN0 l Z a0 hw EL hE n0 [] h761 (own_old w760) a717 r_765 t_725 kt_726 (own_mh a b) (a * b) 0 0 F_a717_narrow F_a717_bits A_t_725 F_r_765_low F_r_765_high ne_a717_t_725 (Ne.symm ne_t_725_r_765)) (allS (P := fun x => x ∈ _) (by simp) all0) (argsL := [(.int (0 : Int32)), (.ref r_765)]) (rest := []) rfl rfl own_pd7 rfl own_d13_73 rfl (by decide) (W := 0) rfl (by decide) (by decide) (by decide) fun T767 h769 v770 ms771 w768 q772 => ?_
        obtain ⟨K773, rfl, rfl, nw_A_t_725⟩ := q772
        replace E_a717 := E_a717.keep K773
        replace F_a717_narrow := F_a717_narrow.keep K773 (ninS ne_a717_t_725 nin0)
        replace F_a717_bits := F_a717_bits.keep K773 (ninS ne_a717_t_725 nin0)
        replace E_a732 := E_a732.keep K773
        replace F_a732_narrow := F_a732_narrow.keep K773 (ninS (Ne.symm ne_t_725_a732) nin0)
        replace F_a732_bits := F_a732_bits.keep K773 (ninS (Ne.symm ne_t_725_a732) nin0)
        replace A_t_740 := A_t_740.keep K773 (ninS (Ne.symm ne_t_725_t_740) nin0)
        replace E_r_749 := E_r_749.keep K773
        replace F_r_749_low := F_r_749_low.keep K773 (ninS (Ne.symm ne_t_725_r_749) nin0)
        replace F_r_749_high := F_r_749_high.keep K773 (ninS (Ne.symm ne_t_725_r_749) nin0)
        replace E_r_757 := E_r_757.keep K773
        replace F_r_757_low := F_r_757_low.keep K773 (ninS (Ne.symm ne_t_725_r_757) nin0)
        replace F_r_757_high := F_r_757_high.keep K773 (ninS (Ne.symm ne_t_725_r_757) nin0)
        replace E_r_765 := E_r_765.keep K773
        replace F_r_765_low := F_r_765_low.keep K773 (ninS (Ne.symm ne_t_725_r_765) nin0)
        replace F_r_765_high := F_r_765_high.keep K773 (ninS (Ne.symm ne_t_725_r_765) nin0)
        replace K := K.trans K773 (allS (P := fun x => x ∈ ([] : List Addr) ∨ h0.size ≤ x) (Or.inr nw_t_725) all0)
        have A_t_725 := nw_A_t_725; clear nw_A_t_725
        show own_Go Z EL n0 p e below s _ _ _ (T767.setTop (mkF m 76 #[.val (.long a), .second, .val (.long b), .second, .val (.long cc), .second, .val (.long ee), .second, .val (.int sel), .val (.int (1 : Int32)), .val (.int (1 : Int32)), .val (.int (0 : Int32)), .val (.ref a717), .val (.ref a732), .val (.ref r_765), .unset] []))
        refine own_aload (pc' := 78) w768 own_d13_76 rfl rfl rfl ?_
        refine own_iconst (pc' := 79) w768 own_d13_78 (x := (1 : Int32)) rfl rfl ?_
        refine own_iload (pc' := 81) w768 own_d13_79 rfl rfl ?_
        refine own_isub (pc' := 82) w768 own_d13_81 (z := (1 : Int32)) (by decide) rfl ?_
        refine own_lload (pc' := 84) w768 own_d13_82 rfl rfl ?_
        refine own_callV (pc' := 87) w768 (hw _ (List.mem_of_getElem? (i := 49) rfl)) (hw _ (List.mem_of_getElem? (i := 50) rfl)) (fun s' hZ' => notFace_of_selects (args := #[]) (mvT hZ' (hw _ (List.mem_of_getElem? (i := 52) rfl)))) (hw _ (List.mem_of_getElem? (i := 52) rfl)) (hw _ (List.mem_of_getElem? (i := 51) rfl)) (hw _ (List.mem_of_getElem? (i := 2) rfl)) (hw _ (List.mem_of_getElem? (i := 53) rfl)) (by decide) E_a717 (own_ct_setJN1 l Z a0 hw EL hE n0 [] h769 (own_old w768) a717 ee t_725 kt_726 (a * b) 0 F_a717_narrow F_a717_bits A_t_725 ne_a717_t_725) (allS (P := fun x => x ∈ _) (by simp) all0) (argsL := [(.int (1 : Int32)), (.long ee)]) (rest := []) rfl rfl own_pd8 rfl own_d13_84 rfl (by decide) (W := 0) rfl (by decide) (by decide) (by decide) fun T774 h776 v777 ms778 w775 q779 => ?_
        obtain ⟨K780, rfl, rfl, nw_A_t_725⟩ := q779
        replace E_a717 := E_a717.keep K780
        replace F_a717_narrow := F_a717_narrow.keep K780 (ninS ne_a717_t_725 nin0)
        replace F_a717_bits := F_a717_bits.keep K780 (ninS ne_a717_t_725 nin0)
        replace E_a732 := E_a732.keep K780
        replace F_a732_narrow := F_a732_narrow.keep K780 (ninS (Ne.symm ne_t_725_a732) nin0)
        replace F_a732_bits := F_a732_bits.keep K780 (ninS (Ne.symm ne_t_725_a732) nin0)
        replace A_t_740 := A_t_740.keep K780 (ninS (Ne.symm ne_t_725_t_740) nin0)
        replace E_r_749 := E_r_749.keep K780
        replace F_r_749_low := F_r_749_low.keep K780 (ninS (Ne.symm ne_t_725_r_749) nin0)
        replace F_r_749_high := F_r_749_high.keep K780 (ninS (Ne.symm ne_t_725_r_749) nin0)
        replace E_r_757 := E_r_757.keep K780
        replace F_r_757_low := F_r_757_low.keep K780 (ninS (Ne.symm ne_t_725_r_757) nin0)
        replace F_r_757_high := F_r_757_high.keep K780 (ninS (Ne.symm ne_t_725_r_757) nin0)
        replace E_r_765 := E_r_765.keep K780
        replace F_r_765_low := F_r_765_low.keep K780 (ninS (Ne.symm ne_t_725_r_765) nin0)
        replace F_r_765_high := F_r_765_high.keep K780 (ninS (Ne.symm ne_t_725_r_765) nin0)
        replace K := K.trans K780 (allS (P := fun x => x ∈ ([] : List Addr) ∨ h0.size ≤ x) (Or.inr nw_t_725) all0)
        have A_t_725 := nw_A_t_725; clear nw_A_t_725
        show own_Go Z EL n0 p e below s _ _ _ (T774.setTop (mkF m 87 #[.val (.long a), .second, .val (.long b), .second, .val (.long cc), .second, .val (.long ee), .second, .val (.int sel), .val (.int (1 : Int32)), .val (.int (1 : Int32)), .val (.int (0 : Int32)), .val (.ref a717), .val (.ref a732), .val (.ref r_765), .unset] []))
        refine own_aload (pc' := 89) w775 own_d13_87 rfl rfl rfl ?_
        refine own_iload (pc' := 91) w775 own_d13_89 rfl rfl ?_
        refine own_lload (pc' := 93) w775 own_d13_91 rfl rfl ?_
        refine own_callV (pc' := 96) w775 (hw _ (List.mem_of_getElem? (i := 49) rfl)) (hw _ (List.mem_of_getElem? (i := 50) rfl)) (fun s' hZ' => notFace_of_selects (args := #[]) (mvT hZ' (hw _ (List.mem_of_getElem? (i := 52) rfl)))) (hw _ (List.mem_of_getElem? (i := 52) rfl)) (hw _ (List.mem_of_getElem? (i := 51) rfl)) (hw _ (List.mem_of_getElem? (i := 2) rfl)) (hw _ (List.mem_of_getElem? (i := 53) rfl)) (by decide) E_a732 (own_ct_setJN1 l Z a0 hw EL hE n0 [] h776 (own_old w775) a732 cc t_740 kt_741 0 0 F_a732_narrow F_a732_bits A_t_740 ne_a732_t_740) (allS (P := fun x => x ∈ _) (by simp) all0) (argsL := [(.int (1 : Int32)), (.long cc)]) (rest := []) rfl rfl own_pd8 rfl own_d13_93 rfl (by decide) (W := 0) rfl (by decide) (by decide) (by decide) fun T781 h783 v784 ms785 w782 q786 => ?_
        obtain ⟨K787, rfl, rfl, nw_A_t_740⟩ := q786
        replace E_a717 := E_a717.keep K787
        replace F_a717_narrow := F_a717_narrow.keep K787 (ninS ne_a717_t_740 nin0)
        replace F_a717_bits := F_a717_bits.keep K787 (ninS ne_a717_t_740 nin0)
        replace E_a732 := E_a732.keep K787
        replace F_a732_narrow := F_a732_narrow.keep K787 (ninS ne_a732_t_740 nin0)
        replace F_a732_bits := F_a732_bits.keep K787 (ninS ne_a732_t_740 nin0)
        replace E_r_749 := E_r_749.keep K787
        replace F_r_749_low := F_r_749_low.keep K787 (ninS (Ne.symm ne_t_740_r_749) nin0)
        replace F_r_749_high := F_r_749_high.keep K787 (ninS (Ne.symm ne_t_740_r_749) nin0)
        replace E_r_757 := E_r_757.keep K787
        replace F_r_757_low := F_r_757_low.keep K787 (ninS (Ne.symm ne_t_740_r_757) nin0)
        replace F_r_757_high := F_r_757_high.keep K787 (ninS (Ne.symm ne_t_740_r_757) nin0)
        replace E_r_765 := E_r_765.keep K787
        replace F_r_765_low := F_r_765_low.keep K787 (ninS (Ne.symm ne_t_740_r_765) nin0)
        replace F_r_765_high := F_r_765_high.keep K787 (ninS (Ne.symm ne_t_740_r_765) nin0)
        replace A_t_725 := A_t_725.keep K787 (ninS ne_t_725_t_740 nin0)
        replace K := K.trans K787 (allS (P := fun x => x ∈ ([] : List Addr) ∨ h0.size ≤ x) (Or.inr nw_t_740) all0)
        have A_t_740 := nw_A_t_740; clear nw_A_t_740
        show own_Go Z EL n0 p e below s _ _ _ (T781.setTop (mkF m 96 #[.val (.long a), .second, .val (.long b), .second, .val (.long cc), .second, .val (.long ee), .second, .val (.int sel), .val (.int (1 : Int32)), .val (.int (1 : Int32)), .val (.int (0 : Int32)), .val (.ref a717), .val (.ref a732), .val (.ref r_765), .unset] []))
        refine own_aload (pc' := 98) w782 own_d13_96 rfl rfl rfl ?_
        refine own_iload (pc' := 100) w782 own_d13_98 rfl rfl ?_
        refine own_aload (pc' := 102) w782 own_d13_100 rfl rfl rfl ?_
        refine own_iload (pc' := 104) w782 own_d13_102 rfl rfl ?_
        refine own_callV (pc' := 107) w782 (hw _ (List.mem_of_getElem? (i := 54) rfl)) (hw _ (List.mem_of_getElem? (i := 55) rfl)) (fun s' hZ' => notFace_of_selects (args := #[]) (mvT hZ' (hw _ (List.mem_of_getElem? (i := 57) rfl)))) (hw _ (List.mem_of_getElem? (i := 57) rfl)) (hw _ (List.mem_of_getElem? (i := 56) rfl)) (hw _ (List.mem_of_getElem? (i := 2) rfl)) (hw _ (List.mem_of_getElem? (i := 58) rfl)) (by decide) E_a732 (own_ct_setAN10 l Z a0 hw EL hE n0 [] h783 (own_old w782) a732 a717 t_740 kt_741 t_725 kt_726 0 cc (a * b) ee F_a732_narrow F_a732_bits A_t_740 F_a717_bits A_t_725 ne_a732_t_740 ne_a717_t_740 ne_t_725_t_740) (allS (P := fun x => x ∈ _) (by simp) all0) (argsL := [(.int (1 : Int32)), (.ref a717), (.int (0 : Int32))]) (rest := []) rfl rfl own_pd9 rfl own_d13_104 rfl (by decide) (W := 0) rfl (by decide) (by decide) (by decide) fun T788 h790 v791 ms792 w789 q793 => ?_
        obtain ⟨K794, rfl, rfl, nw_A_t_740⟩ := q793
        replace E_a717 := E_a717.keep K794
        replace F_a717_narrow := F_a717_narrow.keep K794 (ninS ne_a717_t_740 nin0)
        replace F_a717_bits := F_a717_bits.keep K794 (ninS ne_a717_t_740 nin0)
        replace E_a732 := E_a732.keep K794
        replace F_a732_narrow := F_a732_narrow.keep K794 (ninS ne_a732_t_740 nin0)
        replace F_a732_bits := F_a732_bits.keep K794 (ninS ne_a732_t_740 nin0)
        replace E_r_749 := E_r_749.keep K794
        replace F_r_749_low := F_r_749_low.keep K794 (ninS (Ne.symm ne_t_740_r_749) nin0)
        replace F_r_749_high := F_r_749_high.keep K794 (ninS (Ne.symm ne_t_740_r_749) nin0)
        replace E_r_757 := E_r_757.keep K794
        replace F_r_757_low := F_r_757_low.keep K794 (ninS (Ne.symm ne_t_740_r_757) nin0)
        replace F_r_757_high := F_r_757_high.keep K794 (ninS (Ne.symm ne_t_740_r_757) nin0)
        replace E_r_765 := E_r_765.keep K794
        replace F_r_765_low := F_r_765_low.keep K794 (ninS (Ne.symm ne_t_740_r_765) nin0)
        replace F_r_765_high := F_r_765_high.keep K794 (ninS (Ne.symm ne_t_740_r_765) nin0)
        replace A_t_725 := A_t_725.keep K794 (ninS ne_t_725_t_740 nin0)
        replace K := K.trans K794 (allS (P := fun x => x ∈ ([] : List Addr) ∨ h0.size ≤ x) (Or.inr nw_t_740) all0)
        have A_t_740 := nw_A_t_740; clear nw_A_t_740
        show own_Go Z EL n0 p e below s _ _ _ (T788.setTop (mkF m 107 #[.val (.long a), .second, .val (.long b), .second, .val (.long cc), .second, .val (.long ee), .second, .val (.int sel), .val (.int (1 : Int32)), .val (.int (1 : Int32)), .val (.int (0 : Int32)), .val (.ref a717), .val (.ref a732), .val (.ref r_765), .unset] []))
        refine own_iload (pc' := 109) w789 own_d13_107 rfl rfl ?_
        refine own_if (pc' := 112) w789 own_d13_109 rfl (by decide) (pcY := 121) rfl (fun (hb109 : (1 : Int32) = (0 : Int32)) => absurd hb109 (by decide)) (fun (hb109 : ¬ (1 : Int32) = (0 : Int32)) => ?_)
        refine own_lloadN (pc' := 113) w789 own_d13_112 rfl rfl ?_
        refine own_lloadN (pc' := 114) w789 own_d13_113 rfl rfl ?_
        refine own_lmul (pc' := 115) w789 own_d13_114 (z := (a * b)) rfl rfl ?_
        refine own_callS (pc' := 118) w789 (hw _ (List.mem_of_getElem? (i := 16) rfl)) (hw _ (List.mem_of_getElem? (i := 17) rfl)) (hw _ (List.mem_of_getElem? (i := 18) rfl)) (hw _ (List.mem_of_getElem? (i := 19) rfl)) (by decide) (own_ct_cOf l Z a0 hw EL hE n0 [] h790 (own_old w789) (a * b) ) all0 (argsL := [(.long (a * b))]) (rest := []) rfl rfl own_pd4 rfl own_d13_115 rfl (by decide) (W := 0) rfl (by decide) (by decide) (by decide) fun T795 h797 v798 ms799 w796 q800 => ?_
        obtain ⟨K802, r_801, rfl, rfl, nw_E_r_801, nw_F_r_801_low, nw_F_r_801_high, p115_cOf_0⟩ := q800
        have ne_a717_r_801 : a717 ≠ r_801 := Nat.ne_of_lt (Nat.lt_of_lt_of_le E_a717.lt p115_cOf_0)
        have ne_a732_r_801 : a732 ≠ r_801 := Nat.ne_of_lt (Nat.lt_of_lt_of_le E_a732.lt p115_cOf_0)
        have ne_r_749_r_801 : r_749 ≠ r_801 := Nat.ne_of_lt (Nat.lt_of_lt_of_le E_r_749.lt p115_cOf_0)
        have ne_r_757_r_801 : r_757 ≠ r_801 := Nat.ne_of_lt (Nat.lt_of_lt_of_le E_r_757.lt p115_cOf_0)
        have ne_r_765_r_801 : r_765 ≠ r_801 := Nat.ne_of_lt (Nat.lt_of_lt_of_le E_r_765.lt p115_cOf_0)
        have ne_t_725_r_801 : t_725 ≠ r_801 := Nat.ne_of_lt (Nat.lt_of_lt_of_le A_t_725.lt p115_cOf_0)
        have ne_t_740_r_801 : t_740 ≠ r_801 := Nat.ne_of_lt (Nat.lt_of_lt_of_le A_t_740.lt p115_cOf_0)
        have nw_r_801 : h0.size ≤ r_801 := Nat.le_trans K.1 p115_cOf_0
        replace E_a717 := E_a717.keep K802
        replace F_a717_narrow := F_a717_narrow.keep K802 nin0
        replace F_a717_bits := F_a717_bits.keep K802 nin0
        replace E_a732 := E_a732.keep K802
        replace F_a732_narrow := F_a732_narrow.keep K802 nin0
        replace F_a732_bits := F_a732_bits.keep K802 nin0
        replace E_r_749 := E_r_749.keep K802
        replace F_r_749_low := F_r_749_low.keep K802 nin0
        replace F_r_749_high := F_r_749_high.keep K802 nin0
        replace E_r_757 := E_r_757.keep K802
        replace F_r_757_low := F_r_757_low.keep K802 nin0
        replace F_r_757_high := F_r_757_high.keep K802 nin0
        replace E_r_765 := E_r_765.keep K802
        replace F_r_765_low := F_r_765_low.keep K802 nin0
        replace F_r_765_high := F_r_765_high.keep K802 nin0
        replace A_t_725 := A_t_725.keep K802 nin0
        replace A_t_740 := A_t_740.keep K802 nin0
        replace K := K.trans K802 all0
        have E_r_801 := nw_E_r_801; clear nw_E_r_801
        have F_r_801_low := nw_F_r_801_low; clear nw_F_r_801_low
        have F_r_801_high := nw_F_r_801_high; clear nw_F_r_801_high
        show own_Go Z EL n0 p e below s _ _ _ (T795.setTop (mkF m 118 #[.val (.long a), .second, .val (.long b), .second, .val (.long cc), .second, .val (.long ee), .second, .val (.int sel), .val (.int (1 : Int32)), .val (.int (1 : Int32)), .val (.int (0 : Int32)), .val (.ref a717), .val (.ref a732), .val (.ref r_765), .unset] [(.ref r_801)]))
        refine own_goto w796 own_d13_118 (by decide) (pc' := 123) rfl ?_
        refine own_astore (pc' := 125) w796 own_d13_123 rfl (Ls' := #[.val (.long a), .second, .val (.long b), .second, .val (.long cc), .second, .val (.long ee), .second, .val (.int sel), .val (.int (1 : Int32)), .val (.int (1 : Int32)), .val (.int (0 : Int32)), .val (.ref a717), .val (.ref a732), .val (.ref r_765), .val (.ref r_801)]) rfl rfl ?_
        refine own_aload (pc' := 127) w796 own_d13_125 rfl rfl rfl ?_
        refine own_iload (pc' := 129) w796 own_d13_127 rfl rfl ?_
        refine own_callV (pc' := 132) w796 (hw _ (List.mem_of_getElem? (i := 59) rfl)) (hw _ (List.mem_of_getElem? (i := 60) rfl)) (fun s' hZ' => notFace_of_selects (args := #[]) (mvT hZ' (hw _ (List.mem_of_getElem? (i := 62) rfl)))) (hw _ (List.mem_of_getElem? (i := 62) rfl)) (hw _ (List.mem_of_getElem? (i := 61) rfl)) (hw _ (List.mem_of_getElem? (i := 2) rfl)) (hw _ (List.mem_of_getElem? (i := 63) rfl)) (by decide) E_a732 (own_ct_getN1 l Z a0 hw EL hE n0 [] h797 (own_old w796) a732 t_740 kt_741 0 (a * b) F_a732_narrow F_a732_bits A_t_740) all0 (argsL := [(.int (1 : Int32))]) (rest := []) rfl rfl own_pd10 rfl own_d13_129 rfl (by decide) (W := 0) rfl (by decide) (by decide) (by decide) fun T803 h805 v806 ms807 w804 q808 => ?_
        obtain ⟨K810, r_809, rfl, rfl, nw_E_r_809, nw_F_r_809_low, nw_F_r_809_high, p129_getN1_0⟩ := q808
        have ne_a717_r_809 : a717 ≠ r_809 := Nat.ne_of_lt (Nat.lt_of_lt_of_le E_a717.lt p129_getN1_0)
        have ne_a732_r_809 : a732 ≠ r_809 := Nat.ne_of_lt (Nat.lt_of_lt_of_le E_a732.lt p129_getN1_0)
        have ne_r_749_r_809 : r_749 ≠ r_809 := Nat.ne_of_lt (Nat.lt_of_lt_of_le E_r_749.lt p129_getN1_0)
        have ne_r_757_r_809 : r_757 ≠ r_809 := Nat.ne_of_lt (Nat.lt_of_lt_of_le E_r_757.lt p129_getN1_0)
        have ne_r_765_r_809 : r_765 ≠ r_809 := Nat.ne_of_lt (Nat.lt_of_lt_of_le E_r_765.lt p129_getN1_0)
        have ne_r_801_r_809 : r_801 ≠ r_809 := Nat.ne_of_lt (Nat.lt_of_lt_of_le E_r_801.lt p129_getN1_0)
        have ne_t_725_r_809 : t_725 ≠ r_809 := Nat.ne_of_lt (Nat.lt_of_lt_of_le A_t_725.lt p129_getN1_0)
        have ne_t_740_r_809 : t_740 ≠ r_809 := Nat.ne_of_lt (Nat.lt_of_lt_of_le A_t_740.lt p129_getN1_0)
        have nw_r_809 : h0.size ≤ r_809 := Nat.le_trans K.1 p129_getN1_0
        replace E_a717 := E_a717.keep K810
        replace F_a717_narrow := F_a717_narrow.keep K810 nin0
        replace F_a717_bits := F_a717_bits.keep K810 nin0
        replace E_a732 := E_a732.keep K810
        replace F_a732_narrow := F_a732_narrow.keep K810 nin0
        replace F_a732_bits := F_a732_bits.keep K810 nin0
        replace E_r_749 := E_r_749.keep K810
        replace F_r_749_low := F_r_749_low.keep K810 nin0
        replace F_r_749_high := F_r_749_high.keep K810 nin0
        replace E_r_757 := E_r_757.keep K810
        replace F_r_757_low := F_r_757_low.keep K810 nin0
        replace F_r_757_high := F_r_757_high.keep K810 nin0
        replace E_r_765 := E_r_765.keep K810
        replace F_r_765_low := F_r_765_low.keep K810 nin0
        replace F_r_765_high := F_r_765_high.keep K810 nin0
        replace A_t_725 := A_t_725.keep K810 nin0
        replace A_t_740 := A_t_740.keep K810 nin0
        replace E_r_801 := E_r_801.keep K810
        replace F_r_801_low := F_r_801_low.keep K810 nin0
        replace F_r_801_high := F_r_801_high.keep K810 nin0
        replace K := K.trans K810 all0
        have E_r_809 := nw_E_r_809; clear nw_E_r_809
        have F_r_809_low := nw_F_r_809_low; clear nw_F_r_809_low
        have F_r_809_high := nw_F_r_809_high; clear nw_F_r_809_high
        show own_Go Z EL n0 p e below s _ _ _ (T803.setTop (mkF m 132 #[.val (.long a), .second, .val (.long b), .second, .val (.long cc), .second, .val (.long ee), .second, .val (.int sel), .val (.int (1 : Int32)), .val (.int (1 : Int32)), .val (.int (0 : Int32)), .val (.ref a717), .val (.ref a732), .val (.ref r_765), .val (.ref r_801)] [(.ref r_809)]))
        refine own_aload (pc' := 134) w804 own_d13_132 rfl rfl rfl ?_
        refine own_callV (pc' := 137) w804 (hw _ (List.mem_of_getElem? (i := 65) rfl)) (hw _ (List.mem_of_getElem? (i := 66) rfl)) (fun s' hZ' => notFace_of_selects (args := #[]) (mvT hZ' (hw _ (List.mem_of_getElem? (i := 68) rfl)))) (hw _ (List.mem_of_getElem? (i := 68) rfl)) (hw _ (List.mem_of_getElem? (i := 67) rfl)) (hw _ (List.mem_of_getElem? (i := 18) rfl)) (hw _ (List.mem_of_getElem? (i := 69) rfl)) (by decide) E_r_809 (own_ct_ceq l Z a0 hw EL hE n0 [] h805 (own_old w804) r_809 r_801 (own_sgn (a * b)) (a * b) F_r_809_low F_r_809_high E_r_801 F_r_801_low F_r_801_high) all0 (argsL := [(.ref r_801)]) (rest := []) rfl rfl own_pd11 rfl own_d13_134 rfl (by decide) (W := 0) rfl (by decide) (by decide) (by decide) fun T811 h813 v814 ms815 w812 q816 => ?_
        obtain ⟨rfl, rfl, rfl⟩ := q816
        show own_Go Z EL n0 p e below s _ _ _ (T811.setTop (mkF m 137 #[.val (.long a), .second, .val (.long b), .second, .val (.long cc), .second, .val (.long ee), .second, .val (.int sel), .val (.int (1 : Int32)), .val (.int (1 : Int32)), .val (.int (0 : Int32)), .val (.ref a717), .val (.ref a732), .val (.ref r_765), .val (.ref r_801)] [(.int (1 : Int32))]))
        refine own_if (pc' := 140) w812 own_d13_137 rfl (by decide) (pcY := 171) rfl (fun (hb137 : (1 : Int32) = (0 : Int32)) => absurd hb137 (by decide)) (fun (hb137 : ¬ (1 : Int32) = (0 : Int32)) => ?_)
        refine own_aload (pc' := 142) w812 own_d13_140 rfl rfl rfl ?_
        refine own_iconst (pc' := 143) w812 own_d13_142 (x := (1 : Int32)) rfl rfl ?_
        refine own_iload (pc' := 145) w812 own_d13_143 rfl rfl ?_
        refine own_isub (pc' := 146) w812 own_d13_145 (z := (0 : Int32)) (by decide) rfl ?_
        refine own_callV (pc' := 149) w812 (hw _ (List.mem_of_getElem? (i := 71) rfl)) (hw _ (List.mem_of_getElem? (i := 72) rfl)) (fun s' hZ' => notFace_of_selects (args := #[]) (mvT hZ' (hw _ (List.mem_of_getElem? (i := 74) rfl)))) (hw _ (List.mem_of_getElem? (i := 74) rfl)) (hw _ (List.mem_of_getElem? (i := 73) rfl)) (hw _ (List.mem_of_getElem? (i := 2) rfl)) (hw _ (List.mem_of_getElem? (i := 75) rfl)) (by decide) E_a732 (own_ct_sigN0 l Z a0 hw EL hE n0 [] h805 (own_old w812) a732 t_740 kt_741 (a * b) F_a732_narrow F_a732_bits A_t_740) all0 (argsL := [(.int (0 : Int32))]) (rest := []) rfl rfl own_pd12 rfl own_d13_146 rfl (by decide) (W := 0) rfl (by decide) (by decide) (by decide) fun T817 h819 v820 ms821 w818 q822 => ?_
        obtain ⟨rfl, rfl, rfl⟩ := q822
        show own_Go Z EL n0 p e below s _ _ _ (T817.setTop (mkF m 149 #[.val (.long a), .second, .val (.long b), .second, .val (.long cc), .second, .val (.long ee), .second, .val (.int sel), .val (.int (1 : Int32)), .val (.int (1 : Int32)), .val (.int (0 : Int32)), .val (.ref a717), .val (.ref a732), .val (.ref r_765), .val (.ref r_801)] [(.int (0 : Int32))]))
        refine own_if (pc' := 152) w818 own_d13_149 rfl (by decide) (pcY := 171) rfl (fun (hb149 : ¬ (0 : Int32) = (0 : Int32)) => absurd hb149 (by decide)) (fun (hb149 : (0 : Int32) = (0 : Int32)) => ?_)
        refine own_aload (pc' := 154) w818 own_d13_152 rfl rfl rfl ?_
        refine own_iload (pc' := 156) w818 own_d13_154 rfl rfl ?_
        refine own_callV (pc' := 159) w818 (hw _ (List.mem_of_getElem? (i := 59) rfl)) (hw _ (List.mem_of_getElem? (i := 60) rfl)) (fun s' hZ' => notFace_of_selects (args := #[]) (mvT hZ' (hw _ (List.mem_of_getElem? (i := 62) rfl)))) (hw _ (List.mem_of_getElem? (i := 62) rfl)) (hw _ (List.mem_of_getElem? (i := 61) rfl)) (hw _ (List.mem_of_getElem? (i := 2) rfl)) (hw _ (List.mem_of_getElem? (i := 63) rfl)) (by decide) E_a717 (own_ct_getN0 l Z a0 hw EL hE n0 [] h805 (own_old w818) a717 t_725 kt_726 (a * b) ee F_a717_narrow F_a717_bits A_t_725) all0 (argsL := [(.int (0 : Int32))]) (rest := []) rfl rfl own_pd10 rfl own_d13_156 rfl (by decide) (W := 0) rfl (by decide) (by decide) (by decide) fun T823 h825 v826 ms827 w824 q828 => ?_
        obtain ⟨K830, r_829, rfl, rfl, nw_E_r_829, nw_F_r_829_low, nw_F_r_829_high, p156_getN0_0⟩ := q828
        have ne_a717_r_829 : a717 ≠ r_829 := Nat.ne_of_lt (Nat.lt_of_lt_of_le E_a717.lt p156_getN0_0)
        have ne_a732_r_829 : a732 ≠ r_829 := Nat.ne_of_lt (Nat.lt_of_lt_of_le E_a732.lt p156_getN0_0)
        have ne_r_749_r_829 : r_749 ≠ r_829 := Nat.ne_of_lt (Nat.lt_of_lt_of_le E_r_749.lt p156_getN0_0)
        have ne_r_757_r_829 : r_757 ≠ r_829 := Nat.ne_of_lt (Nat.lt_of_lt_of_le E_r_757.lt p156_getN0_0)
        have ne_r_765_r_829 : r_765 ≠ r_829 := Nat.ne_of_lt (Nat.lt_of_lt_of_le E_r_765.lt p156_getN0_0)
        have ne_r_801_r_829 : r_801 ≠ r_829 := Nat.ne_of_lt (Nat.lt_of_lt_of_le E_r_801.lt p156_getN0_0)
        have ne_r_809_r_829 : r_809 ≠ r_829 := Nat.ne_of_lt (Nat.lt_of_lt_of_le E_r_809.lt p156_getN0_0)
        have ne_t_725_r_829 : t_725 ≠ r_829 := Nat.ne_of_lt (Nat.lt_of_lt_of_le A_t_725.lt p156_getN0_0)
        have ne_t_740_r_829 : t_740 ≠ r_829 := Nat.ne_of_lt (Nat.lt_of_lt_of_le A_t_740.lt p156_getN0_0)
        have nw_r_829 : h0.size ≤ r_829 := Nat.le_trans K.1 p156_getN0_0
        replace E_a717 := E_a717.keep K830
        replace F_a717_narrow := F_a717_narrow.keep K830 nin0
        replace F_a717_bits := F_a717_bits.keep K830 nin0
        replace E_a732 := E_a732.keep K830
        replace F_a732_narrow := F_a732_narrow.keep K830 nin0
        replace F_a732_bits := F_a732_bits.keep K830 nin0
        replace E_r_749 := E_r_749.keep K830
        replace F_r_749_low := F_r_749_low.keep K830 nin0
        replace F_r_749_high := F_r_749_high.keep K830 nin0
        replace E_r_757 := E_r_757.keep K830
        replace F_r_757_low := F_r_757_low.keep K830 nin0
        replace F_r_757_high := F_r_757_high.keep K830 nin0
        replace E_r_765 := E_r_765.keep K830
        replace F_r_765_low := F_r_765_low.keep K830 nin0
        replace F_r_765_high := F_r_765_high.keep K830 nin0
        replace A_t_725 := A_t_725.keep K830 nin0
        replace A_t_740 := A_t_740.keep K830 nin0
        replace E_r_801 := E_r_801.keep K830
        replace F_r_801_low := F_r_801_low.keep K830 nin0
        replace F_r_801_high := F_r_801_high.keep K830 nin0
        replace E_r_809 := E_r_809.keep K830
        replace F_r_809_low := F_r_809_low.keep K830 nin0
        replace F_r_809_high := F_r_809_high.keep K830 nin0
        replace K := K.trans K830 all0
        have E_r_829 := nw_E_r_829; clear nw_E_r_829
        have F_r_829_low := nw_F_r_829_low; clear nw_F_r_829_low
        have F_r_829_high := nw_F_r_829_high; clear nw_F_r_829_high
        show own_Go Z EL n0 p e below s _ _ _ (T823.setTop (mkF m 159 #[.val (.long a), .second, .val (.long b), .second, .val (.long cc), .second, .val (.long ee), .second, .val (.int sel), .val (.int (1 : Int32)), .val (.int (1 : Int32)), .val (.int (0 : Int32)), .val (.ref a717), .val (.ref a732), .val (.ref r_765), .val (.ref r_801)] [(.ref r_829)]))
        refine own_aload (pc' := 161) w824 own_d13_159 rfl rfl rfl ?_
        refine own_callV (pc' := 164) w824 (hw _ (List.mem_of_getElem? (i := 65) rfl)) (hw _ (List.mem_of_getElem? (i := 66) rfl)) (fun s' hZ' => notFace_of_selects (args := #[]) (mvT hZ' (hw _ (List.mem_of_getElem? (i := 68) rfl)))) (hw _ (List.mem_of_getElem? (i := 68) rfl)) (hw _ (List.mem_of_getElem? (i := 67) rfl)) (hw _ (List.mem_of_getElem? (i := 18) rfl)) (hw _ (List.mem_of_getElem? (i := 69) rfl)) (by decide) E_r_829 (own_ct_ceq l Z a0 hw EL hE n0 [] h825 (own_old w824) r_829 r_801 (own_sgn (a * b)) (a * b) F_r_829_low F_r_829_high E_r_801 F_r_801_low F_r_801_high) all0 (argsL := [(.ref r_801)]) (rest := []) rfl rfl own_pd11 rfl own_d13_161 rfl (by decide) (W := 0) rfl (by decide) (by decide) (by decide) fun T831 h833 v834 ms835 w832 q836 => ?_
        obtain ⟨rfl, rfl, rfl⟩ := q836
        show own_Go Z EL n0 p e below s _ _ _ (T831.setTop (mkF m 164 #[.val (.long a), .second, .val (.long b), .second, .val (.long cc), .second, .val (.long ee), .second, .val (.int sel), .val (.int (1 : Int32)), .val (.int (1 : Int32)), .val (.int (0 : Int32)), .val (.ref a717), .val (.ref a732), .val (.ref r_765), .val (.ref r_801)] [(.int (1 : Int32))]))
        refine own_if (pc' := 167) w832 own_d13_164 rfl (by decide) (pcY := 171) rfl (fun (hb164 : (1 : Int32) = (0 : Int32)) => absurd hb164 (by decide)) (fun (hb164 : ¬ (1 : Int32) = (0 : Int32)) => ?_)
        refine own_iconst (pc' := 168) w832 own_d13_167 (x := (1 : Int32)) rfl rfl ?_
        refine own_goto w832 own_d13_168 (by decide) (pc' := 172) rfl ?_
        exact own_retV w832 (t := .boolean) rfl rfl (Or.inl ⟨rfl, by simp, _, rfl⟩) own_d13_172 (by decide) (by decide) (ms' := []) all0 ⟨K, rfl, rfl⟩
      · -- f11
        refine own_iand (pc' := 28) w0 own_d13_27 (z := (1 : Int32)) hat rfl ?_
        refine own_istore (pc' := 30) w0 own_d13_28 (Ls' := #[.val (.long a), .second, .val (.long b), .second, .val (.long cc), .second, .val (.long ee), .second, .val (.int sel), .val (.int (1 : Int32)), .val (.int (1 : Int32)), .val (.int (1 : Int32)), .unset, .unset, .unset, .unset]) rfl rfl ?_
        refine own_newO (pc' := 33) w0 (hw _ (List.mem_of_getElem? (i := 0) rfl)) (hw _ (List.mem_of_getElem? (i := 1) rfl)) (hw _ (List.mem_of_getElem? (i := 2) rfl)) own_d13_30 rfl (by decide) (by decide) fun T837 h839 a841 g_a841 w838 E840 ⟨E_a841, D842⟩ => ?_
        have nw_a841 : h0.size ≤ a841 := Nat.le_trans K.1 (Nat.le_of_eq g_a841)
        replace K := K.ext E840
        have F_a841_product : Fld Z h839 a841 "com/example/throng/throng/engine/Count$Array" "product" "[J" .null := D842 (Or.inr (hw _ (List.mem_of_getElem? (i := 11) rfl))) (ty := (.array .long)) (by decide)
        have F_a841_narrow : Fld Z h839 a841 "com/example/throng/throng/engine/Count$Array" "narrow" "Z" (.int 0) := D842 (Or.inr (hw _ (List.mem_of_getElem? (i := 13) rfl))) (ty := .boolean) (by decide)
        have F_a841_bits : Fld Z h839 a841 "com/example/throng/throng/engine/Count$Array" "bits" "[J" .null := D842 (Or.inr (hw _ (List.mem_of_getElem? (i := 15) rfl))) (ty := (.array .long)) (by decide)
        refine own_dup (pc' := 34) w838 own_d13_33 rfl rfl ?_
        refine own_iconst (pc' := 35) w838 own_d13_34 (x := (2 : Int32)) rfl rfl ?_
        refine own_iload (pc' := 37) w838 own_d13_35 rfl rfl ?_
        refine own_callI (pc' := 40) w838 rfl (hw _ (List.mem_of_getElem? (i := 3) rfl)) (hw _ (List.mem_of_getElem? (i := 4) rfl)) (hw _ (List.mem_of_getElem? (i := 2) rfl)) (hw _ (List.mem_of_getElem? (i := 5) rfl)) (by decide) (own_ct_aInitN l Z a0 hw EL hE n0 [] h839 (own_old w838) a841 .null (.int 0) .null E_a841 F_a841_product F_a841_narrow F_a841_bits) (allS (P := fun x => x ∈ _) (by simp) all0) (argsL := [(.int (2 : Int32)), (.int (1 : Int32))]) (rest := [(.ref a841)]) rfl rfl own_pd5 rfl own_d13_37 rfl (by decide) (W := 1) rfl (by decide) (by decide) (by decide) fun T843 h845 v846 ms847 w844 q848 => ?_
        obtain ⟨K851, t_849, kt_850, rfl, rfl, nw_E_a841, nw_F_a841_narrow, nw_F_a841_bits, nw_A_t_849, p37_aInitN_0⟩ := q848
        have ne_a841_t_849 : a841 ≠ t_849 := Nat.ne_of_lt (Nat.lt_of_lt_of_le E_a841.lt p37_aInitN_0)
        have nw_t_849 : h0.size ≤ t_849 := Nat.le_trans K.1 p37_aInitN_0
        replace K := K.trans K851 (allS (P := fun x => x ∈ ([] : List Addr) ∨ h0.size ≤ x) (Or.inr nw_a841) all0)
        have E_a841 := nw_E_a841; clear nw_E_a841
        have F_a841_narrow := nw_F_a841_narrow; clear nw_F_a841_narrow
        have F_a841_bits := nw_F_a841_bits; clear nw_F_a841_bits
        have A_t_849 := nw_A_t_849; clear nw_A_t_849
        show own_Go Z EL n0 p e below s _ _ _ (T843.setTop (mkF m 40 #[.val (.long a), .second, .val (.long b), .second, .val (.long cc), .second, .val (.long ee), .second, .val (.int sel), .val (.int (1 : Int32)), .val (.int (1 : Int32)), .val (.int (1 : Int32)), .unset, .unset, .unset, .unset] [(.ref a841)]))
        refine own_astore (pc' := 42) w844 own_d13_40 rfl (Ls' := #[.val (.long a), .second, .val (.long b), .second, .val (.long cc), .second, .val (.long ee), .second, .val (.int sel), .val (.int (1 : Int32)), .val (.int (1 : Int32)), .val (.int (1 : Int32)), .val (.ref a841), .unset, .unset, .unset]) rfl rfl ?_
        refine own_newO (pc' := 45) w844 (hw _ (List.mem_of_getElem? (i := 0) rfl)) (hw _ (List.mem_of_getElem? (i := 1) rfl)) (hw _ (List.mem_of_getElem? (i := 2) rfl)) own_d13_42 rfl (by decide) (by decide) fun T852 h854 a856 g_a856 w853 E855 ⟨E_a856, D857⟩ => ?_
        have ne_a841_a856 : a841 ≠ a856 := Nat.ne_of_lt (Nat.lt_of_lt_of_le E_a841.lt (Nat.le_of_eq g_a856))
        have ne_t_849_a856 : t_849 ≠ a856 := Nat.ne_of_lt (Nat.lt_of_lt_of_le A_t_849.lt (Nat.le_of_eq g_a856))
        have nw_a856 : h0.size ≤ a856 := Nat.le_trans K.1 (Nat.le_of_eq g_a856)
        replace E_a841 := E_a841.ext E855
        replace F_a841_narrow := F_a841_narrow.ext E855
        replace F_a841_bits := F_a841_bits.ext E855
        replace A_t_849 := A_t_849.ext E855
        replace K := K.ext E855
        have F_a856_product : Fld Z h854 a856 "com/example/throng/throng/engine/Count$Array" "product" "[J" .null := D857 (Or.inr (hw _ (List.mem_of_getElem? (i := 11) rfl))) (ty := (.array .long)) (by decide)
        have F_a856_narrow : Fld Z h854 a856 "com/example/throng/throng/engine/Count$Array" "narrow" "Z" (.int 0) := D857 (Or.inr (hw _ (List.mem_of_getElem? (i := 13) rfl))) (ty := .boolean) (by decide)
        have F_a856_bits : Fld Z h854 a856 "com/example/throng/throng/engine/Count$Array" "bits" "[J" .null := D857 (Or.inr (hw _ (List.mem_of_getElem? (i := 15) rfl))) (ty := (.array .long)) (by decide)
        refine own_dup (pc' := 46) w853 own_d13_45 rfl rfl ?_
        refine own_iconst (pc' := 47) w853 own_d13_46 (x := (2 : Int32)) rfl rfl ?_
        refine own_iload (pc' := 49) w853 own_d13_47 rfl rfl ?_
        refine own_callI (pc' := 52) w853 rfl (hw _ (List.mem_of_getElem? (i := 3) rfl)) (hw _ (List.mem_of_getElem? (i := 4) rfl)) (hw _ (List.mem_of_getElem? (i := 2) rfl)) (hw _ (List.mem_of_getElem? (i := 5) rfl)) (by decide) (own_ct_aInitN l Z a0 hw EL hE n0 [] h854 (own_old w853) a856 .null (.int 0) .null E_a856 F_a856_product F_a856_narrow F_a856_bits) (allS (P := fun x => x ∈ _) (by simp) all0) (argsL := [(.int (2 : Int32)), (.int (1 : Int32))]) (rest := [(.ref a856)]) rfl rfl own_pd5 rfl own_d13_49 rfl (by decide) (W := 1) rfl (by decide) (by decide) (by decide) fun T858 h860 v861 ms862 w859 q863 => ?_
        obtain ⟨K866, t_864, kt_865, rfl, rfl, nw_E_a856, nw_F_a856_narrow, nw_F_a856_bits, nw_A_t_864, p49_aInitN_0⟩ := q863
        have ne_a841_t_864 : a841 ≠ t_864 := Nat.ne_of_lt (Nat.lt_of_lt_of_le E_a841.lt p49_aInitN_0)
        have ne_a856_t_864 : a856 ≠ t_864 := Nat.ne_of_lt (Nat.lt_of_lt_of_le E_a856.lt p49_aInitN_0)
        have ne_t_849_t_864 : t_849 ≠ t_864 := Nat.ne_of_lt (Nat.lt_of_lt_of_le A_t_849.lt p49_aInitN_0)
        have nw_t_864 : h0.size ≤ t_864 := Nat.le_trans K.1 p49_aInitN_0
        replace E_a841 := E_a841.keep K866
        replace F_a841_narrow := F_a841_narrow.keep K866 (ninS ne_a841_a856 nin0)
        replace F_a841_bits := F_a841_bits.keep K866 (ninS ne_a841_a856 nin0)
        replace A_t_849 := A_t_849.keep K866 (ninS ne_t_849_a856 nin0)
        replace K := K.trans K866 (allS (P := fun x => x ∈ ([] : List Addr) ∨ h0.size ≤ x) (Or.inr nw_a856) all0)
        have E_a856 := nw_E_a856; clear nw_E_a856
        have F_a856_narrow := nw_F_a856_narrow; clear nw_F_a856_narrow
        have F_a856_bits := nw_F_a856_bits; clear nw_F_a856_bits
        have A_t_864 := nw_A_t_864; clear nw_A_t_864
        show own_Go Z EL n0 p e below s _ _ _ (T858.setTop (mkF m 52 #[.val (.long a), .second, .val (.long b), .second, .val (.long cc), .second, .val (.long ee), .second, .val (.int sel), .val (.int (1 : Int32)), .val (.int (1 : Int32)), .val (.int (1 : Int32)), .val (.ref a841), .unset, .unset, .unset] [(.ref a856)]))
        refine own_astore (pc' := 54) w859 own_d13_52 rfl (Ls' := #[.val (.long a), .second, .val (.long b), .second, .val (.long cc), .second, .val (.long ee), .second, .val (.int sel), .val (.int (1 : Int32)), .val (.int (1 : Int32)), .val (.int (1 : Int32)), .val (.ref a841), .val (.ref a856), .unset, .unset]) rfl rfl ?_
        refine own_lloadN (pc' := 55) w859 own_d13_54 rfl rfl ?_
        refine own_callS (pc' := 58) w859 (hw _ (List.mem_of_getElem? (i := 16) rfl)) (hw _ (List.mem_of_getElem? (i := 17) rfl)) (hw _ (List.mem_of_getElem? (i := 18) rfl)) (hw _ (List.mem_of_getElem? (i := 19) rfl)) (by decide) (own_ct_cOf l Z a0 hw EL hE n0 [] h860 (own_old w859) a ) all0 (argsL := [(.long a)]) (rest := []) rfl rfl own_pd4 rfl own_d13_55 rfl (by decide) (W := 0) rfl (by decide) (by decide) (by decide) fun T867 h869 v870 ms871 w868 q872 => ?_
        obtain ⟨K874, r_873, rfl, rfl, nw_E_r_873, nw_F_r_873_low, nw_F_r_873_high, p55_cOf_0⟩ := q872
        have ne_a841_r_873 : a841 ≠ r_873 := Nat.ne_of_lt (Nat.lt_of_lt_of_le E_a841.lt p55_cOf_0)
        have ne_a856_r_873 : a856 ≠ r_873 := Nat.ne_of_lt (Nat.lt_of_lt_of_le E_a856.lt p55_cOf_0)
        have ne_t_849_r_873 : t_849 ≠ r_873 := Nat.ne_of_lt (Nat.lt_of_lt_of_le A_t_849.lt p55_cOf_0)
        have ne_t_864_r_873 : t_864 ≠ r_873 := Nat.ne_of_lt (Nat.lt_of_lt_of_le A_t_864.lt p55_cOf_0)
        have nw_r_873 : h0.size ≤ r_873 := Nat.le_trans K.1 p55_cOf_0
        replace E_a841 := E_a841.keep K874
        replace F_a841_narrow := F_a841_narrow.keep K874 nin0
        replace F_a841_bits := F_a841_bits.keep K874 nin0
        replace A_t_849 := A_t_849.keep K874 nin0
        replace E_a856 := E_a856.keep K874
        replace F_a856_narrow := F_a856_narrow.keep K874 nin0
        replace F_a856_bits := F_a856_bits.keep K874 nin0
        replace A_t_864 := A_t_864.keep K874 nin0
        replace K := K.trans K874 all0
        have E_r_873 := nw_E_r_873; clear nw_E_r_873
        have F_r_873_low := nw_F_r_873_low; clear nw_F_r_873_low
        have F_r_873_high := nw_F_r_873_high; clear nw_F_r_873_high
        show own_Go Z EL n0 p e below s _ _ _ (T867.setTop (mkF m 58 #[.val (.long a), .second, .val (.long b), .second, .val (.long cc), .second, .val (.long ee), .second, .val (.int sel), .val (.int (1 : Int32)), .val (.int (1 : Int32)), .val (.int (1 : Int32)), .val (.ref a841), .val (.ref a856), .unset, .unset] [(.ref r_873)]))
        refine own_lloadN (pc' := 59) w868 own_d13_58 rfl rfl ?_
        refine own_callS (pc' := 62) w868 (hw _ (List.mem_of_getElem? (i := 16) rfl)) (hw _ (List.mem_of_getElem? (i := 17) rfl)) (hw _ (List.mem_of_getElem? (i := 18) rfl)) (hw _ (List.mem_of_getElem? (i := 19) rfl)) (by decide) (own_ct_cOf l Z a0 hw EL hE n0 [] h869 (own_old w868) b ) all0 (argsL := [(.long b)]) (rest := [(.ref r_873)]) rfl rfl own_pd4 rfl own_d13_59 rfl (by decide) (W := 1) rfl (by decide) (by decide) (by decide) fun T875 h877 v878 ms879 w876 q880 => ?_
        obtain ⟨K882, r_881, rfl, rfl, nw_E_r_881, nw_F_r_881_low, nw_F_r_881_high, p59_cOf_0⟩ := q880
        have ne_a841_r_881 : a841 ≠ r_881 := Nat.ne_of_lt (Nat.lt_of_lt_of_le E_a841.lt p59_cOf_0)
        have ne_a856_r_881 : a856 ≠ r_881 := Nat.ne_of_lt (Nat.lt_of_lt_of_le E_a856.lt p59_cOf_0)
        have ne_r_873_r_881 : r_873 ≠ r_881 := Nat.ne_of_lt (Nat.lt_of_lt_of_le E_r_873.lt p59_cOf_0)
        have ne_t_849_r_881 : t_849 ≠ r_881 := Nat.ne_of_lt (Nat.lt_of_lt_of_le A_t_849.lt p59_cOf_0)
        have ne_t_864_r_881 : t_864 ≠ r_881 := Nat.ne_of_lt (Nat.lt_of_lt_of_le A_t_864.lt p59_cOf_0)
        have nw_r_881 : h0.size ≤ r_881 := Nat.le_trans K.1 p59_cOf_0
        replace E_a841 := E_a841.keep K882
        replace F_a841_narrow := F_a841_narrow.keep K882 nin0
        replace F_a841_bits := F_a841_bits.keep K882 nin0
        replace A_t_849 := A_t_849.keep K882 nin0
        replace E_a856 := E_a856.keep K882
        replace F_a856_narrow := F_a856_narrow.keep K882 nin0
        replace F_a856_bits := F_a856_bits.keep K882 nin0
        replace A_t_864 := A_t_864.keep K882 nin0
        replace E_r_873 := E_r_873.keep K882
        replace F_r_873_low := F_r_873_low.keep K882 nin0
        replace F_r_873_high := F_r_873_high.keep K882 nin0
        replace K := K.trans K882 all0
        have E_r_881 := nw_E_r_881; clear nw_E_r_881
        have F_r_881_low := nw_F_r_881_low; clear nw_F_r_881_low
        have F_r_881_high := nw_F_r_881_high; clear nw_F_r_881_high
        show own_Go Z EL n0 p e below s _ _ _ (T875.setTop (mkF m 62 #[.val (.long a), .second, .val (.long b), .second, .val (.long cc), .second, .val (.long ee), .second, .val (.int sel), .val (.int (1 : Int32)), .val (.int (1 : Int32)), .val (.int (1 : Int32)), .val (.ref a841), .val (.ref a856), .unset, .unset] [(.ref r_881), (.ref r_873)]))
        refine own_callV (pc' := 65) w876 (hw _ (List.mem_of_getElem? (i := 30) rfl)) (hw _ (List.mem_of_getElem? (i := 31) rfl)) (fun s' hZ' => notFace_of_selects (args := #[]) (mvT hZ' (hw _ (List.mem_of_getElem? (i := 33) rfl)))) (hw _ (List.mem_of_getElem? (i := 33) rfl)) (hw _ (List.mem_of_getElem? (i := 32) rfl)) (hw _ (List.mem_of_getElem? (i := 18) rfl)) (hw _ (List.mem_of_getElem? (i := 34) rfl)) (by decide) E_r_873 (own_ct_times l Z a0 hw EL hE n0 [] h877 (own_old w876) r_873 r_881 a b F_r_873_low F_r_873_high F_r_881_low F_r_881_high) all0 (argsL := [(.ref r_881)]) (rest := []) rfl rfl own_pd6 rfl own_d13_62 rfl (by decide) (W := 0) rfl (by decide) (by decide) (by decide) fun T883 h885 v886 ms887 w884 q888 => ?_
        obtain ⟨K890, r_889, rfl, rfl, nw_E_r_889, nw_F_r_889_low, nw_F_r_889_high, p62_times_0⟩ := q888
        have ne_a841_r_889 : a841 ≠ r_889 := Nat.ne_of_lt (Nat.lt_of_lt_of_le E_a841.lt p62_times_0)
        have ne_a856_r_889 : a856 ≠ r_889 := Nat.ne_of_lt (Nat.lt_of_lt_of_le E_a856.lt p62_times_0)
        have ne_r_873_r_889 : r_873 ≠ r_889 := Nat.ne_of_lt (Nat.lt_of_lt_of_le E_r_873.lt p62_times_0)
        have ne_r_881_r_889 : r_881 ≠ r_889 := Nat.ne_of_lt (Nat.lt_of_lt_of_le E_r_881.lt p62_times_0)
        have ne_t_849_r_889 : t_849 ≠ r_889 := Nat.ne_of_lt (Nat.lt_of_lt_of_le A_t_849.lt p62_times_0)
        have ne_t_864_r_889 : t_864 ≠ r_889 := Nat.ne_of_lt (Nat.lt_of_lt_of_le A_t_864.lt p62_times_0)
        have nw_r_889 : h0.size ≤ r_889 := Nat.le_trans K.1 p62_times_0
        replace E_a841 := E_a841.keep K890
        replace F_a841_narrow := F_a841_narrow.keep K890 nin0
        replace F_a841_bits := F_a841_bits.keep K890 nin0
        replace A_t_849 := A_t_849.keep K890 nin0
        replace E_a856 := E_a856.keep K890
        replace F_a856_narrow := F_a856_narrow.keep K890 nin0
        replace F_a856_bits := F_a856_bits.keep K890 nin0
        replace A_t_864 := A_t_864.keep K890 nin0
        replace E_r_873 := E_r_873.keep K890
        replace F_r_873_low := F_r_873_low.keep K890 nin0
        replace F_r_873_high := F_r_873_high.keep K890 nin0
        replace E_r_881 := E_r_881.keep K890
        replace F_r_881_low := F_r_881_low.keep K890 nin0
        replace F_r_881_high := F_r_881_high.keep K890 nin0
        replace K := K.trans K890 all0
        have E_r_889 := nw_E_r_889; clear nw_E_r_889
        have F_r_889_low := nw_F_r_889_low; clear nw_F_r_889_low
        have F_r_889_high := nw_F_r_889_high; clear nw_F_r_889_high
        show own_Go Z EL n0 p e below s _ _ _ (T883.setTop (mkF m 65 #[.val (.long a), .second, .val (.long b), .second, .val (.long cc), .second, .val (.long ee), .second, .val (.int sel), .val (.int (1 : Int32)), .val (.int (1 : Int32)), .val (.int (1 : Int32)), .val (.ref a841), .val (.ref a856), .unset, .unset] [(.ref r_889)]))
        refine own_astore (pc' := 67) w884 own_d13_65 rfl (Ls' := #[.val (.long a), .second, .val (.long b), .second, .val (.long cc), .second, .val (.long ee), .second, .val (.int sel), .val (.int (1 : Int32)), .val (.int (1 : Int32)), .val (.int (1 : Int32)), .val (.ref a841), .val (.ref a856), .val (.ref r_889), .unset]) rfl rfl ?_
        refine own_aload (pc' := 69) w884 own_d13_67 rfl rfl rfl ?_
        refine own_iload (pc' := 71) w884 own_d13_69 rfl rfl ?_
        refine own_aload (pc' := 73) w884 own_d13_71 rfl rfl rfl ?_
        refine own_callV (pc' := 76) w884 (hw _ (List.mem_of_getElem? (i := 43) rfl)) (hw _ (List.mem_of_getElem? (i := 44) rfl)) (fun s' hZ' => notFace_of_selects (args := #[]) (mvT hZ' (hw _ (List.mem_of_getElem? (i := 46) rfl)))) (hw _ (List.mem_of_getElem? (i := 46) rfl)) (hw _ (List.mem_of_getElem? (i := 45) rfl)) (hw _ (List.mem_of_getElem? (i := 2) rfl)) (hw _ (List.mem_of_getElem? (i := 47) rfl)) (by decide) E_a841 (own_ct_setCN1 l Z a0 hw EL hE n0 [] h885 (own_old w884) a841 r_889 t_849 kt_850 (own_mh a b) (a * b) 0 0 F_a841_narrow F_a841_bits A_t_849 F_r_889_low F_r_889_high ne_a841_t_849 (Ne.symm ne_t_849_r_889)) (allS (P := fun x => x ∈ _) (by simp) all0) (argsL := [(.int (1 : Int32)), (.ref r_889)]) (rest := []) rfl rfl own_pd7 rfl own_d13_73 rfl (by decide) (W := 0) rfl (by decide) (by decide) (by decide) fun T891 h893 v894 ms895 w892 q896 => ?_
        obtain ⟨K897, rfl, rfl, nw_A_t_849⟩ := q896
        replace E_a841 := E_a841.keep K897
        replace F_a841_narrow := F_a841_narrow.keep K897 (ninS ne_a841_t_849 nin0)
        replace F_a841_bits := F_a841_bits.keep K897 (ninS ne_a841_t_849 nin0)
        replace E_a856 := E_a856.keep K897
        replace F_a856_narrow := F_a856_narrow.keep K897 (ninS (Ne.symm ne_t_849_a856) nin0)
        replace F_a856_bits := F_a856_bits.keep K897 (ninS (Ne.symm ne_t_849_a856) nin0)
        replace A_t_864 := A_t_864.keep K897 (ninS (Ne.symm ne_t_849_t_864) nin0)
        replace E_r_873 := E_r_873.keep K897
        replace F_r_873_low := F_r_873_low.keep K897 (ninS (Ne.symm ne_t_849_r_873) nin0)
        replace F_r_873_high := F_r_873_high.keep K897 (ninS (Ne.symm ne_t_849_r_873) nin0)
        replace E_r_881 := E_r_881.keep K897
        replace F_r_881_low := F_r_881_low.keep K897 (ninS (Ne.symm ne_t_849_r_881) nin0)
        replace F_r_881_high := F_r_881_high.keep K897 (ninS (Ne.symm ne_t_849_r_881) nin0)
        replace E_r_889 := E_r_889.keep K897
        replace F_r_889_low := F_r_889_low.keep K897 (ninS (Ne.symm ne_t_849_r_889) nin0)
        replace F_r_889_high := F_r_889_high.keep K897 (ninS (Ne.symm ne_t_849_r_889) nin0)
        replace K := K.trans K897 (allS (P := fun x => x ∈ ([] : List Addr) ∨ h0.size ≤ x) (Or.inr nw_t_849) all0)
        have A_t_849 := nw_A_t_849; clear nw_A_t_849
        show own_Go Z EL n0 p e below s _ _ _ (T891.setTop (mkF m 76 #[.val (.long a), .second, .val (.long b), .second, .val (.long cc), .second, .val (.long ee), .second, .val (.int sel), .val (.int (1 : Int32)), .val (.int (1 : Int32)), .val (.int (1 : Int32)), .val (.ref a841), .val (.ref a856), .val (.ref r_889), .unset] []))
        refine own_aload (pc' := 78) w892 own_d13_76 rfl rfl rfl ?_
        refine own_iconst (pc' := 79) w892 own_d13_78 (x := (1 : Int32)) rfl rfl ?_
        refine own_iload (pc' := 81) w892 own_d13_79 rfl rfl ?_
        refine own_isub (pc' := 82) w892 own_d13_81 (z := (0 : Int32)) (by decide) rfl ?_
        refine own_lload (pc' := 84) w892 own_d13_82 rfl rfl ?_
        refine own_callV (pc' := 87) w892 (hw _ (List.mem_of_getElem? (i := 49) rfl)) (hw _ (List.mem_of_getElem? (i := 50) rfl)) (fun s' hZ' => notFace_of_selects (args := #[]) (mvT hZ' (hw _ (List.mem_of_getElem? (i := 52) rfl)))) (hw _ (List.mem_of_getElem? (i := 52) rfl)) (hw _ (List.mem_of_getElem? (i := 51) rfl)) (hw _ (List.mem_of_getElem? (i := 2) rfl)) (hw _ (List.mem_of_getElem? (i := 53) rfl)) (by decide) E_a841 (own_ct_setJN0 l Z a0 hw EL hE n0 [] h893 (own_old w892) a841 ee t_849 kt_850 0 (a * b) F_a841_narrow F_a841_bits A_t_849 ne_a841_t_849) (allS (P := fun x => x ∈ _) (by simp) all0) (argsL := [(.int (0 : Int32)), (.long ee)]) (rest := []) rfl rfl own_pd8 rfl own_d13_84 rfl (by decide) (W := 0) rfl (by decide) (by decide) (by decide) fun T898 h900 v901 ms902 w899 q903 => ?_
        obtain ⟨K904, rfl, rfl, nw_A_t_849⟩ := q903
        replace E_a841 := E_a841.keep K904
        replace F_a841_narrow := F_a841_narrow.keep K904 (ninS ne_a841_t_849 nin0)
        replace F_a841_bits := F_a841_bits.keep K904 (ninS ne_a841_t_849 nin0)
        replace E_a856 := E_a856.keep K904
        replace F_a856_narrow := F_a856_narrow.keep K904 (ninS (Ne.symm ne_t_849_a856) nin0)
        replace F_a856_bits := F_a856_bits.keep K904 (ninS (Ne.symm ne_t_849_a856) nin0)
        replace A_t_864 := A_t_864.keep K904 (ninS (Ne.symm ne_t_849_t_864) nin0)
        replace E_r_873 := E_r_873.keep K904
        replace F_r_873_low := F_r_873_low.keep K904 (ninS (Ne.symm ne_t_849_r_873) nin0)
        replace F_r_873_high := F_r_873_high.keep K904 (ninS (Ne.symm ne_t_849_r_873) nin0)
        replace E_r_881 := E_r_881.keep K904
        replace F_r_881_low := F_r_881_low.keep K904 (ninS (Ne.symm ne_t_849_r_881) nin0)
        replace F_r_881_high := F_r_881_high.keep K904 (ninS (Ne.symm ne_t_849_r_881) nin0)
        replace E_r_889 := E_r_889.keep K904
        replace F_r_889_low := F_r_889_low.keep K904 (ninS (Ne.symm ne_t_849_r_889) nin0)
        replace F_r_889_high := F_r_889_high.keep K904 (ninS (Ne.symm ne_t_849_r_889) nin0)
        replace K := K.trans K904 (allS (P := fun x => x ∈ ([] : List Addr) ∨ h0.size ≤ x) (Or.inr nw_t_849) all0)
        have A_t_849 := nw_A_t_849; clear nw_A_t_849
        show own_Go Z EL n0 p e below s _ _ _ (T898.setTop (mkF m 87 #[.val (.long a), .second, .val (.long b), .second, .val (.long cc), .second, .val (.long ee), .second, .val (.int sel), .val (.int (1 : Int32)), .val (.int (1 : Int32)), .val (.int (1 : Int32)), .val (.ref a841), .val (.ref a856), .val (.ref r_889), .unset] []))
        refine own_aload (pc' := 89) w899 own_d13_87 rfl rfl rfl ?_
        refine own_iload (pc' := 91) w899 own_d13_89 rfl rfl ?_
        refine own_lload (pc' := 93) w899 own_d13_91 rfl rfl ?_
        refine own_callV (pc' := 96) w899 (hw _ (List.mem_of_getElem? (i := 49) rfl)) (hw _ (List.mem_of_getElem? (i := 50) rfl)) (fun s' hZ' => notFace_of_selects (args := #[]) (mvT hZ' (hw _ (List.mem_of_getElem? (i := 52) rfl)))) (hw _ (List.mem_of_getElem? (i := 52) rfl)) (hw _ (List.mem_of_getElem? (i := 51) rfl)) (hw _ (List.mem_of_getElem? (i := 2) rfl)) (hw _ (List.mem_of_getElem? (i := 53) rfl)) (by decide) E_a856 (own_ct_setJN1 l Z a0 hw EL hE n0 [] h900 (own_old w899) a856 cc t_864 kt_865 0 0 F_a856_narrow F_a856_bits A_t_864 ne_a856_t_864) (allS (P := fun x => x ∈ _) (by simp) all0) (argsL := [(.int (1 : Int32)), (.long cc)]) (rest := []) rfl rfl own_pd8 rfl own_d13_93 rfl (by decide) (W := 0) rfl (by decide) (by decide) (by decide) fun T905 h907 v908 ms909 w906 q910 => ?_
        obtain ⟨K911, rfl, rfl, nw_A_t_864⟩ := q910
        replace E_a841 := E_a841.keep K911
        replace F_a841_narrow := F_a841_narrow.keep K911 (ninS ne_a841_t_864 nin0)
        replace F_a841_bits := F_a841_bits.keep K911 (ninS ne_a841_t_864 nin0)
        replace E_a856 := E_a856.keep K911
        replace F_a856_narrow := F_a856_narrow.keep K911 (ninS ne_a856_t_864 nin0)
        replace F_a856_bits := F_a856_bits.keep K911 (ninS ne_a856_t_864 nin0)
        replace E_r_873 := E_r_873.keep K911
        replace F_r_873_low := F_r_873_low.keep K911 (ninS (Ne.symm ne_t_864_r_873) nin0)
        replace F_r_873_high := F_r_873_high.keep K911 (ninS (Ne.symm ne_t_864_r_873) nin0)
        replace E_r_881 := E_r_881.keep K911
        replace F_r_881_low := F_r_881_low.keep K911 (ninS (Ne.symm ne_t_864_r_881) nin0)
        replace F_r_881_high := F_r_881_high.keep K911 (ninS (Ne.symm ne_t_864_r_881) nin0)
        replace E_r_889 := E_r_889.keep K911
        replace F_r_889_low := F_r_889_low.keep K911 (ninS (Ne.symm ne_t_864_r_889) nin0)
        replace F_r_889_high := F_r_889_high.keep K911 (ninS (Ne.symm ne_t_864_r_889) nin0)
        replace A_t_849 := A_t_849.keep K911 (ninS ne_t_849_t_864 nin0)
        replace K := K.trans K911 (allS (P := fun x => x ∈ ([] : List Addr) ∨ h0.size ≤ x) (Or.inr nw_t_864) all0)
        have A_t_864 := nw_A_t_864; clear nw_A_t_864
        show own_Go Z EL n0 p e below s _ _ _ (T905.setTop (mkF m 96 #[.val (.long a), .second, .val (.long b), .second, .val (.long cc), .second, .val (.long ee), .second, .val (.int sel), .val (.int (1 : Int32)), .val (.int (1 : Int32)), .val (.int (1 : Int32)), .val (.ref a841), .val (.ref a856), .val (.ref r_889), .unset] []))
        refine own_aload (pc' := 98) w906 own_d13_96 rfl rfl rfl ?_
        refine own_iload (pc' := 100) w906 own_d13_98 rfl rfl ?_
        refine own_aload (pc' := 102) w906 own_d13_100 rfl rfl rfl ?_
        refine own_iload (pc' := 104) w906 own_d13_102 rfl rfl ?_
        refine own_callV (pc' := 107) w906 (hw _ (List.mem_of_getElem? (i := 54) rfl)) (hw _ (List.mem_of_getElem? (i := 55) rfl)) (fun s' hZ' => notFace_of_selects (args := #[]) (mvT hZ' (hw _ (List.mem_of_getElem? (i := 57) rfl)))) (hw _ (List.mem_of_getElem? (i := 57) rfl)) (hw _ (List.mem_of_getElem? (i := 56) rfl)) (hw _ (List.mem_of_getElem? (i := 2) rfl)) (hw _ (List.mem_of_getElem? (i := 58) rfl)) (by decide) E_a856 (own_ct_setAN11 l Z a0 hw EL hE n0 [] h907 (own_old w906) a856 a841 t_864 kt_865 t_849 kt_850 0 cc ee (a * b) F_a856_narrow F_a856_bits A_t_864 F_a841_bits A_t_849 ne_a856_t_864 ne_a841_t_864 ne_t_849_t_864) (allS (P := fun x => x ∈ _) (by simp) all0) (argsL := [(.int (1 : Int32)), (.ref a841), (.int (1 : Int32))]) (rest := []) rfl rfl own_pd9 rfl own_d13_104 rfl (by decide) (W := 0) rfl (by decide) (by decide) (by decide) fun T912 h914 v915 ms916 w913 q917 => ?_
        obtain ⟨K918, rfl, rfl, nw_A_t_864⟩ := q917
        replace E_a841 := E_a841.keep K918
        replace F_a841_narrow := F_a841_narrow.keep K918 (ninS ne_a841_t_864 nin0)
        replace F_a841_bits := F_a841_bits.keep K918 (ninS ne_a841_t_864 nin0)
        replace E_a856 := E_a856.keep K918
        replace F_a856_narrow := F_a856_narrow.keep K918 (ninS ne_a856_t_864 nin0)
        replace F_a856_bits := F_a856_bits.keep K918 (ninS ne_a856_t_864 nin0)
        replace E_r_873 := E_r_873.keep K918
        replace F_r_873_low := F_r_873_low.keep K918 (ninS (Ne.symm ne_t_864_r_873) nin0)
        replace F_r_873_high := F_r_873_high.keep K918 (ninS (Ne.symm ne_t_864_r_873) nin0)
        replace E_r_881 := E_r_881.keep K918
        replace F_r_881_low := F_r_881_low.keep K918 (ninS (Ne.symm ne_t_864_r_881) nin0)
        replace F_r_881_high := F_r_881_high.keep K918 (ninS (Ne.symm ne_t_864_r_881) nin0)
        replace E_r_889 := E_r_889.keep K918
        replace F_r_889_low := F_r_889_low.keep K918 (ninS (Ne.symm ne_t_864_r_889) nin0)
        replace F_r_889_high := F_r_889_high.keep K918 (ninS (Ne.symm ne_t_864_r_889) nin0)
        replace A_t_849 := A_t_849.keep K918 (ninS ne_t_849_t_864 nin0)
        replace K := K.trans K918 (allS (P := fun x => x ∈ ([] : List Addr) ∨ h0.size ≤ x) (Or.inr nw_t_864) all0)
        have A_t_864 := nw_A_t_864; clear nw_A_t_864
        show own_Go Z EL n0 p e below s _ _ _ (T912.setTop (mkF m 107 #[.val (.long a), .second, .val (.long b), .second, .val (.long cc), .second, .val (.long ee), .second, .val (.int sel), .val (.int (1 : Int32)), .val (.int (1 : Int32)), .val (.int (1 : Int32)), .val (.ref a841), .val (.ref a856), .val (.ref r_889), .unset] []))
        refine own_iload (pc' := 109) w913 own_d13_107 rfl rfl ?_
        refine own_if (pc' := 112) w913 own_d13_109 rfl (by decide) (pcY := 121) rfl (fun (hb109 : (1 : Int32) = (0 : Int32)) => absurd hb109 (by decide)) (fun (hb109 : ¬ (1 : Int32) = (0 : Int32)) => ?_)
        refine own_lloadN (pc' := 113) w913 own_d13_112 rfl rfl ?_
        refine own_lloadN (pc' := 114) w913 own_d13_113 rfl rfl ?_
        refine own_lmul (pc' := 115) w913 own_d13_114 (z := (a * b)) rfl rfl ?_
        refine own_callS (pc' := 118) w913 (hw _ (List.mem_of_getElem? (i := 16) rfl)) (hw _ (List.mem_of_getElem? (i := 17) rfl)) (hw _ (List.mem_of_getElem? (i := 18) rfl)) (hw _ (List.mem_of_getElem? (i := 19) rfl)) (by decide) (own_ct_cOf l Z a0 hw EL hE n0 [] h914 (own_old w913) (a * b) ) all0 (argsL := [(.long (a * b))]) (rest := []) rfl rfl own_pd4 rfl own_d13_115 rfl (by decide) (W := 0) rfl (by decide) (by decide) (by decide) fun T919 h921 v922 ms923 w920 q924 => ?_
        obtain ⟨K926, r_925, rfl, rfl, nw_E_r_925, nw_F_r_925_low, nw_F_r_925_high, p115_cOf_0⟩ := q924
        have ne_a841_r_925 : a841 ≠ r_925 := Nat.ne_of_lt (Nat.lt_of_lt_of_le E_a841.lt p115_cOf_0)
        have ne_a856_r_925 : a856 ≠ r_925 := Nat.ne_of_lt (Nat.lt_of_lt_of_le E_a856.lt p115_cOf_0)
        have ne_r_873_r_925 : r_873 ≠ r_925 := Nat.ne_of_lt (Nat.lt_of_lt_of_le E_r_873.lt p115_cOf_0)
        have ne_r_881_r_925 : r_881 ≠ r_925 := Nat.ne_of_lt (Nat.lt_of_lt_of_le E_r_881.lt p115_cOf_0)
        have ne_r_889_r_925 : r_889 ≠ r_925 := Nat.ne_of_lt (Nat.lt_of_lt_of_le E_r_889.lt p115_cOf_0)
        have ne_t_849_r_925 : t_849 ≠ r_925 := Nat.ne_of_lt (Nat.lt_of_lt_of_le A_t_849.lt p115_cOf_0)
        have ne_t_864_r_925 : t_864 ≠ r_925 := Nat.ne_of_lt (Nat.lt_of_lt_of_le A_t_864.lt p115_cOf_0)
        have nw_r_925 : h0.size ≤ r_925 := Nat.le_trans K.1 p115_cOf_0
        replace E_a841 := E_a841.keep K926
        replace F_a841_narrow := F_a841_narrow.keep K926 nin0
        replace F_a841_bits := F_a841_bits.keep K926 nin0
        replace E_a856 := E_a856.keep K926
        replace F_a856_narrow := F_a856_narrow.keep K926 nin0
        replace F_a856_bits := F_a856_bits.keep K926 nin0
        replace E_r_873 := E_r_873.keep K926
        replace F_r_873_low := F_r_873_low.keep K926 nin0
        replace F_r_873_high := F_r_873_high.keep K926 nin0
        replace E_r_881 := E_r_881.keep K926
        replace F_r_881_low := F_r_881_low.keep K926 nin0
        replace F_r_881_high := F_r_881_high.keep K926 nin0
        replace E_r_889 := E_r_889.keep K926
        replace F_r_889_low := F_r_889_low.keep K926 nin0
        replace F_r_889_high := F_r_889_high.keep K926 nin0
        replace A_t_849 := A_t_849.keep K926 nin0
        replace A_t_864 := A_t_864.keep K926 nin0
        replace K := K.trans K926 all0
        have E_r_925 := nw_E_r_925; clear nw_E_r_925
        have F_r_925_low := nw_F_r_925_low; clear nw_F_r_925_low
        have F_r_925_high := nw_F_r_925_high; clear nw_F_r_925_high
        show own_Go Z EL n0 p e below s _ _ _ (T919.setTop (mkF m 118 #[.val (.long a), .second, .val (.long b), .second, .val (.long cc), .second, .val (.long ee), .second, .val (.int sel), .val (.int (1 : Int32)), .val (.int (1 : Int32)), .val (.int (1 : Int32)), .val (.ref a841), .val (.ref a856), .val (.ref r_889), .unset] [(.ref r_925)]))
        refine own_goto w920 own_d13_118 (by decide) (pc' := 123) rfl ?_
        refine own_astore (pc' := 125) w920 own_d13_123 rfl (Ls' := #[.val (.long a), .second, .val (.long b), .second, .val (.long cc), .second, .val (.long ee), .second, .val (.int sel), .val (.int (1 : Int32)), .val (.int (1 : Int32)), .val (.int (1 : Int32)), .val (.ref a841), .val (.ref a856), .val (.ref r_889), .val (.ref r_925)]) rfl rfl ?_
        refine own_aload (pc' := 127) w920 own_d13_125 rfl rfl rfl ?_
        refine own_iload (pc' := 129) w920 own_d13_127 rfl rfl ?_
        refine own_callV (pc' := 132) w920 (hw _ (List.mem_of_getElem? (i := 59) rfl)) (hw _ (List.mem_of_getElem? (i := 60) rfl)) (fun s' hZ' => notFace_of_selects (args := #[]) (mvT hZ' (hw _ (List.mem_of_getElem? (i := 62) rfl)))) (hw _ (List.mem_of_getElem? (i := 62) rfl)) (hw _ (List.mem_of_getElem? (i := 61) rfl)) (hw _ (List.mem_of_getElem? (i := 2) rfl)) (hw _ (List.mem_of_getElem? (i := 63) rfl)) (by decide) E_a856 (own_ct_getN1 l Z a0 hw EL hE n0 [] h921 (own_old w920) a856 t_864 kt_865 0 (a * b) F_a856_narrow F_a856_bits A_t_864) all0 (argsL := [(.int (1 : Int32))]) (rest := []) rfl rfl own_pd10 rfl own_d13_129 rfl (by decide) (W := 0) rfl (by decide) (by decide) (by decide) fun T927 h929 v930 ms931 w928 q932 => ?_
        obtain ⟨K934, r_933, rfl, rfl, nw_E_r_933, nw_F_r_933_low, nw_F_r_933_high, p129_getN1_0⟩ := q932
        have ne_a841_r_933 : a841 ≠ r_933 := Nat.ne_of_lt (Nat.lt_of_lt_of_le E_a841.lt p129_getN1_0)
        have ne_a856_r_933 : a856 ≠ r_933 := Nat.ne_of_lt (Nat.lt_of_lt_of_le E_a856.lt p129_getN1_0)
        have ne_r_873_r_933 : r_873 ≠ r_933 := Nat.ne_of_lt (Nat.lt_of_lt_of_le E_r_873.lt p129_getN1_0)
        have ne_r_881_r_933 : r_881 ≠ r_933 := Nat.ne_of_lt (Nat.lt_of_lt_of_le E_r_881.lt p129_getN1_0)
        have ne_r_889_r_933 : r_889 ≠ r_933 := Nat.ne_of_lt (Nat.lt_of_lt_of_le E_r_889.lt p129_getN1_0)
        have ne_r_925_r_933 : r_925 ≠ r_933 := Nat.ne_of_lt (Nat.lt_of_lt_of_le E_r_925.lt p129_getN1_0)
        have ne_t_849_r_933 : t_849 ≠ r_933 := Nat.ne_of_lt (Nat.lt_of_lt_of_le A_t_849.lt p129_getN1_0)
        have ne_t_864_r_933 : t_864 ≠ r_933 := Nat.ne_of_lt (Nat.lt_of_lt_of_le A_t_864.lt p129_getN1_0)
        have nw_r_933 : h0.size ≤ r_933 := Nat.le_trans K.1 p129_getN1_0
        replace E_a841 := E_a841.keep K934
        replace F_a841_narrow := F_a841_narrow.keep K934 nin0
        replace F_a841_bits := F_a841_bits.keep K934 nin0
        replace E_a856 := E_a856.keep K934
        replace F_a856_narrow := F_a856_narrow.keep K934 nin0
        replace F_a856_bits := F_a856_bits.keep K934 nin0
        replace E_r_873 := E_r_873.keep K934
        replace F_r_873_low := F_r_873_low.keep K934 nin0
        replace F_r_873_high := F_r_873_high.keep K934 nin0
        replace E_r_881 := E_r_881.keep K934
        replace F_r_881_low := F_r_881_low.keep K934 nin0
        replace F_r_881_high := F_r_881_high.keep K934 nin0
        replace E_r_889 := E_r_889.keep K934
        replace F_r_889_low := F_r_889_low.keep K934 nin0
        replace F_r_889_high := F_r_889_high.keep K934 nin0
        replace A_t_849 := A_t_849.keep K934 nin0
        replace A_t_864 := A_t_864.keep K934 nin0
        replace E_r_925 := E_r_925.keep K934
        replace F_r_925_low := F_r_925_low.keep K934 nin0
        replace F_r_925_high := F_r_925_high.keep K934 nin0
        replace K := K.trans K934 all0
        have E_r_933 := nw_E_r_933; clear nw_E_r_933
        have F_r_933_low := nw_F_r_933_low; clear nw_F_r_933_low
        have F_r_933_high := nw_F_r_933_high; clear nw_F_r_933_high
        show own_Go Z EL n0 p e below s _ _ _ (T927.setTop (mkF m 132 #[.val (.long a), .second, .val (.long b), .second, .val (.long cc), .second, .val (.long ee), .second, .val (.int sel), .val (.int (1 : Int32)), .val (.int (1 : Int32)), .val (.int (1 : Int32)), .val (.ref a841), .val (.ref a856), .val (.ref r_889), .val (.ref r_925)] [(.ref r_933)]))
        refine own_aload (pc' := 134) w928 own_d13_132 rfl rfl rfl ?_
        refine own_callV (pc' := 137) w928 (hw _ (List.mem_of_getElem? (i := 65) rfl)) (hw _ (List.mem_of_getElem? (i := 66) rfl)) (fun s' hZ' => notFace_of_selects (args := #[]) (mvT hZ' (hw _ (List.mem_of_getElem? (i := 68) rfl)))) (hw _ (List.mem_of_getElem? (i := 68) rfl)) (hw _ (List.mem_of_getElem? (i := 67) rfl)) (hw _ (List.mem_of_getElem? (i := 18) rfl)) (hw _ (List.mem_of_getElem? (i := 69) rfl)) (by decide) E_r_933 (own_ct_ceq l Z a0 hw EL hE n0 [] h929 (own_old w928) r_933 r_925 (own_sgn (a * b)) (a * b) F_r_933_low F_r_933_high E_r_925 F_r_925_low F_r_925_high) all0 (argsL := [(.ref r_925)]) (rest := []) rfl rfl own_pd11 rfl own_d13_134 rfl (by decide) (W := 0) rfl (by decide) (by decide) (by decide) fun T935 h937 v938 ms939 w936 q940 => ?_
        obtain ⟨rfl, rfl, rfl⟩ := q940
        show own_Go Z EL n0 p e below s _ _ _ (T935.setTop (mkF m 137 #[.val (.long a), .second, .val (.long b), .second, .val (.long cc), .second, .val (.long ee), .second, .val (.int sel), .val (.int (1 : Int32)), .val (.int (1 : Int32)), .val (.int (1 : Int32)), .val (.ref a841), .val (.ref a856), .val (.ref r_889), .val (.ref r_925)] [(.int (1 : Int32))]))
        refine own_if (pc' := 140) w936 own_d13_137 rfl (by decide) (pcY := 171) rfl (fun (hb137 : (1 : Int32) = (0 : Int32)) => absurd hb137 (by decide)) (fun (hb137 : ¬ (1 : Int32) = (0 : Int32)) => ?_)
        refine own_aload (pc' := 142) w936 own_d13_140 rfl rfl rfl ?_
        refine own_iconst (pc' := 143) w936 own_d13_142 (x := (1 : Int32)) rfl rfl ?_
        refine own_iload (pc' := 145) w936 own_d13_143 rfl rfl ?_
        refine own_isub (pc' := 146) w936 own_d13_145 (z := (0 : Int32)) (by decide) rfl ?_
        refine own_callV (pc' := 149) w936 (hw _ (List.mem_of_getElem? (i := 71) rfl)) (hw _ (List.mem_of_getElem? (i := 72) rfl)) (fun s' hZ' => notFace_of_selects (args := #[]) (mvT hZ' (hw _ (List.mem_of_getElem? (i := 74) rfl)))) (hw _ (List.mem_of_getElem? (i := 74) rfl)) (hw _ (List.mem_of_getElem? (i := 73) rfl)) (hw _ (List.mem_of_getElem? (i := 2) rfl)) (hw _ (List.mem_of_getElem? (i := 75) rfl)) (by decide) E_a856 (own_ct_sigN0 l Z a0 hw EL hE n0 [] h929 (own_old w936) a856 t_864 kt_865 (a * b) F_a856_narrow F_a856_bits A_t_864) all0 (argsL := [(.int (0 : Int32))]) (rest := []) rfl rfl own_pd12 rfl own_d13_146 rfl (by decide) (W := 0) rfl (by decide) (by decide) (by decide) fun T941 h943 v944 ms945 w942 q946 => ?_
        obtain ⟨rfl, rfl, rfl⟩ := q946
        show own_Go Z EL n0 p e below s _ _ _ (T941.setTop (mkF m 149 #[.val (.long a), .second, .val (.long b), .second, .val (.long cc), .second, .val (.long ee), .second, .val (.int sel), .val (.int (1 : Int32)), .val (.int (1 : Int32)), .val (.int (1 : Int32)), .val (.ref a841), .val (.ref a856), .val (.ref r_889), .val (.ref r_925)] [(.int (0 : Int32))]))
        refine own_if (pc' := 152) w942 own_d13_149 rfl (by decide) (pcY := 171) rfl (fun (hb149 : ¬ (0 : Int32) = (0 : Int32)) => absurd hb149 (by decide)) (fun (hb149 : (0 : Int32) = (0 : Int32)) => ?_)
        refine own_aload (pc' := 154) w942 own_d13_152 rfl rfl rfl ?_
        refine own_iload (pc' := 156) w942 own_d13_154 rfl rfl ?_
        refine own_callV (pc' := 159) w942 (hw _ (List.mem_of_getElem? (i := 59) rfl)) (hw _ (List.mem_of_getElem? (i := 60) rfl)) (fun s' hZ' => notFace_of_selects (args := #[]) (mvT hZ' (hw _ (List.mem_of_getElem? (i := 62) rfl)))) (hw _ (List.mem_of_getElem? (i := 62) rfl)) (hw _ (List.mem_of_getElem? (i := 61) rfl)) (hw _ (List.mem_of_getElem? (i := 2) rfl)) (hw _ (List.mem_of_getElem? (i := 63) rfl)) (by decide) E_a841 (own_ct_getN1 l Z a0 hw EL hE n0 [] h929 (own_old w942) a841 t_849 kt_850 ee (a * b) F_a841_narrow F_a841_bits A_t_849) all0 (argsL := [(.int (1 : Int32))]) (rest := []) rfl rfl own_pd10 rfl own_d13_156 rfl (by decide) (W := 0) rfl (by decide) (by decide) (by decide) fun T947 h949 v950 ms951 w948 q952 => ?_
        obtain ⟨K954, r_953, rfl, rfl, nw_E_r_953, nw_F_r_953_low, nw_F_r_953_high, p156_getN1_0⟩ := q952
        have ne_a841_r_953 : a841 ≠ r_953 := Nat.ne_of_lt (Nat.lt_of_lt_of_le E_a841.lt p156_getN1_0)
        have ne_a856_r_953 : a856 ≠ r_953 := Nat.ne_of_lt (Nat.lt_of_lt_of_le E_a856.lt p156_getN1_0)
        have ne_r_873_r_953 : r_873 ≠ r_953 := Nat.ne_of_lt (Nat.lt_of_lt_of_le E_r_873.lt p156_getN1_0)
        have ne_r_881_r_953 : r_881 ≠ r_953 := Nat.ne_of_lt (Nat.lt_of_lt_of_le E_r_881.lt p156_getN1_0)
        have ne_r_889_r_953 : r_889 ≠ r_953 := Nat.ne_of_lt (Nat.lt_of_lt_of_le E_r_889.lt p156_getN1_0)
        have ne_r_925_r_953 : r_925 ≠ r_953 := Nat.ne_of_lt (Nat.lt_of_lt_of_le E_r_925.lt p156_getN1_0)
        have ne_r_933_r_953 : r_933 ≠ r_953 := Nat.ne_of_lt (Nat.lt_of_lt_of_le E_r_933.lt p156_getN1_0)
        have ne_t_849_r_953 : t_849 ≠ r_953 := Nat.ne_of_lt (Nat.lt_of_lt_of_le A_t_849.lt p156_getN1_0)
        have ne_t_864_r_953 : t_864 ≠ r_953 := Nat.ne_of_lt (Nat.lt_of_lt_of_le A_t_864.lt p156_getN1_0)
        have nw_r_953 : h0.size ≤ r_953 := Nat.le_trans K.1 p156_getN1_0
        replace E_a841 := E_a841.keep K954
        replace F_a841_narrow := F_a841_narrow.keep K954 nin0
        replace F_a841_bits := F_a841_bits.keep K954 nin0
        replace E_a856 := E_a856.keep K954
        replace F_a856_narrow := F_a856_narrow.keep K954 nin0
        replace F_a856_bits := F_a856_bits.keep K954 nin0
        replace E_r_873 := E_r_873.keep K954
        replace F_r_873_low := F_r_873_low.keep K954 nin0
        replace F_r_873_high := F_r_873_high.keep K954 nin0
        replace E_r_881 := E_r_881.keep K954
        replace F_r_881_low := F_r_881_low.keep K954 nin0
        replace F_r_881_high := F_r_881_high.keep K954 nin0
        replace E_r_889 := E_r_889.keep K954
        replace F_r_889_low := F_r_889_low.keep K954 nin0
        replace F_r_889_high := F_r_889_high.keep K954 nin0
        replace A_t_849 := A_t_849.keep K954 nin0
        replace A_t_864 := A_t_864.keep K954 nin0
        replace E_r_925 := E_r_925.keep K954
        replace F_r_925_low := F_r_925_low.keep K954 nin0
        replace F_r_925_high := F_r_925_high.keep K954 nin0
        replace E_r_933 := E_r_933.keep K954
        replace F_r_933_low := F_r_933_low.keep K954 nin0
        replace F_r_933_high := F_r_933_high.keep K954 nin0
        replace K := K.trans K954 all0
        have E_r_953 := nw_E_r_953; clear nw_E_r_953
        have F_r_953_low := nw_F_r_953_low; clear nw_F_r_953_low
        have F_r_953_high := nw_F_r_953_high; clear nw_F_r_953_high
        show own_Go Z EL n0 p e below s _ _ _ (T947.setTop (mkF m 159 #[.val (.long a), .second, .val (.long b), .second, .val (.long cc), .second, .val (.long ee), .second, .val (.int sel), .val (.int (1 : Int32)), .val (.int (1 : Int32)), .val (.int (1 : Int32)), .val (.ref a841), .val (.ref a856), .val (.ref r_889), .val (.ref r_925)] [(.ref r_953)]))
        refine own_aload (pc' := 161) w948 own_d13_159 rfl rfl rfl ?_
        refine own_callV (pc' := 164) w948 (hw _ (List.mem_of_getElem? (i := 65) rfl)) (hw _ (List.mem_of_getElem? (i := 66) rfl)) (fun s' hZ' => notFace_of_selects (args := #[]) (mvT hZ' (hw _ (List.mem_of_getElem? (i := 68) rfl)))) (hw _ (List.mem_of_getElem? (i := 68) rfl)) (hw _ (List.mem_of_getElem? (i := 67) rfl)) (hw _ (List.mem_of_getElem? (i := 18) rfl)) (hw _ (List.mem_of_getElem? (i := 69) rfl)) (by decide) E_r_953 (own_ct_ceq l Z a0 hw EL hE n0 [] h949 (own_old w948) r_953 r_925 (own_sgn (a * b)) (a * b) F_r_953_low F_r_953_high E_r_925 F_r_925_low F_r_925_high) all0 (argsL := [(.ref r_925)]) (rest := []) rfl rfl own_pd11 rfl own_d13_161 rfl (by decide) (W := 0) rfl (by decide) (by decide) (by decide) fun T955 h957 v958 ms959 w956 q960 => ?_
        obtain ⟨rfl, rfl, rfl⟩ := q960
        show own_Go Z EL n0 p e below s _ _ _ (T955.setTop (mkF m 164 #[.val (.long a), .second, .val (.long b), .second, .val (.long cc), .second, .val (.long ee), .second, .val (.int sel), .val (.int (1 : Int32)), .val (.int (1 : Int32)), .val (.int (1 : Int32)), .val (.ref a841), .val (.ref a856), .val (.ref r_889), .val (.ref r_925)] [(.int (1 : Int32))]))
        refine own_if (pc' := 167) w956 own_d13_164 rfl (by decide) (pcY := 171) rfl (fun (hb164 : (1 : Int32) = (0 : Int32)) => absurd hb164 (by decide)) (fun (hb164 : ¬ (1 : Int32) = (0 : Int32)) => ?_)
        refine own_iconst (pc' := 168) w956 own_d13_167 (x := (1 : Int32)) rfl rfl ?_
        refine own_goto w956 own_d13_168 (by decide) (pc' := 172) rfl ?_
        exact own_retV w956 (t := .boolean) rfl rfl (Or.inl ⟨rfl, by simp, _, rfl⟩) own_d13_172 (by decide) (by decide) (ms' := []) all0 ⟨K, rfl, rfl⟩
set_option maxRecDepth 65536 in
set_option maxHeartbeats 40000000 in
theorem comes_1 {Post : Tables → Env → Array Value → State → Outcome → State → Prop} (hpost : ∀ tb e args s v u, (limb_1_1.after args s (.returned v) u = true ∧ limb_1_2.after args s (.returned v) u = true ∧ True) → FrameEnd s (.returned v) u (Jvm.fieldLocs frame_1_writes args s ++ Jvm.arrayLocs frame_1_arrays args s ++ Jvm.staticLocs frame_1_statics s) 40 128 → Post tb e args s (.returned v) u) :
    ArmFor flags0 classFile x code maxLocals ret World_1 tables_1 room_1 Calls_1 rest_1 Pre_1 Post := by
  intro l hfl _ _ p e ha hc hk s m args below hf hA hF happ hP
  obtain ⟨hcalls, hrest, hpre⟩ := hP
  obtain ⟨-, -, -, hnamed, -, -, -, hat⟩ := (Spec.applies_iff hf).mp happ
  obtain ⟨hg, hn⟩ := and_e (Cond.before_iff.mp (show (Jvm.Cond.and given_1 narrow_1).before args s = true from hpre))
  obtain ⟨hct, hg⟩ := and_e hg
  obtain ⟨w0, w1, w2, w3, w4, rfl⟩ : ∃ w0 w1 w2 w3 w4 : Value, args = #[w0, w1, w2, w3, w4] := by
    have hs : args.size = 5 := by simpa [Cond.value, given_1] using hct
    obtain ⟨L⟩ := args
    match L, hs with
    | [w0, w1, w2, w3, w4], _ => exact ⟨w0, w1, w2, w3, w4, rfl⟩
  have hw := fun d (hd : d ∈ tables_1) => atoms_spec (ws := Jvm.Cond.code x code maxLocals ret :: tables_1) hat d (List.mem_cons_of_mem _ hd)
  have hfit : Fit s := fun {y c} hc i hi => by
    obtain ⟨ha, rfl⟩ := Array.getElem?_eq_some_iff.mp hc
    have q := List.all_eq_true.mp ((Array.all_eq_true_iff_forall_mem.mp hF) _ (Array.getElem_mem ha)) i (List.mem_range.mpr hi)
    simpa [Array.getElem?_eq_getElem hi] using q
  obtain ⟨hg0, hg⟩ := and_e hg
  obtain ⟨i0, e0⟩ := isL_v hg0
  obtain rfl : w0 = (.long i0) := Option.some.inj e0
  obtain ⟨hg1, hg⟩ := and_e hg
  obtain ⟨i1, e1⟩ := isL_v hg1
  obtain rfl : w1 = (.long i1) := Option.some.inj e1
  obtain ⟨hg2, hg⟩ := and_e hg
  obtain ⟨i2, e2⟩ := isL_v hg2
  obtain rfl : w2 = (.long i2) := Option.some.inj e2
  obtain ⟨hg3, hg⟩ := and_e hg
  obtain ⟨i3, e3⟩ := isL_v hg3
  obtain rfl : w3 = (.long i3) := Option.some.inj e3
  obtain ⟨i4, e4⟩ := is_v hg
  obtain rfl : w4 = (.int i4) := Option.some.inj e4
  obtain ⟨n, o, h1, h2, h3, _, L, ms, rfl, q, N, -, -, -, hq⟩ := own_ct_law l s _ hw [] EW.nil s.heap.size tables_1 s.heap (Old.start s) i0 i1 i2 i3 i4  p e ha hc hk s m _ below hf ((Spec.applies_iff_loose hf).mp happ).1 ⟨rfl, State.Warmed39.refl s, rfl, fun _ q => nomatch q⟩ trivial
  obtain ⟨-, -, rfl⟩ := q
  refine ⟨n, _, h1, h2, h3, hpost _ _ _ _ _ _ ⟨Cond.after_iff.mpr rfl, Cond.after_iff.mpr (eq_i res_at (Term.int_eval (1)) rfl), trivial⟩ ⟨hq.1, hq.2.1, (hq.2.2.sift fun y hy => Or.inr (N y hy)).mono (by decide) (by decide)⟩⟩
theorem main_1_1 : Claimed_1_1 := comes_1 fun _ _ _ _ _ _ h hF => ⟨h.1, hF⟩
theorem main_1_2 : Claimed_1_2 := comes_1 fun _ _ _ _ _ _ h hF => ⟨h.2.1, hF⟩
end Jvm.Pilot.@@N@@
namespace Jvm.Pilot.@@N@@
open Jvm Jvm.ClassFile Sem Op Lib Jvm.Free Jvm.Stand Jvm.Pilot.@@N@@.Jvm.D
/-! MADE BY PROGRAM (witnessworld.py) out of the Statement's table words and the real class files: 18 classes; the members and pool entries that the words name. The judged class is class 1, her method 1. -/
namespace start1
open Jvm.ClassFile
def u (s : String) : CpInfo := .utf8 (stringToUtf16 s)
/-- a pool by its gaps: so many unusable entries, then the entry; so many at the end -/
def gap : Nat → List CpInfo → List CpInfo
  | 0, r => r
  | n + 1, r => .unusable :: gap n r
def poolList (es : List (Nat × CpInfo)) (last : Nat) : List CpInfo := es.foldr (fun e r => gap e.1 (e.2 :: r)) (gap last [])
def pool (es : List (Nat × CpInfo)) (last : Nat) : Array CpInfo := ⟨poolList es last⟩
def fileOf (pool : Array CpInfo) (this : Nat) (attrs : Array Attribute := #[]) (ms : Array MethodInfo := #[]) (fl : Nat := 33) (sup : Nat := 0) (ifs : Array Nat := #[]) (fds : Array FieldInfo := #[]) : ClassFile where
  minorVersion := 0
  majorVersion := 65
  constantPool := pool
  accessFlags := fl
  thisClass := this
  superClass := sup
  interfaces := ifs
  fields := fds
  methods := ms
  attributes := attrs
def plain (name : String) (sup : Option ClassId) : Class where
  name := name
  kind := .ordinary
  loader := none
  accessFlags := 33
  super := sup
  interfaces := #[]
  cf := none
  fields := #[]
  methods := #[]
  instanceTypes := #[]
  staticTypes := #[]
  resolved := #[]
  callSites := []
  init := .initialized
  statics := none
  mirror := none

def pool0 : Array CpInfo := pool [(5, u "<init>"), (0, u "()V"), (1, .class_ 10), (1, u "java/lang/Object")] 113

def k0c0 : Code := { maxStack := 0, maxLocals := 1, code := object_method_1_code, exceptionTable := #[], attributes := #[] }
def k0m0 : Method := { name := "<init>", desc := "()V", sig := { parameters := [], returnType := none }, accessFlags := 1, code := some k0c0 }
/-- java/lang/Object -/
def k0 : Class := { plain "java/lang/Object" none with
  accessFlags := 33
  interfaces := #[]
  cf := some (fileOf pool0 8 #[] #[{ accessFlags := 1, nameIndex := 5, descriptorIndex := 6, attributes := #[] }] 33 0 #[] #[])
  fields := #[]
  methods := #[k0m0]
  instanceTypes := #[]
  staticTypes := #[]
  resolved := Array.replicate 124 none
  statics := none }

def pool1 : Array CpInfo := pool [(2, .class_ 4), (1, u "java/lang/Object"), (0, u "<init>"), (0, u "()V"), (0, .class_ 8), (0, u "com/example/throng/throng/engine/Count$Array"), (0, .methodref 7 10), (0, .nameAndType 5 11), (0, u "(IZ)V"), (0, .methodref 13 14), (0, .class_ 15), (0, .nameAndType 16 17), (0, u "com/example/throng/throng/engine/Count"), (0, u "of"), (0, u "(J)Lcom/example/throng/throng/engine/Count;"), (0, .methodref 13 19), (0, .nameAndType 20 21), (0, u "times"), (0, u "(Lcom/example/throng/throng/engine/Count;)Lcom/example/throng/throng/engine/Count;"), (0, .methodref 7 23), (0, .nameAndType 24 25), (0, u "set"), (0, u "(ILcom/example/throng/throng/engine/Count;)V"), (0, .methodref 7 27), (0, .nameAndType 24 28), (0, u "(IJ)V"), (0, .methodref 7 30), (0, .nameAndType 24 31), (0, u "(ILcom/example/throng/throng/engine/Count$Array;I)V"), (0, .methodref 7 33), (0, .nameAndType 34 35), (0, u "get"), (0, u "(I)Lcom/example/throng/throng/engine/Count;"), (0, .methodref 13 37), (0, .nameAndType 38 39), (0, u "equals"), (0, u "(Ljava/lang/Object;)Z"), (0, .methodref 7 41), (0, .nameAndType 42 43), (0, u "signum"), (0, u "(I)I"), (0, .class_ 45), (0, u "com/example/throng/throng/engine/ArraySetPinLaw"), (2, u "law"), (0, u "(JJJJI)Z")] 5

def k1m0 : Method := { name := "<init>", desc := "()V", sig := { parameters := [], returnType := none }, accessFlags := 1, code := none }
def k1c1 : Code := { maxStack := 4, maxLocals := 16, code := code, exceptionTable := #[], attributes := #[] }
def k1m1 : Method := { name := "law", desc := "(JJJJI)Z", sig := { parameters := [.long, .long, .long, .long, .int], returnType := some .boolean }, accessFlags := 9, code := some k1c1 }
/-- com/example/throng/throng/engine/ArraySetPinLaw -/
def k1 : Class := { plain "com/example/throng/throng/engine/ArraySetPinLaw" (some 0) with
  accessFlags := 49
  interfaces := #[]
  cf := some (fileOf pool1 44 #[] #[{ accessFlags := 1, nameIndex := 5, descriptorIndex := 6, attributes := #[] }, { accessFlags := 9, nameIndex := 48, descriptorIndex := 49, attributes := #[] }] 49 2 #[] #[])
  fields := #[]
  methods := #[k1m0, k1m1]
  instanceTypes := #[]
  staticTypes := #[]
  resolved := Array.replicate 55 none
  statics := none }

def pool2 : Array CpInfo := pool [(2, .class_ 4), (1, u "com/example/throng/throng/engine/Count$Array"), (0, u "<init>"), (0, u "(IZ)V"), (0, .methodref 8 9), (0, .class_ 10), (0, .nameAndType 5 11), (0, u "java/lang/Object"), (0, u "()V"), (0, .fieldref 2 13), (0, .nameAndType 14 15), (0, u "product"), (0, u "[J"), (0, .fieldref 2 17), (0, .nameAndType 18 19), (0, u "narrow"), (0, u "Z"), (0, .fieldref 2 21), (0, .nameAndType 22 15), (0, u "bits"), (0, .methodref 24 25), (0, .class_ 26), (0, .nameAndType 27 28), (0, u "com/example/throng/throng/engine/Count"), (0, u "of"), (0, u "(J)Lcom/example/throng/throng/engine/Count;"), (0, .methodref 24 30), (0, .nameAndType 5 31), (0, u "(JJ)V"), (0, .fieldref 24 33), (0, .nameAndType 34 35), (0, u "low"), (0, u "J"), (0, .fieldref 24 37), (0, .nameAndType 38 35), (0, u "high"), (0, .class_ 40), (0, u "java/lang/Long"), (0, .methodref 39 42), (0, .nameAndType 43 44), (0, u "signum"), (0, u "(J)I"), (17, u "get"), (0, u "(I)Lcom/example/throng/throng/engine/Count;"), (0, u "set"), (0, u "(ILcom/example/throng/throng/engine/Count;)V"), (0, u "(ILcom/example/throng/throng/engine/Count$Array;I)V"), (0, u "(IJ)V"), (0, u "(I)I")] 9

def k2c0 : Code := { maxStack := 3, maxLocals := 3, code := prog_42_method_2_code, exceptionTable := #[], attributes := #[] }
def k2m0 : Method := { name := "<init>", desc := "(IZ)V", sig := { parameters := [.int, .boolean], returnType := none }, accessFlags := 0, code := some k2c0 }
def k2c1 : Code := { maxStack := 7, maxLocals := 2, code := prog_42_method_3_code, exceptionTable := #[], attributes := #[] }
def k2m1 : Method := { name := "get", desc := "(I)Lcom/example/throng/throng/engine/Count;", sig := { parameters := [.int], returnType := some (.object "com/example/throng/throng/engine/Count") }, accessFlags := 0, code := some k2c1 }
def k2c2 : Code := { maxStack := 4, maxLocals := 3, code := prog_42_method_4_code, exceptionTable := #[], attributes := #[] }
def k2m2 : Method := { name := "set", desc := "(ILcom/example/throng/throng/engine/Count;)V", sig := { parameters := [.int, (.object "com/example/throng/throng/engine/Count")], returnType := none }, accessFlags := 0, code := some k2c2 }
def k2c3 : Code := { maxStack := 5, maxLocals := 4, code := prog_42_method_5_code, exceptionTable := #[], attributes := #[] }
def k2m3 : Method := { name := "set", desc := "(ILcom/example/throng/throng/engine/Count$Array;I)V", sig := { parameters := [.int, (.object "com/example/throng/throng/engine/Count$Array"), .int], returnType := none }, accessFlags := 0, code := some k2c3 }
def k2c4 : Code := { maxStack := 5, maxLocals := 4, code := prog_42_method_6_code, exceptionTable := #[], attributes := #[] }
def k2m4 : Method := { name := "set", desc := "(IJ)V", sig := { parameters := [.int, .long], returnType := none }, accessFlags := 0, code := some k2c4 }
def k2c5 : Code := { maxStack := 4, maxLocals := 5, code := prog_42_method_7_code, exceptionTable := #[], attributes := #[] }
def k2m5 : Method := { name := "signum", desc := "(I)I", sig := { parameters := [.int], returnType := some .int }, accessFlags := 0, code := some k2c5 }
/-- com/example/throng/throng/engine/Count$Array -/
def k2 : Class := { plain "com/example/throng/throng/engine/Count$Array" (some 0) with
  accessFlags := 48
  interfaces := #[]
  cf := some (fileOf pool2 2 #[.nestHost 24] #[{ accessFlags := 0, nameIndex := 5, descriptorIndex := 6, attributes := #[] }, { accessFlags := 0, nameIndex := 62, descriptorIndex := 63, attributes := #[] }, { accessFlags := 0, nameIndex := 64, descriptorIndex := 65, attributes := #[] }, { accessFlags := 0, nameIndex := 64, descriptorIndex := 66, attributes := #[] }, { accessFlags := 0, nameIndex := 64, descriptorIndex := 67, attributes := #[] }, { accessFlags := 0, nameIndex := 43, descriptorIndex := 68, attributes := #[] }] 48 8 #[] #[{ accessFlags := 18, nameIndex := 18, descriptorIndex := 19, attributes := #[] }, { accessFlags := 18, nameIndex := 22, descriptorIndex := 15, attributes := #[] }, { accessFlags := 18, nameIndex := 14, descriptorIndex := 15, attributes := #[] }])
  fields := #[{ name := "narrow", type := .boolean, accessFlags := 18, slot := 0, constantValue := 0 }, { name := "bits", type := (.array .long), accessFlags := 18, slot := 1, constantValue := 0 }, { name := "product", type := (.array .long), accessFlags := 18, slot := 2, constantValue := 0 }]
  methods := #[k2m0, k2m1, k2m2, k2m3, k2m4, k2m5]
  instanceTypes := #[.boolean, (.array .long), (.array .long)]
  staticTypes := #[]
  resolved := Array.replicate 78 none
  statics := none }

def pool3 : Array CpInfo := pool [(1, .class_ 2), (0, u "java/lang/Comparable"), (0, .class_ 4), (0, u "java/lang/Object")] 7

/-- java/lang/Comparable -/
def k3 : Class := { plain "java/lang/Comparable" (some 0) with
  accessFlags := 1537
  interfaces := #[]
  cf := some (fileOf pool3 1 #[] #[] 1537 3 #[] #[])
  fields := #[]
  methods := #[]
  instanceTypes := #[]
  staticTypes := #[]
  resolved := Array.replicate 12 none
  statics := none }

def pool4 : Array CpInfo := pool [(1, .methodref 2 3), (0, .class_ 4), (0, .nameAndType 5 6), (0, u "java/lang/Object"), (0, u "<init>"), (0, u "()V"), (0, .fieldref 8 9), (0, .class_ 10), (0, .nameAndType 11 12), (0, u "com/example/throng/throng/engine/Count"), (0, u "high"), (0, u "J"), (0, .fieldref 8 14), (0, .nameAndType 15 12), (0, u "low"), (2, .methodref 8 19), (0, .nameAndType 5 20), (0, u "(JJ)V"), (2, u "of"), (0, u "(J)Lcom/example/throng/throng/engine/Count;"), (2, u "times"), (0, u "(Lcom/example/throng/throng/engine/Count;)Lcom/example/throng/throng/engine/Count;"), (3, u "(JJJJ[JI)V"), (16, .methodref 8 50), (0, .nameAndType 27 32), (0, .methodref 52 53), (0, .class_ 54), (0, .nameAndType 55 56), (0, u "java/lang/Math"), (0, u "multiplyHigh"), (0, u "(JJ)J"), (52, u "ZERO"), (0, u "Lcom/example/throng/throng/engine/Count;"), (2, u "LARGEST"), (0, .class_ 115), (0, u "java/lang/Comparable"), (12, u "equals"), (0, u "(Ljava/lang/Object;)Z"), (8, .class_ 139), (0, u "com/example/throng/throng/engine/Count$Array")] 2

def k4c0 : Code := { maxStack := 3, maxLocals := 5, code := prog_41_method_1_code, exceptionTable := #[], attributes := #[] }
def k4m0 : Method := { name := "<init>", desc := "(JJ)V", sig := { parameters := [.long, .long], returnType := none }, accessFlags := 2, code := some k4c0 }
def k4c1 : Code := { maxStack := 6, maxLocals := 2, code := prog_41_method_2_code, exceptionTable := #[], attributes := #[] }
def k4m1 : Method := { name := "of", desc := "(J)Lcom/example/throng/throng/engine/Count;", sig := { parameters := [.long], returnType := some (.object "com/example/throng/throng/engine/Count") }, accessFlags := 8, code := some k4c1 }
def k4c2 : Code := { maxStack := 10, maxLocals := 3, code := prog_41_method_7_code, exceptionTable := #[], attributes := #[] }
def k4m2 : Method := { name := "times", desc := "(Lcom/example/throng/throng/engine/Count;)Lcom/example/throng/throng/engine/Count;", sig := { parameters := [(.object "com/example/throng/throng/engine/Count")], returnType := some (.object "com/example/throng/throng/engine/Count") }, accessFlags := 0, code := some k4c2 }
def k4c3 : Code := { maxStack := 10, maxLocals := 10, code := prog_41_method_8_code, exceptionTable := #[], attributes := #[] }
def k4m3 : Method := { name := "times", desc := "(JJJJ[JI)V", sig := { parameters := [.long, .long, .long, .long, (.array .long), .int], returnType := none }, accessFlags := 10, code := some k4c3 }
def k4c4 : Code := { maxStack := 4, maxLocals := 3, code := prog_41_method_16_code, exceptionTable := #[], attributes := #[] }
def k4m4 : Method := { name := "equals", desc := "(Ljava/lang/Object;)Z", sig := { parameters := [(.object "java/lang/Object")], returnType := some .boolean }, accessFlags := 1, code := some k4c4 }
/-- com/example/throng/throng/engine/Count -/
def k4 : Class := { plain "com/example/throng/throng/engine/Count" (some 0) with
  accessFlags := 48
  interfaces := #[3]
  cf := some (fileOf pool4 8 #[.nestMembers #[138]] #[{ accessFlags := 2, nameIndex := 5, descriptorIndex := 20, attributes := #[] }, { accessFlags := 8, nameIndex := 23, descriptorIndex := 24, attributes := #[] }, { accessFlags := 0, nameIndex := 27, descriptorIndex := 28, attributes := #[] }, { accessFlags := 10, nameIndex := 27, descriptorIndex := 32, attributes := #[] }, { accessFlags := 1, nameIndex := 128, descriptorIndex := 129, attributes := #[] }] 48 2 #[114] #[{ accessFlags := 24, nameIndex := 109, descriptorIndex := 110, attributes := #[] }, { accessFlags := 24, nameIndex := 113, descriptorIndex := 110, attributes := #[] }, { accessFlags := 18, nameIndex := 11, descriptorIndex := 12, attributes := #[] }, { accessFlags := 18, nameIndex := 15, descriptorIndex := 12, attributes := #[] }])
  fields := #[{ name := "ZERO", type := (.object "com/example/throng/throng/engine/Count"), accessFlags := 24, slot := 0, constantValue := 0 }, { name := "LARGEST", type := (.object "com/example/throng/throng/engine/Count"), accessFlags := 24, slot := 1, constantValue := 0 }, { name := "high", type := .long, accessFlags := 18, slot := 0, constantValue := 0 }, { name := "low", type := .long, accessFlags := 18, slot := 1, constantValue := 0 }]
  methods := #[k4m0, k4m1, k4m2, k4m3, k4m4]
  instanceTypes := #[.long, .long]
  staticTypes := #[(.object "com/example/throng/throng/engine/Count"), (.object "com/example/throng/throng/engine/Count")]
  resolved := Array.replicate 142 none
  statics := none }

def pool5 : Array CpInfo := pool [(1, .class_ 2), (0, u "java/lang/Math"), (1, .class_ 6), (1, u "java/lang/Object"), (0, u "<init>"), (0, u "()V"), (89, .class_ 100), (1, u "java/lang/Math$RandomNumberGeneratorHolder"), (20, u "(JJ)J"), (16, .long 4294967295), (3, u "multiplyHigh"), (29, u "negativeZeroFloatBits"), (0, u "J"), (2, u "negativeZeroDoubleBits"), (68, u "$assertionsDisabled"), (0, u "Z"), (91, u "twoToTheDoubleScaleDown"), (0, u "D"), (4, u "twoToTheDoubleScaleUp"), (9, u "E"), (3, u "PI"), (2, u "TAU"), (2, u "DEGREES_TO_RADIANS"), (0, u "RADIANS_TO_DEGREES")] 94

def k5m0 : Method := { name := "<init>", desc := "()V", sig := { parameters := [], returnType := none }, accessFlags := 2, code := none }
def k5c1 : Code := { maxStack := 6, maxLocals := 20, code := jdk_29_method_45_code, exceptionTable := #[], attributes := #[] }
def k5m1 : Method := { name := "multiplyHigh", desc := "(JJ)J", sig := { parameters := [.long, .long], returnType := some .long }, accessFlags := 9, code := some k5c1 }
/-- java/lang/Math -/
def k5 : Class := { plain "java/lang/Math" (some 0) with
  accessFlags := 49
  interfaces := #[]
  cf := some (fileOf pool5 1 #[.nestMembers #[98]] #[{ accessFlags := 2, nameIndex := 7, descriptorIndex := 8, attributes := #[] }, { accessFlags := 9, nameIndex := 142, descriptorIndex := 121, attributes := #[] }] 49 4 #[] #[{ accessFlags := 25, nameIndex := 354, descriptorIndex := 339, attributes := #[] }, { accessFlags := 25, nameIndex := 358, descriptorIndex := 339, attributes := #[] }, { accessFlags := 25, nameIndex := 361, descriptorIndex := 339, attributes := #[] }, { accessFlags := 26, nameIndex := 364, descriptorIndex := 339, attributes := #[] }, { accessFlags := 26, nameIndex := 365, descriptorIndex := 339, attributes := #[] }, { accessFlags := 26, nameIndex := 172, descriptorIndex := 173, attributes := #[] }, { accessFlags := 26, nameIndex := 176, descriptorIndex := 173, attributes := #[] }, { accessFlags := 8, nameIndex := 344, descriptorIndex := 339, attributes := #[] }, { accessFlags := 8, nameIndex := 338, descriptorIndex := 339, attributes := #[] }, { accessFlags := 4120, nameIndex := 245, descriptorIndex := 246, attributes := #[] }])
  fields := #[{ name := "E", type := .double, accessFlags := 25, slot := 0, constantValue := 0 }, { name := "PI", type := .double, accessFlags := 25, slot := 1, constantValue := 0 }, { name := "TAU", type := .double, accessFlags := 25, slot := 2, constantValue := 0 }, { name := "DEGREES_TO_RADIANS", type := .double, accessFlags := 26, slot := 3, constantValue := 0 }, { name := "RADIANS_TO_DEGREES", type := .double, accessFlags := 26, slot := 4, constantValue := 0 }, { name := "negativeZeroFloatBits", type := .long, accessFlags := 26, slot := 5, constantValue := 0 }, { name := "negativeZeroDoubleBits", type := .long, accessFlags := 26, slot := 6, constantValue := 0 }, { name := "twoToTheDoubleScaleUp", type := .double, accessFlags := 8, slot := 7, constantValue := 0 }, { name := "twoToTheDoubleScaleDown", type := .double, accessFlags := 8, slot := 8, constantValue := 0 }, { name := "$assertionsDisabled", type := .boolean, accessFlags := 4120, slot := 9, constantValue := 0 }]
  methods := #[k5m0, k5m1]
  instanceTypes := #[]
  staticTypes := #[.double, .double, .double, .double, .double, .long, .long, .double, .double, .boolean]
  resolved := Array.replicate 460 none
  statics := none }

def pool6 : Array CpInfo := pool [(1, .class_ 2), (0, u "java/io/Serializable"), (0, .class_ 4), (0, u "java/lang/Object")] 2

/-- java/io/Serializable -/
def k6 : Class := { plain "java/io/Serializable" (some 0) with
  accessFlags := 1537
  interfaces := #[]
  cf := some (fileOf pool6 1 #[] #[] 1537 3 #[] #[])
  fields := #[]
  methods := #[]
  instanceTypes := #[]
  staticTypes := #[]
  resolved := Array.replicate 7 none
  statics := none }

def pool7 : Array CpInfo := pool [(2, .class_ 4), (1, u "java/lang/Object"), (0, u "<init>"), (0, u "()V"), (1, .class_ 10), (1, u "java/lang/Number"), (2, .class_ 14), (0, u "java/io/Serializable"), (0, u "serialVersionUID"), (0, u "J")] 20

def k7m0 : Method := { name := "<init>", desc := "()V", sig := { parameters := [], returnType := none }, accessFlags := 1, code := none }
/-- java/lang/Number -/
def k7 : Class := { plain "java/lang/Number" (some 0) with
  accessFlags := 1057
  interfaces := #[6]
  cf := some (fileOf pool7 8 #[] #[{ accessFlags := 1, nameIndex := 5, descriptorIndex := 6, attributes := #[] }] 1057 2 #[13] #[{ accessFlags := 26, nameIndex := 15, descriptorIndex := 16, attributes := #[] }])
  fields := #[{ name := "serialVersionUID", type := .long, accessFlags := 26, slot := 0, constantValue := 0 }]
  methods := #[k7m0]
  instanceTypes := #[]
  staticTypes := #[.long]
  resolved := Array.replicate 37 none
  statics := none }

def pool8 : Array CpInfo := pool [(1, .class_ 2), (0, u "java/lang/constant/Constable"), (0, .class_ 4), (0, u "java/lang/Object")] 6

/-- java/lang/constant/Constable -/
def k8 : Class := { plain "java/lang/constant/Constable" (some 0) with
  accessFlags := 1537
  interfaces := #[]
  cf := some (fileOf pool8 1 #[] #[] 1537 3 #[] #[])
  fields := #[]
  methods := #[]
  instanceTypes := #[]
  staticTypes := #[]
  resolved := Array.replicate 11 none
  statics := none }

def pool9 : Array CpInfo := pool [(1, .class_ 2), (0, u "java/lang/constant/ConstantDesc"), (0, .class_ 4), (0, u "java/lang/Object")] 32

/-- java/lang/constant/ConstantDesc -/
def k9 : Class := { plain "java/lang/constant/ConstantDesc" (some 0) with
  accessFlags := 1537
  interfaces := #[]
  cf := some (fileOf pool9 1 #[] #[] 1537 3 #[] #[])
  fields := #[]
  methods := #[]
  instanceTypes := #[]
  staticTypes := #[]
  resolved := Array.replicate 37 none
  statics := none }

def pool10 : Array CpInfo := pool [(1, .class_ 2), (0, u "java/lang/Long"), (98, u "(J)I"), (133, .class_ 237), (1, u "java/lang/Long$LongCache"), (33, .class_ 272), (0, u "java/lang/Number"), (2, u "value"), (0, u "J"), (84, u "TYPE"), (0, u "Ljava/lang/Class;"), (0, .class_ 364), (0, u "java/lang/Comparable"), (0, .class_ 366), (0, u "java/lang/constant/Constable"), (0, .class_ 368), (0, u "java/lang/constant/ConstantDesc"), (0, u "MIN_VALUE"), (1, u "MAX_VALUE"), (4, u "SIZE"), (0, u "I"), (1, u "BYTES"), (1, u "serialVersionUID"), (115, u "signum")] 26

def k10c0 : Code := { maxStack := 5, maxLocals := 2, code := jdk_35_method_57_code, exceptionTable := #[], attributes := #[] }
def k10m0 : Method := { name := "signum", desc := "(J)I", sig := { parameters := [.long], returnType := some .int }, accessFlags := 9, code := some k10c0 }
/-- java/lang/Long -/
def k10 : Class := { plain "java/lang/Long" (some 7) with
  accessFlags := 49
  interfaces := #[3, 8, 9]
  cf := some (fileOf pool10 1 #[.nestMembers #[235]] #[{ accessFlags := 9, nameIndex := 497, descriptorIndex := 101, attributes := #[] }] 49 271 #[363, 365, 367] #[{ accessFlags := 25, nameIndex := 369, descriptorIndex := 276, attributes := #[] }, { accessFlags := 25, nameIndex := 371, descriptorIndex := 276, attributes := #[] }, { accessFlags := 25, nameIndex := 361, descriptorIndex := 362, attributes := #[] }, { accessFlags := 18, nameIndex := 275, descriptorIndex := 276, attributes := #[] }, { accessFlags := 25, nameIndex := 376, descriptorIndex := 377, attributes := #[] }, { accessFlags := 25, nameIndex := 379, descriptorIndex := 377, attributes := #[] }, { accessFlags := 26, nameIndex := 381, descriptorIndex := 276, attributes := #[] }])
  fields := #[{ name := "MIN_VALUE", type := .long, accessFlags := 25, slot := 0, constantValue := 0 }, { name := "MAX_VALUE", type := .long, accessFlags := 25, slot := 1, constantValue := 0 }, { name := "TYPE", type := (.object "java/lang/Class"), accessFlags := 25, slot := 2, constantValue := 0 }, { name := "value", type := .long, accessFlags := 18, slot := 0, constantValue := 0 }, { name := "SIZE", type := .int, accessFlags := 25, slot := 3, constantValue := 0 }, { name := "BYTES", type := .int, accessFlags := 25, slot := 4, constantValue := 0 }, { name := "serialVersionUID", type := .long, accessFlags := 26, slot := 5, constantValue := 0 }]
  methods := #[k10m0]
  instanceTypes := #[.long]
  staticTypes := #[.long, .long, (.object "java/lang/Class"), .int, .int, .long]
  resolved := Array.replicate 524 none
  statics := none }

def pool11 : Array CpInfo := pool [(1, u "java/lang/Cloneable"), (0, .class_ 1), (0, u "java/lang/Object"), (0, .class_ 3)] 3

/-- java/lang/Cloneable -/
def k11 : Class := { plain "java/lang/Cloneable" (some 0) with
  accessFlags := 1537
  interfaces := #[]
  cf := some (fileOf pool11 2 #[] #[] 1537 4 #[] #[])
  fields := #[]
  methods := #[]
  instanceTypes := #[]
  staticTypes := #[]
  resolved := Array.replicate 8 none
  statics := none }

/-- the primitive byte -/
def k12 : Class := { plain "byte" none with kind := .primitive 'B', accessFlags := 0x411 }
/-- [B -/
def k13 : Class := { plain "[B" (some 0) with kind := .array 12 .byte, interfaces := #[11, 6], accessFlags := 1041 }

/-- the primitive int -/
def k14 : Class := { plain "int" none with kind := .primitive 'I', accessFlags := 0x411 }
/-- [I -/
def k15 : Class := { plain "[I" (some 0) with kind := .array 14 .int, interfaces := #[11, 6], accessFlags := 1041 }

/-- the primitive long -/
def k16 : Class := { plain "long" none with kind := .primitive 'J', accessFlags := 0x411 }
/-- [J -/
def k17 : Class := { plain "[J" (some 0) with kind := .array 16 .long, interfaces := #[11, 6], accessFlags := 1041 }

def heap : Heap := #[]
def classes : Array Class := #[k0, k1, k2, k3, k4, k5, k6, k7, k8, k9, k10, k11, k12, k13, k14, k15, k16, k17]
def interned : List (Array UInt16 × Addr) := []
def slotsUsed : Nat := 0
def theMethod : MethodId := ⟨1, 1⟩
def args0 : Array Value := #[.long 3, .long 4, .long 5, .long 6, .int 1]
def aboutOver (below : List Frame) : State where
  vm := { classes := classes, interned := interned.toArray }
  heap := heap
  slotsUsed := slotsUsed
  threads := #[{ frames := .invoking theMethod args0 :: below }]
def below0 : List Frame := [.native { method := ⟨0, 0⟩, args := #[] }]
def about1 : State := aboutOver below0
def p0 : Program := .bare "" "" ""
def e0 : Env := launch0.env 0 0 0
theorem w_frames : about1.frames = Frame.invoking theMethod args0 :: below0 := rfl
set_option maxRecDepth 65536 in
theorem w_args : argsFit about1.vm theMethod args0 = true := by decide +kernel
set_option maxRecDepth 65536 in
theorem w_heap : heapFits about1 = true := by decide +kernel
set_option maxRecDepth 65536 in
theorem w_runnable : about1.curStatus? = some .runnable := by decide +kernel
set_option maxRecDepth 65536 in
theorem w_alone : about1.alone = true := by decide +kernel
set_option maxRecDepth 65536 in
theorem w_named : about1.methodNamed? x = some theMethod := by decide +kernel
set_option maxRecDepth 65536 in
theorem w_hears : about1.hears theMethod below0 = true := by decide +kernel
set_option maxRecDepth 65536 in
theorem w_ripe : about1.ripe theMethod args0 below0 = true := by decide +kernel
theorem w_running : about1.status = .running := rfl
set_option maxRecDepth 65536 in
theorem w_room : about1.hasRoom e0.platform room_1 = true :=
  launch0.hasRoom_least _ room_1 (by decide +kernel) (by decide +kernel) (by decide +kernel) (by decide +kernel) (by decide +kernel) (by decide +kernel)
theorem allAtoms_all (ts : List Jvm.Cond) (a : Array Jvm.Value) (st : Jvm.State) : (allAtoms ts).before a st = ts.all (fun c => c.before a st) := by
  induction ts with
  | nil => rfl
  | cons c t ih =>
    show (Jvm.Cond.and c (allAtoms t)).before a st = _
    rw [Jvm.Cond.before_and, ih, List.all_cons]
def words1 : List Jvm.Cond := Jvm.Cond.code x code maxLocals ret :: tables_1
/-- a 'code' word, met by the world's own term for the bytes: nothing is compared byte by byte -/
theorem code_word {y : MethodName} {bytes : ByteArray} {mx : Nat} {rt : Option FieldType} {a : Array Value} {s : State} {m : MethodId} {meth : Method} {c : Code} (h1 : s.methodNamed? y = some m) (h2 : s.vm.method? m = some meth) (h3 : meth.code = some c) (h4 : c.code = bytes)
    (h5 : (c.maxLocals == mx && c.exceptionTable.isEmpty && decide (c.maxStack ≤ mostOperands) && decide (meth.sig.returnType = rt) && !meth.locks && decide (parseMethodDescriptor y.desc = some meth.sig)) = true) : (Jvm.Cond.code y bytes mx rt).before a s = true := by
  simp only [Bool.and_eq_true, beq_iff_eq, Bool.not_eq_true', decide_eq_true_eq] at h5
  obtain ⟨⟨⟨⟨⟨g1, g2⟩, g3⟩, g4⟩, g5⟩, g6⟩ := h5
  simp [Cond.before, Cond.holds, Cond.value, h1, h2, h3, h4, g1, g2, g3, g4, g5, g6]
def isCode : Jvm.Cond → Bool
  | .code _ _ _ _ => true
  | _ => false
theorem all_split {L : List Jvm.Cond} {P : Jvm.Cond → Bool} (h1 : L.all (fun c => isCode c || P c) = true) (h2 : ∀ c ∈ L.filter isCode, P c = true) : L.all P = true := by
  refine List.all_eq_true.mpr fun c hc => ?_
  have h := List.all_eq_true.mp h1 c hc
  rcases Bool.eq_false_or_eq_true (isCode c) with hi | hi
  · exact h2 c (List.mem_filter.mpr ⟨hc, hi⟩)
  · simpa [hi] using h
set_option maxRecDepth 65536 in
theorem w_c0 : (Jvm.Cond.code x code maxLocals ret).before args0 about1 = true := code_word (m := ⟨1, 1⟩) (meth := k1m1) (c := k1c1) (by decide +kernel) rfl rfl rfl (by decide +kernel)
set_option maxRecDepth 65536 in
theorem w_c1 : (Jvm.Cond.code ({ cls := "com/example/throng/throng/engine/Count$Array", name := "<init>", desc := "(IZ)V" } : Jvm.MethodName) prog_42_method_2_code (3 : Nat) (Option.none : Option Jvm.ClassFile.FieldType)).before args0 about1 = true := code_word (m := ⟨2, 0⟩) (meth := k2m0) (c := k2c0) (by decide +kernel) rfl rfl rfl (by decide +kernel)
set_option maxRecDepth 65536 in
theorem w_c2 : (Jvm.Cond.code ({ cls := "java/lang/Object", name := "<init>", desc := "()V" } : Jvm.MethodName) object_method_1_code (1 : Nat) (Option.none : Option Jvm.ClassFile.FieldType)).before args0 about1 = true := code_word (m := ⟨0, 0⟩) (meth := k0m0) (c := k0c0) (by decide +kernel) rfl rfl rfl (by decide +kernel)
set_option maxRecDepth 65536 in
theorem w_c3 : (Jvm.Cond.code ({ cls := "com/example/throng/throng/engine/Count", name := "of", desc := "(J)Lcom/example/throng/throng/engine/Count;" } : Jvm.MethodName) prog_41_method_2_code (2 : Nat) (Option.some (Jvm.ClassFile.FieldType.object "com/example/throng/throng/engine/Count"))).before args0 about1 = true := code_word (m := ⟨4, 1⟩) (meth := k4m1) (c := k4c1) (by decide +kernel) rfl rfl rfl (by decide +kernel)
set_option maxRecDepth 65536 in
theorem w_c4 : (Jvm.Cond.code ({ cls := "com/example/throng/throng/engine/Count", name := "<init>", desc := "(JJ)V" } : Jvm.MethodName) prog_41_method_1_code (5 : Nat) (Option.none : Option Jvm.ClassFile.FieldType)).before args0 about1 = true := code_word (m := ⟨4, 0⟩) (meth := k4m0) (c := k4c0) (by decide +kernel) rfl rfl rfl (by decide +kernel)
set_option maxRecDepth 65536 in
theorem w_c5 : (Jvm.Cond.code ({ cls := "com/example/throng/throng/engine/Count", name := "times", desc := "(Lcom/example/throng/throng/engine/Count;)Lcom/example/throng/throng/engine/Count;" } : Jvm.MethodName) prog_41_method_7_code (3 : Nat) (Option.some (Jvm.ClassFile.FieldType.object "com/example/throng/throng/engine/Count"))).before args0 about1 = true := code_word (m := ⟨4, 2⟩) (meth := k4m2) (c := k4c2) (by decide +kernel) rfl rfl rfl (by decide +kernel)
set_option maxRecDepth 65536 in
theorem w_c6 : (Jvm.Cond.code ({ cls := "com/example/throng/throng/engine/Count", name := "times", desc := "(JJJJ[JI)V" } : Jvm.MethodName) prog_41_method_8_code (10 : Nat) (Option.none : Option Jvm.ClassFile.FieldType)).before args0 about1 = true := code_word (m := ⟨4, 3⟩) (meth := k4m3) (c := k4c3) (by decide +kernel) rfl rfl rfl (by decide +kernel)
set_option maxRecDepth 65536 in
theorem w_c7 : (Jvm.Cond.code ({ cls := "java/lang/Math", name := "multiplyHigh", desc := "(JJ)J" } : Jvm.MethodName) jdk_29_method_45_code (20 : Nat) (Option.some Jvm.ClassFile.FieldType.long)).before args0 about1 = true := code_word (m := ⟨5, 1⟩) (meth := k5m1) (c := k5c1) (by decide +kernel) rfl rfl rfl (by decide +kernel)
set_option maxRecDepth 65536 in
theorem w_c8 : (Jvm.Cond.code ({ cls := "com/example/throng/throng/engine/Count$Array", name := "set", desc := "(ILcom/example/throng/throng/engine/Count;)V" } : Jvm.MethodName) prog_42_method_4_code (3 : Nat) (Option.none : Option Jvm.ClassFile.FieldType)).before args0 about1 = true := code_word (m := ⟨2, 2⟩) (meth := k2m2) (c := k2c2) (by decide +kernel) rfl rfl rfl (by decide +kernel)
set_option maxRecDepth 65536 in
theorem w_c9 : (Jvm.Cond.code ({ cls := "com/example/throng/throng/engine/Count$Array", name := "set", desc := "(IJ)V" } : Jvm.MethodName) prog_42_method_6_code (4 : Nat) (Option.none : Option Jvm.ClassFile.FieldType)).before args0 about1 = true := code_word (m := ⟨2, 4⟩) (meth := k2m4) (c := k2c4) (by decide +kernel) rfl rfl rfl (by decide +kernel)
set_option maxRecDepth 65536 in
theorem w_c10 : (Jvm.Cond.code ({ cls := "com/example/throng/throng/engine/Count$Array", name := "set", desc := "(ILcom/example/throng/throng/engine/Count$Array;I)V" } : Jvm.MethodName) prog_42_method_5_code (4 : Nat) (Option.none : Option Jvm.ClassFile.FieldType)).before args0 about1 = true := code_word (m := ⟨2, 3⟩) (meth := k2m3) (c := k2c3) (by decide +kernel) rfl rfl rfl (by decide +kernel)
set_option maxRecDepth 65536 in
theorem w_c11 : (Jvm.Cond.code ({ cls := "com/example/throng/throng/engine/Count$Array", name := "get", desc := "(I)Lcom/example/throng/throng/engine/Count;" } : Jvm.MethodName) prog_42_method_3_code (2 : Nat) (Option.some (Jvm.ClassFile.FieldType.object "com/example/throng/throng/engine/Count"))).before args0 about1 = true := code_word (m := ⟨2, 1⟩) (meth := k2m1) (c := k2c1) (by decide +kernel) rfl rfl rfl (by decide +kernel)
set_option maxRecDepth 65536 in
theorem w_c12 : (Jvm.Cond.code ({ cls := "com/example/throng/throng/engine/Count", name := "equals", desc := "(Ljava/lang/Object;)Z" } : Jvm.MethodName) prog_41_method_16_code (3 : Nat) (Option.some Jvm.ClassFile.FieldType.boolean)).before args0 about1 = true := code_word (m := ⟨4, 4⟩) (meth := k4m4) (c := k4c4) (by decide +kernel) rfl rfl rfl (by decide +kernel)
set_option maxRecDepth 65536 in
theorem w_c13 : (Jvm.Cond.code ({ cls := "com/example/throng/throng/engine/Count$Array", name := "signum", desc := "(I)I" } : Jvm.MethodName) prog_42_method_7_code (5 : Nat) (Option.some Jvm.ClassFile.FieldType.int)).before args0 about1 = true := code_word (m := ⟨2, 5⟩) (meth := k2m5) (c := k2c5) (by decide +kernel) rfl rfl rfl (by decide +kernel)
set_option maxRecDepth 65536 in
theorem w_c14 : (Jvm.Cond.code ({ cls := "java/lang/Long", name := "signum", desc := "(J)I" } : Jvm.MethodName) jdk_35_method_57_code (2 : Nat) (Option.some Jvm.ClassFile.FieldType.int)).before args0 about1 = true := code_word (m := ⟨10, 0⟩) (meth := k10m0) (c := k10c0) (by decide +kernel) rfl rfl rfl (by decide +kernel)
def codes1 : List Jvm.Cond := [Jvm.Cond.code x code maxLocals ret, Jvm.Cond.code ({ cls := "com/example/throng/throng/engine/Count$Array", name := "<init>", desc := "(IZ)V" } : Jvm.MethodName) prog_42_method_2_code (3 : Nat) (Option.none : Option Jvm.ClassFile.FieldType), Jvm.Cond.code ({ cls := "java/lang/Object", name := "<init>", desc := "()V" } : Jvm.MethodName) object_method_1_code (1 : Nat) (Option.none : Option Jvm.ClassFile.FieldType), Jvm.Cond.code ({ cls := "com/example/throng/throng/engine/Count", name := "of", desc := "(J)Lcom/example/throng/throng/engine/Count;" } : Jvm.MethodName) prog_41_method_2_code (2 : Nat) (Option.some (Jvm.ClassFile.FieldType.object "com/example/throng/throng/engine/Count")), Jvm.Cond.code ({ cls := "com/example/throng/throng/engine/Count", name := "<init>", desc := "(JJ)V" } : Jvm.MethodName) prog_41_method_1_code (5 : Nat) (Option.none : Option Jvm.ClassFile.FieldType), Jvm.Cond.code ({ cls := "com/example/throng/throng/engine/Count", name := "times", desc := "(Lcom/example/throng/throng/engine/Count;)Lcom/example/throng/throng/engine/Count;" } : Jvm.MethodName) prog_41_method_7_code (3 : Nat) (Option.some (Jvm.ClassFile.FieldType.object "com/example/throng/throng/engine/Count")), Jvm.Cond.code ({ cls := "com/example/throng/throng/engine/Count", name := "times", desc := "(JJJJ[JI)V" } : Jvm.MethodName) prog_41_method_8_code (10 : Nat) (Option.none : Option Jvm.ClassFile.FieldType), Jvm.Cond.code ({ cls := "java/lang/Math", name := "multiplyHigh", desc := "(JJ)J" } : Jvm.MethodName) jdk_29_method_45_code (20 : Nat) (Option.some Jvm.ClassFile.FieldType.long), Jvm.Cond.code ({ cls := "com/example/throng/throng/engine/Count$Array", name := "set", desc := "(ILcom/example/throng/throng/engine/Count;)V" } : Jvm.MethodName) prog_42_method_4_code (3 : Nat) (Option.none : Option Jvm.ClassFile.FieldType), Jvm.Cond.code ({ cls := "com/example/throng/throng/engine/Count$Array", name := "set", desc := "(IJ)V" } : Jvm.MethodName) prog_42_method_6_code (4 : Nat) (Option.none : Option Jvm.ClassFile.FieldType), Jvm.Cond.code ({ cls := "com/example/throng/throng/engine/Count$Array", name := "set", desc := "(ILcom/example/throng/throng/engine/Count$Array;I)V" } : Jvm.MethodName) prog_42_method_5_code (4 : Nat) (Option.none : Option Jvm.ClassFile.FieldType), Jvm.Cond.code ({ cls := "com/example/throng/throng/engine/Count$Array", name := "get", desc := "(I)Lcom/example/throng/throng/engine/Count;" } : Jvm.MethodName) prog_42_method_3_code (2 : Nat) (Option.some (Jvm.ClassFile.FieldType.object "com/example/throng/throng/engine/Count")), Jvm.Cond.code ({ cls := "com/example/throng/throng/engine/Count", name := "equals", desc := "(Ljava/lang/Object;)Z" } : Jvm.MethodName) prog_41_method_16_code (3 : Nat) (Option.some Jvm.ClassFile.FieldType.boolean), Jvm.Cond.code ({ cls := "com/example/throng/throng/engine/Count$Array", name := "signum", desc := "(I)I" } : Jvm.MethodName) prog_42_method_7_code (5 : Nat) (Option.some Jvm.ClassFile.FieldType.int), Jvm.Cond.code ({ cls := "java/lang/Long", name := "signum", desc := "(J)I" } : Jvm.MethodName) jdk_35_method_57_code (2 : Nat) (Option.some Jvm.ClassFile.FieldType.int)]
set_option maxRecDepth 65536 in
theorem codes_eq : words1.filter isCode = codes1 := rfl
theorem w_codes : ∀ c ∈ words1.filter isCode, c.before args0 about1 = true := by
  rw [codes_eq]
  intro c hc
  simp only [codes1, List.mem_cons, List.not_mem_nil, or_false] at hc
  rcases hc with rfl | rfl | rfl | rfl | rfl | rfl | rfl | rfl | rfl | rfl | rfl | rfl | rfl | rfl | rfl
  · exact w_c0
  · exact w_c1
  · exact w_c2
  · exact w_c3
  · exact w_c4
  · exact w_c5
  · exact w_c6
  · exact w_c7
  · exact w_c8
  · exact w_c9
  · exact w_c10
  · exact w_c11
  · exact w_c12
  · exact w_c13
  · exact w_c14
set_option maxRecDepth 65536 in
theorem w_t1 : (words1.take 24).all (fun c => isCode c || c.before args0 about1) = true := by decide +kernel
set_option maxRecDepth 65536 in
theorem w_t2 : ((words1.drop 24).take 24).all (fun c => isCode c || c.before args0 about1) = true := by decide +kernel
set_option maxRecDepth 65536 in
theorem w_t3 : (((words1.drop 24).drop 24).take 24).all (fun c => isCode c || c.before args0 about1) = true := by decide +kernel
set_option maxRecDepth 65536 in
theorem w_t4 : (((words1.drop 24).drop 24).drop 24).all (fun c => isCode c || c.before args0 about1) = true := by decide +kernel
theorem w_tables : (allAtoms (Jvm.Cond.code x code maxLocals ret :: tables_1)).before args0 about1 = true := by
  rw [allAtoms_all]
  show words1.all (fun c => c.before args0 about1) = true
  refine all_split ?_ w_codes
  rw [← List.take_append_drop 24 words1, List.all_append, w_t1, ← List.take_append_drop 24 (words1.drop 24), List.all_append, w_t2, ← List.take_append_drop 24 ((words1.drop 24).drop 24), List.all_append, w_t3, w_t4]
  rfl
set_option maxRecDepth 65536 in
theorem w_case : (Jvm.Cond.and given_1 narrow_1).before args0 about1 = true := by decide +kernel
theorem w_applies : (headSpec (Jvm.Cond.code x code maxLocals ret :: tables_1) room_1).applies x e0.platform about1 = true :=
  (Spec.applies_iff w_frames).mpr ⟨w_running, w_runnable, w_alone, w_named, w_hears, w_ripe, w_room, w_tables⟩
theorem atStart : AtStart classFile x code maxLocals ret World_1 tables_1 room_1 Calls_1 rest_1 Pre_1 launch0 p0 e0 about1 theMethod args0 below0 :=
  ⟨lists_1, trivial, launch0.admits_env _ _ _, launch0.least_env, fairChoices_fair.cas, fairChoices_fair.clock, w_frames, w_args, w_heap, w_applies, trivial, trivial, w_case⟩
end start1
theorem witness_1 : WitnessClaimed_1 := ⟨start1.p0, start1.e0, start1.about1, start1.theMethod, start1.args0, start1.below0, start1.atStart⟩
end Jvm.Pilot.@@N@@
