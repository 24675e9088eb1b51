import JvmDerived
import JvmDerived.Pilot.@@N@@Statement
import JvmDerived.Pilot.@@N@@Code
set_option linter.unusedVariables false
set_option linter.unusedSimpArgs false
namespace Jvm.Pilot.@@N@@
open Jvm Jvm.ClassFile Sem Op Lib Jvm.Free Jvm.Stand Jvm.LawKit Jvm.RoadKit Bundle Jvm.Pilot.@@N@@.Jvm.D
/-! from A on the run returns, and F holds of the end -/
def own_Goes (p : Program) (e : Env) (below : List Frame) (F : State → Outcome → Prop) (A : State) : Prop := ∃ s₂ o, Steps p.tables e below A s₂ ∧ s₂.status = .running ∧ Ended s₂ below o ∧ F s₂ o
/-- the narrow end: Q of what it returned, of the heap and of the places written; the frame -/
def own_FN (s : State) (Q : Option Value → Heap → List Loc → Prop) (k n : Nat) : State → Outcome → Prop := fun s₂ o => ∃ v L, o = .returned v ∧ Q v s₂.heap L ∧ FrameEnd s o s₂ L k n
section OwnGoes
variable {p : Program} {l : Launch} {e : Env} {R : Room} {s : State} {m : MethodId} {args : Array Value} {below : List Frame} {meth : Method} {c : Code} {T : State} {locs : List Loc} {cells slots : Nat} {Q : Option Value → Heap → List Loc → Prop} {k n : Nat} {F : State → Outcome → Prop}
theorem own_to {A B : State} (h : ∀ t, Steps p.tables e below B t → Steps p.tables e below A t) (g : own_Goes p e below F B) : own_Goes p e below F A := by
  obtain ⟨s₂, o, h1, r⟩ := g
  exact ⟨s₂, o, h _ h1, r⟩
theorem own_tr {A B : State} (h : Steps p.tables e below A B) (g : own_Goes p e below F B) : own_Goes p e below F A := own_to (fun t q => h.trans q) g
/-! the shapes of a step: what lies on the stack and in the locals behind it -/
theorem own_tp {T' : State} {pc : Nat} {L : Array Slot} {S : List Value} (w : Value) (pc' : Nat) (h : ∀ t, Steps p.tables e below (T'.setTop (mkF m pc' L (w :: S))) t → Steps p.tables e below (T.setTop (mkF m pc L S)) t) (g : own_Goes p e below F (T'.setTop (mkF m pc' L (w :: S)))) : own_Goes p e below F (T.setTop (mkF m pc L S)) := own_to h g
theorem own_t1 {T' : State} {pc : Nat} {L : Array Slot} {S : List Value} {x : Value} (w : Value) (pc' : Nat) (h : ∀ t, Steps p.tables e below (T'.setTop (mkF m pc' L (w :: S))) t → Steps p.tables e below (T.setTop (mkF m pc L (x :: S))) t) (g : own_Goes p e below F (T'.setTop (mkF m pc' L (w :: S)))) : own_Goes p e below F (T.setTop (mkF m pc L (x :: S))) := own_to h g
theorem own_t2 {T' : State} {pc : Nat} {L : Array Slot} {S : List Value} {x y : Value} (w : Value) (pc' : Nat) (h : ∀ t, Steps p.tables e below (T'.setTop (mkF m pc' L (w :: S))) t → Steps p.tables e below (T.setTop (mkF m pc L (x :: y :: S))) t) (g : own_Goes p e below F (T'.setTop (mkF m pc' L (w :: S)))) : own_Goes p e below F (T.setTop (mkF m pc L (x :: y :: S))) := own_to h g
theorem own_d0 {T' : State} {pc : Nat} {L : Array Slot} {S : List Value} (pc' : Nat) (h : ∀ t, Steps p.tables e below (T'.setTop (mkF m pc' L S)) t → Steps p.tables e below (T.setTop (mkF m pc L S)) t) (g : own_Goes p e below F (T'.setTop (mkF m pc' L S))) : own_Goes p e below F (T.setTop (mkF m pc L S)) := own_to h g
theorem own_d1 {T' : State} {pc : Nat} {L : Array Slot} {S : List Value} {x : Value} (pc' : Nat) (h : ∀ t, Steps p.tables e below (T'.setTop (mkF m pc' L S)) t → Steps p.tables e below (T.setTop (mkF m pc L (x :: S))) t) (g : own_Goes p e below F (T'.setTop (mkF m pc' L S))) : own_Goes p e below F (T.setTop (mkF m pc L (x :: S))) := own_to h g
theorem own_d2 {T' : State} {pc : Nat} {L : Array Slot} {S : List Value} {x y : Value} (pc' : Nat) (h : ∀ t, Steps p.tables e below (T'.setTop (mkF m pc' L S)) t → Steps p.tables e below (T.setTop (mkF m pc L (x :: y :: S))) t) (g : own_Goes p e below F (T'.setTop (mkF m pc' L S))) : own_Goes p e below F (T.setTop (mkF m pc L (x :: y :: S))) := own_to h g
theorem own_cs {T' : State} {pc : Nat} {L : Array Slot} {S : List Value} (S' : List Value) (pc' : Nat) (h : ∀ t, Steps p.tables e below (T'.setTop (mkF m pc' L S')) t → Steps p.tables e below (T.setTop (mkF m pc L S)) t) (g : own_Goes p e below F (T'.setTop (mkF m pc' L S'))) : own_Goes p e below F (T.setTop (mkF m pc L S)) := own_to h g
theorem own_csR {T' : State} {pc : Nat} {L : Array Slot} {S : List Value} (S' : List Value) (pc' : Nat) (h : Steps p.tables e below (T.setTop (mkF m pc L S)) (T'.setTop (mkF m pc' L S'))) (g : own_Goes p e below F (T'.setTop (mkF m pc' L S'))) : own_Goes p e below F (T.setTop (mkF m pc L S)) := own_tr h g
theorem own_ls {T' : State} {pc : Nat} {L : Array Slot} {S : List Value} {x : Value} (L' : Array Slot) (pc' : Nat) (h : ∀ t, Steps p.tables e below (T'.setTop (mkF m pc' L' S)) t → Steps p.tables e below (T.setTop (mkF m pc L (x :: S))) t) (g : own_Goes p e below F (T'.setTop (mkF m pc' L' S))) : own_Goes p e below F (T.setTop (mkF m pc L (x :: S))) := own_to h g
theorem own_li {T' : State} {pc : Nat} {L : Array Slot} {S : List Value} (L' : Array Slot) (pc' : Nat) (h : ∀ t, Steps p.tables e below (T'.setTop (mkF m pc' L' S)) t → Steps p.tables e below (T.setTop (mkF m pc L S)) t) (g : own_Goes p e below F (T'.setTop (mkF m pc' L' S))) : own_Goes p e below F (T.setTop (mkF m pc L S)) := own_to h g
theorem own_start {A B : State} (h : ∀ t, Steps p.tables e below B t → Steps p.tables e below A t) (g : own_Goes p e below (own_FN s Q k n) B) :
    ∃ s₂ o, Steps p.tables e below A s₂ ∧ s₂.status = .running ∧ Ended s₂ below o ∧ ∃ v L, o = .returned v ∧ Q v s₂.heap L ∧ FrameEnd s o s₂ L k n := own_to h g
theorem own_retN (X : Stand p l e R s m args below meth c T locs cells slots) (hx : p.tables.exec = Jvm.exec) {pc : Nat} {Ls : Array Slot} {z : Int32} {t : FieldType} {rest : List Value} (hret : meth.sig.returnType = some t)
    (hd : decode c.code pc = .ok (.ireturn, 1)) (ht : t = .boolean ∨ t = .byte ∨ t = .char ∨ t = .short) (hlk : meth.locks = false) (hk : cells ≤ k) (hn : slots ≤ n) {h : Heap} (eT : T.heap = h) (hQ : Q (some (.int (nar t z))) h locs) :
    own_Goes p e below (own_FN s Q k n) (T.setTop (mkF m pc Ls (.int z :: rest))) := by
  obtain ⟨fs, hr, hrun, hended, hW, hsame⟩ := X.leave (v := some (.int (nar t z))) (fun q => by rw [hret] at q; cases q) hlk
  subst eT
  exact ⟨_, _, retN X hx hret ht hd hr, hrun, hended, _, _, rfl, hQ, ⟨_, rfl⟩, hW, hsame.mono hk hn⟩
theorem own_retI (X : Stand p l e R s m args below meth c T locs cells slots) (hx : p.tables.exec = Jvm.exec) {pc : Nat} {Ls : Array Slot} {z : Int32} {rest : List Value} (hret : meth.sig.returnType = some .int)
    (hd : decode c.code pc = .ok (.ireturn, 1)) (hlk : meth.locks = false) (hk : cells ≤ k) (hn : slots ≤ n) {h : Heap} (eT : T.heap = h) (hQ : Q (some (.int z)) h locs) :
    own_Goes p e below (own_FN s Q k n) (T.setTop (mkF m pc Ls (.int z :: rest))) := by
  obtain ⟨fs, hr, hrun, hended, hW, hsame⟩ := X.leave (v := some (.int z)) (fun q => by rw [hret] at q; cases q) hlk
  subst eT
  exact ⟨_, _, retOut X hx hret rfl (Or.inl ⟨rfl, Or.inl rfl, z, rfl⟩) hd hr, hrun, hended, _, _, rfl, hQ, ⟨_, rfl⟩, hW, hsame.mono hk hn⟩
theorem own_retJ (X : Stand p l e R s m args below meth c T locs cells slots) (hx : p.tables.exec = Jvm.exec) {pc : Nat} {Ls : Array Slot} {z : Int64} {rest : List Value} (hret : meth.sig.returnType = some .long)
    (hd : decode c.code pc = .ok (.lreturn, 1)) (hlk : meth.locks = false) (hk : cells ≤ k) (hn : slots ≤ n) {h : Heap} (eT : T.heap = h) (hQ : Q (some (.long z)) h locs) :
    own_Goes p e below (own_FN s Q k n) (T.setTop (mkF m pc Ls (.long z :: rest))) := by
  obtain ⟨fs, hr, hrun, hended, hW, hsame⟩ := X.leave (v := some (.long z)) (fun q => by rw [hret] at q; cases q) hlk
  subst eT
  exact ⟨_, _, retOut X hx hret rfl (Or.inr (Or.inl ⟨rfl, rfl, z, rfl⟩)) hd hr, hrun, hended, _, _, rfl, hQ, ⟨_, rfl⟩, hW, hsame.mono hk hn⟩
theorem own_nref {t : FieldType} {w : Value} (ht : t.isReference = true) : narrow t w = w := by cases t <;> first | rfl | (exact Bool.noConfusion ht)
theorem own_fits {t : FieldType} {w : Value} (ht : t.isReference = true) (hw : w.isRef = true) : fits t w = true := by
  cases t <;> first | (exact Bool.noConfusion ht) | (cases w <;> first | rfl | (exact Bool.noConfusion hw))
theorem own_retR (X : Stand p l e R s m args below meth c T locs cells slots) (hx : p.tables.exec = Jvm.exec) {pc : Nat} {Ls : Array Slot} {w : Value} {t : FieldType} {rest : List Value} (hret : meth.sig.returnType = some t)
    (hd : decode c.code pc = .ok (.areturn, 1)) (ht : t.isReference = true) (hw : w.isRef = true) (hlk : meth.locks = false) (hk : cells ≤ k) (hn : slots ≤ n) {h : Heap} (eT : T.heap = h) (hQ : Q (some w) h locs) :
    own_Goes p e below (own_FN s Q k n) (T.setTop (mkF m pc Ls (w :: rest))) := by
  obtain ⟨fs, hr, hrun, hended, hW, hsame⟩ := X.leave (v := some w) (fun q => by rw [hret] at q; cases q) hlk
  subst eT
  exact ⟨_, _, retOut X hx hret (own_nref ht) (Or.inr (Or.inr (Or.inr (Or.inr ⟨rfl, ht, hw⟩)))) hd hr, hrun, hended, _, _, rfl, hQ, ⟨_, rfl⟩, hW, hsame.mono hk hn⟩
theorem own_retV (X : Stand p l e R s m args below meth c T locs cells slots) (hx : p.tables.exec = Jvm.exec) {pc : Nat} {Ls : Array Slot} (hret : meth.sig.returnType = none)
    (hd : decode c.code pc = .ok (.return_, 1)) (hlk : meth.locks = false) (hk : cells ≤ k) (hn : slots ≤ n) {h : Heap} (eT : T.heap = h) (hQ : Q none h locs) :
    own_Goes p e below (own_FN s Q k n) (T.setTop (mkF m pc Ls [])) := by
  obtain ⟨fs, hr, hrun, hended, hW, hsame⟩ := X.leave (v := none) (fun _ => rfl) hlk
  subst eT
  exact ⟨_, _, X.returnOut hx hret hd hr, hrun, hended, _, _, rfl, hQ, ⟨_, rfl⟩, hW, hsame.mono hk hn⟩
end OwnGoes

/-- a body's contract, in lawnew's form -/
abbrev own_Met (l : Launch) (y : MethodName) (bytes : ByteArray) (ml : Nat) (rt : Option FieldType) (ws : List Jvm.Cond) (rm : Room) (Z : State) (as' : Array Value) (h0 : Heap) (Q : Option Value → Heap → List Loc → Prop) : Prop :=
  MetFree l y (head1 (Jvm.Cond.code y bytes ml rt :: ws) rm) (fun a U => a = as' ∧ Z.Warmed39 U.vm ∧ U.heap = h0) (fun _ _ _ _ _ => True) (fun _ U o U' => ∃ v L, o = .returned v ∧ Q v U'.heap L ∧ FrameEnd U o U' L rm.cells rm.slots)
theorem own_enter {l : Launch} {y : MethodName} {bytes : ByteArray} {ml : Nat} {rt : Option FieldType} {ws : List Jvm.Cond} {rm : Room} {Z : State} {as' : Array Value} {h0 : Heap} {Q : Option Value → Heap → List Loc → Prop} (L0 : Array Slot) (hp : plainFor y = true) (ef : ∀ m, entryFrame m as' ml = mkF m 0 L0 [])
    (go : ∀ (p : Program) (e : Env) (s : State) (m : MethodId) (below : List Frame) (meth : Method) (c : Code) (s₁ : State), p.tables.exec = Jvm.exec → c.code = bytes → c.maxLocals = ml → s.vm.findClass y.cls = some m.cls → meth.name = y.name → Z.Warmed39 s.vm → meth.sig.returnType = rt → meth.locks = false → Stand p l e rm s m as' below meth c s₁ [] 0 0 → s₁.heap = h0 → own_Goes p e below (own_FN s Q rm.cells rm.slots) (s₁.setTop (mkF m 0 L0 []))) :
    own_Met l y bytes ml rt ws rm Z as' h0 Q := by
  refine MetFree.of_bodySF hp hisR ?_
  intro p e s m args below meth c s₁ Bd hml0 hP hK
  obtain ⟨rfl, hZ, hh⟩ := hP
  have g := go p e s m below meth c s₁ Bd.exec Bd.bytes hml0 (findClass_of_methodNamed Bd.named) (name_of_methodNamed Bd.named Bd.method).1 hZ Bd.returns Bd.notSynchronized (Stand.of_body Bd) (by rw [← hh, Bd.state]; rfl)
  exact own_start (fun t k => castTop (ef m) k) g
def Q0 (h0 : Heap) (n0 : Nat) (v : Option Value) (h : Heap) (L : List Loc) : Prop := v = some (.int 1) ∧ Fr n0 L
/-! the wide end: String constants may have been loaded meanwhile -/
def own_FW (Z : State) (EL : List (String × Nat)) (s : State) (h0 : Heap) (Q : Option Value → Heap → List Loc → Prop) (k n : Nat) : State → Outcome → Prop :=
  fun s₂ o => ∃ v L, o = .returned v ∧ Q v s₂.heap L ∧ CHr Z EL s.vm h0 s₂.vm s₂.heap ∧ ReturnedEndW s o s₂ L k n
/-- what a wide walk bears along, at the tables vm0 and the heap h -/
def own_Wd (Z : State) (a0 : Array Value) (EL : List (String × Nat)) (s : State) (h0 : Heap) (vm0 : Vm) (h : Heap) : Prop :=
  ∃ k0, s.Since vm0 k0 ∧ k0 ≤ h.size ∧ Z.Warmed39 vm0 ∧ EW Z a0 EL ∧ CHr Z EL s.vm h0 vm0 h
section OwnWide
variable {p : Program} {l : Launch} {e : Env} {R : Room} {s : State} {m : MethodId} {args : Array Value} {below : List Frame} {meth : Method} {c : Code} {T : State} {locs : List Loc} {cells slots : Nat} {Q : Option Value → Heap → List Loc → Prop} {k n : Nat}
variable {Z : State} {a0 : Array Value} {EL : List (String × Nat)} {h0 h h' : Heap} {vm0 vm1 : Vm}
theorem own_Wd.start (hZ : Z.Warmed39 s.vm) (hE : EW Z a0 EL) (hC : CHv Z EL s.vm h0) : own_Wd Z a0 EL s h0 s.vm h0 := ⟨0, (State.WarmedH.refl s).since 0, Nat.zero_le _, hZ, hE, CHr.refl hC⟩
theorem own_Wd.hZ (W : own_Wd Z a0 EL s h0 vm0 h) : Z.Warmed39 vm0 := by obtain ⟨_, _, _, q, _⟩ := W; exact q
theorem own_Wd.hE (W : own_Wd Z a0 EL s h0 vm0 h) : EW Z a0 EL := by obtain ⟨_, _, _, _, q, _⟩ := W; exact q
theorem own_Wd.chr (W : own_Wd Z a0 EL s h0 vm0 h) : CHr Z EL s.vm h0 vm0 h := by obtain ⟨_, _, _, _, _, q⟩ := W; exact q
theorem own_Wd.chv (W : own_Wd Z a0 EL s h0 vm0 h) : CHv Z EL vm0 h := W.chr.1
theorem own_Wd.ext (W : own_Wd Z a0 EL s h0 vm0 h) (E : Ext h h') : own_Wd Z a0 EL s h0 vm0 h' := by
  obtain ⟨k0, a, b, c, d, q⟩ := W
  exact ⟨k0, a, Nat.le_trans b E.1, c, d, q.trans (CHr.ext E q.1)⟩
theorem own_Wd.wr {a : Addr} {sl : Nat} {v : Value} (W : own_Wd Z a0 EL s h0 vm0 h) (w : Wr h h' a sl v) (S : Safe Z EL vm0 h a) : own_Wd Z a0 EL s h0 vm0 h' := by
  obtain ⟨k0, a, b, c, d, q⟩ := W
  exact ⟨k0, a, Nat.le_trans b (Nat.le_of_eq w.size.symm), c, d, q.trans (CHr.wr w S q.1)⟩
theorem own_Wd.keep {ws : List Addr} (W : own_Wd Z a0 EL s h0 vm0 h) (K : Keep h h' ws) (hs : ∀ x ∈ ws, Safe Z EL vm0 h x) : own_Wd Z a0 EL s h0 vm0 h' := by
  obtain ⟨k0, a, b, c, d, q⟩ := W
  exact ⟨k0, a, Nat.le_trans b K.1, c, d, q.trans (CHr.keep K hs q.1)⟩
theorem own_Wd.call {U : State} (W : own_Wd Z a0 EL s h0 vm0 h) (hS : (s.setVm vm0).Since U.vm U.heap.size) (C : CHr Z EL vm0 h U.vm U.heap) : own_Wd Z a0 EL s h0 U.vm U.heap := by
  obtain ⟨k0, a, b, c, d, q⟩ := W
  exact ⟨_, a.trans hS (Nat.le_trans b C.2.1), Nat.le_refl _, State.Warmed39.trans (t := s.setVm vm0) c hS.1, d, q.trans C⟩
theorem own_since_own {own : String} {U : State} {c : ClassId} (hS : (s.setVm vm0).Since U.vm n) (hown : vm0.findClass own = some c) : U.vm.findClass own = some c := (hS.1.alike.findClass _ _).trans hown
theorem own_startW {A B : State} (hh : s.heap = h0) (g1 : ∀ t, Steps p.tables e below B t → Steps p.tables e below A t) (g : own_Goes p e below (own_FW Z EL s h0 Q k n) B) :
    ∃ s₂ o, Steps p.tables e below A s₂ ∧ s₂.status = .running ∧ Ended s₂ below o ∧ ∃ v L, o = .returned v ∧ Q v s₂.heap L ∧ CHr Z EL s.vm s.heap s₂.vm s₂.heap ∧ ReturnedEndW s o s₂ L k n := by
  subst hh; exact own_to g1 g
theorem own_REW {s t : State} {o : Outcome} {L : List Loc} {k k' n n' : Nat} (h : ReturnedEndW s o t L k n) (hk : k ≤ k') (hn : n ≤ n') : ReturnedEndW s o t L k' n' := ⟨h.1, h.2.1, h.2.2.1, h.2.2.2.mono hk hn⟩
theorem own_leaveW (X : Stand p l e R (s.setVm vm0) m args below meth c T locs cells slots) (eT : T.heap = h) (W : own_Wd Z a0 EL s h0 vm0 h) (hlk : meth.locks = false) (hk : cells ≤ k) (hn : slots ≤ n) {v : Option Value} (hv : meth.sig.returnType = none → v = none) (hQ : Q v h locs) :
    ∃ fs, (∀ (f : JFrame) (acts : List Action), f.method = m → f.locked = none → f.entered = [] → (doReturn e (T.setTop f) acts v).1 = T.setFrames fs) ∧ (T.setFrames fs).status = .running ∧ Ended (T.setFrames fs) below (.returned v) ∧ own_FW Z EL s h0 Q k n (T.setFrames fs) (.returned v) := by
  subst eT
  obtain ⟨k0, hS, hk0, hZ, hE, hC⟩ := W
  obtain ⟨fs, h1, h2, h3, h4⟩ := X.leaveW hS hk0 hv hlk
  exact ⟨fs, h1, h2, h3, v, locs, rfl, hQ, hC.trans (show CHr Z EL vm0 T.heap T.vm T.heap from CHv.at X hZ hE hC.1), own_REW h4 hk hn⟩
theorem own_retNW (X : Stand p l e R (s.setVm vm0) m args below meth c T locs cells slots) (hx : p.tables.exec = Jvm.exec) {pc : Nat} {Ls : Array Slot} {z : Int32} {t : FieldType} {rest : List Value} (hret : meth.sig.returnType = some t)
    (hd : decode c.code pc = .ok (.ireturn, 1)) (ht : t = .boolean ∨ t = .byte ∨ t = .char ∨ t = .short) (hlk : meth.locks = false) (hk : cells ≤ k) (hn : slots ≤ n) (eT : T.heap = h) (W : own_Wd Z a0 EL s h0 vm0 h) (hQ : Q (some (.int (nar t z))) h locs) :
    own_Goes p e below (own_FW Z EL s h0 Q k n) (T.setTop (mkF m pc Ls (.int z :: rest))) := by
  obtain ⟨fs, hr, hrun, hended, hF⟩ := own_leaveW X eT W hlk hk hn (v := some (.int (nar t z))) (fun q => by rw [hret] at q; cases q) hQ
  exact ⟨_, _, retN X hx hret ht hd hr, hrun, hended, hF⟩
theorem own_retIW (X : Stand p l e R (s.setVm vm0) m args below meth c T locs cells slots) (hx : p.tables.exec = Jvm.exec) {pc : Nat} {Ls : Array Slot} {z : Int32} {rest : List Value} (hret : meth.sig.returnType = some .int)
    (hd : decode c.code pc = .ok (.ireturn, 1)) (hlk : meth.locks = false) (hk : cells ≤ k) (hn : slots ≤ n) (eT : T.heap = h) (W : own_Wd Z a0 EL s h0 vm0 h) (hQ : Q (some (.int z)) h locs) :
    own_Goes p e below (own_FW Z EL s h0 Q k n) (T.setTop (mkF m pc Ls (.int z :: rest))) := by
  obtain ⟨fs, hr, hrun, hended, hF⟩ := own_leaveW X eT W hlk hk hn (v := some (.int z)) (fun q => by rw [hret] at q; cases q) hQ
  exact ⟨_, _, retOut X hx hret rfl (Or.inl ⟨rfl, Or.inl rfl, z, rfl⟩) hd hr, hrun, hended, hF⟩
theorem own_retRW (X : Stand p l e R (s.setVm vm0) m args below meth c T locs cells slots) (hx : p.tables.exec = Jvm.exec) {pc : Nat} {Ls : Array Slot} {w : Value} {t : FieldType} {rest : List Value} (hret : meth.sig.returnType = some t)
    (hd : decode c.code pc = .ok (.areturn, 1)) (ht : t.isReference = true) (hw : w.isRef = true) (hlk : meth.locks = false) (hk : cells ≤ k) (hn : slots ≤ n) (eT : T.heap = h) (W : own_Wd Z a0 EL s h0 vm0 h) (hQ : Q (some w) h locs) :
    own_Goes p e below (own_FW Z EL s h0 Q k n) (T.setTop (mkF m pc Ls (w :: rest))) := by
  obtain ⟨fs, hr, hrun, hended, hF⟩ := own_leaveW X eT W hlk hk hn (v := some w) (fun q => by rw [hret] at q; cases q) hQ
  exact ⟨_, _, retOut X hx hret (own_nref ht) (Or.inr (Or.inr (Or.inr (Or.inr ⟨rfl, ht, hw⟩)))) hd hr, hrun, hended, hF⟩
theorem own_retVW (X : Stand p l e R (s.setVm vm0) m args below meth c T locs cells slots) (hx : p.tables.exec = Jvm.exec) {pc : Nat} {Ls : Array Slot} (hret : meth.sig.returnType = none)
    (hd : decode c.code pc = .ok (.return_, 1)) (hlk : meth.locks = false) (hk : cells ≤ k) (hn : slots ≤ n) (eT : T.heap = h) (W : own_Wd Z a0 EL s h0 vm0 h) (hQ : Q none h locs) :
    own_Goes p e below (own_FW Z EL s h0 Q k n) (T.setTop (mkF m pc Ls [])) := by
  obtain ⟨fs, hr, hrun, hended, hF⟩ := own_leaveW X eT W hlk hk hn (v := none) (fun _ => rfl) hQ
  exact ⟨_, _, X.returnOut hx hret hd hr, hrun, hended, hF⟩
/-- ldc of a constant whose text is known -/
theorem own_ldc (X : Stand p l e R (s.setVm vm0) m args below meth c T locs cells slots) (hx : p.tables.exec = Jvm.exec) (W : own_Wd Z a0 EL s h0 vm0 h) {own text : String} {index : Nat} (hown : vm0.findClass own = some m.cls) (w : (Cond.stringLink own index text).before a0 Z = true) (wS : ∀ a ∈ Bundle.stringAtoms, a.before a0 Z = true)
    (eT : T.heap = h) (hmem : (own, index) ∈ EL) {vs : List Value} {z : Int32} (ht : (∀ c ∈ text.toList, c.toNat < 256) ∧ text.toList.map (fun c => Value.int (Jvm.Lit.byteI c.toNat.toUInt16)) = vs) (hz : ¬ z < 0) (hl : z.toNatClampNeg = vs.length)
    {g : JFrame} (hg : g.method = m) (hd : decode c.code g.pc = .ok (.ldc index, 2)) {n : Nat} (hn : 4 * text.toList.length ≤ n) (hbig : n ≤ 536870912) (hc : cells + 2 ≤ R.cells) (hl' : slots + (n + 4) ≤ R.slots) :
    ∃ (a : Addr) (T' : State) (h' : Heap) (b : Addr) (k : ClassId), Stand p l e R (s.setVm T'.vm) m args below meth c T' locs (cells + 2) (slots + (n + 4)) ∧ T'.heap = h' ∧ Ext h h' ∧ own_Wd Z a0 EL s h0 T'.vm h' ∧ T'.vm.findClass own = some m.cls ∧
      Exa Z h' a "java/lang/String" ∧ Fld Z h' a "java/lang/String" "coder" "B" (.int 0) ∧ Fld Z h' a "java/lang/String" "value" "[B" (.ref b) ∧ Arv Z h' b k .byte z vs (.int 0) ∧ CHr Z EL vm0 h T'.vm h' ∧ (∀ x, Safe Z EL T'.vm h' x → x ≠ a ∧ x ≠ b) ∧
      ∀ target, Steps p.tables e below (T'.setTop { g with pc := g.pc + 2, stack := .ref a :: g.stack }) target → Steps p.tables e below (T.setTop g) target := by
  obtain ⟨k0, hS, hk0, hZ, hE, hC⟩ := W
  obtain ⟨a, T', h', k1, b, k, r1, r2, r3, r4, r5, r6, r7, r8, r9, r10, r11, -, -, r14, -, r16, r17⟩ := ldcCH X hx hZ hown w wS eT hS hk0 hE hmem hC.1 ht hz hl hg hd hn hbig hc hl'
  exact ⟨a, T', h', b, k, r1, r2, r3, ⟨k1, r4, r5, r6, hE, hC.trans r14⟩, r7, r8, r9, r10, r11, r14, r16, r17⟩
/-- ldc of a constant whose text isn't asked -/
theorem own_ldcO (X : Stand p l e R (s.setVm vm0) m args below meth c T locs cells slots) (hx : p.tables.exec = Jvm.exec) (W : own_Wd Z a0 EL s h0 vm0 h) {own text : String} {index : Nat} (hown : vm0.findClass own = some m.cls) (w : (Cond.stringLink own index text).before a0 Z = true) (wS : ∀ a ∈ Bundle.stringAtoms, a.before a0 Z = true)
    (eT : T.heap = h) {g : JFrame} (hg : g.method = m) (hd : decode c.code g.pc = .ok (.ldc index, 2)) {n : Nat} (hn : 4 * text.toList.length ≤ n) (hbig : n ≤ 536870912) (hc : cells + 2 ≤ R.cells) (hl' : slots + (n + 4) ≤ R.slots) :
    ∃ (a : Addr) (T' : State) (h' : Heap), Stand p l e R (s.setVm T'.vm) m args below meth c T' locs (cells + 2) (slots + (n + 4)) ∧ T'.heap = h' ∧ Ext h h' ∧ own_Wd Z a0 EL s h0 T'.vm h' ∧ T'.vm.findClass own = some m.cls ∧ CHr Z EL vm0 h T'.vm h' ∧
      ∀ target, Steps p.tables e below (T'.setTop { g with pc := g.pc + 2, stack := .ref a :: g.stack }) target → Steps p.tables e below (T.setTop g) target := by
  obtain ⟨k0, hS, hk0, hZ, hE, hC⟩ := W
  obtain ⟨a, T', h', k1, r1, r2, r3, r4, r5, r6, r7, r8, -, r9⟩ := ldcOH X hx hZ hown w wS eT hS hk0 hE hC.1 hg hd hn hbig hc hl'
  exact ⟨a, T', h', r1, r2, r3, ⟨k1, r4, r5, r6, hE, hC.trans r8⟩, r7, r8, r9⟩
end OwnWide
/-- a body's contract where String constants may be loaded -/
abbrev own_MetW (EL : List (String × Nat)) (l : Launch) (y : MethodName) (bytes : ByteArray) (ml : Nat) (rt : Option FieldType) (ws : List Jvm.Cond) (rm : Room) (Z : State) (as' : Array Value) (h0 : Heap) (Q : Option Value → Heap → List Loc → Prop) : Prop :=
  MetFree l y (head1 (Jvm.Cond.code y bytes ml rt :: ws) rm) (fun a U => a = as' ∧ Z.Warmed39 U.vm ∧ U.heap = h0 ∧ CHv Z EL U.vm h0) (fun _ _ _ _ _ => True) (fun _ U o U' => ∃ v L, o = .returned v ∧ Q v U'.heap L ∧ CHr Z EL U.vm U.heap U'.vm U'.heap ∧ ReturnedEndW U o U' L rm.cells rm.slots)
theorem own_enterW {EL : List (String × Nat)} {l : Launch} {y : MethodName} {bytes : ByteArray} {ml : Nat} {rt : Option FieldType} {ws : List Jvm.Cond} {rm : Room} {Z : State} {as' : Array Value} {h0 : Heap} {Q : Option Value → Heap → List Loc → Prop} (L0 : Array Slot) (hp : plainFor y = true) (ef : ∀ m, entryFrame m as' ml = mkF m 0 L0 []) {a0 : Array Value} (hE : EW Z a0 EL)
    (go : ∀ (p : Program) (e : Env) (s : State) (m : MethodId) (below : List Frame) (meth : Method) (c : Code) (s₁ : State), p.tables.exec = Jvm.exec → c.code = bytes → c.maxLocals = ml → (s.setVm s.vm).vm.findClass y.cls = some m.cls → meth.name = y.name → Z.Warmed39 (s.setVm s.vm).vm → meth.sig.returnType = rt → meth.locks = false → Stand p l e rm (s.setVm s.vm) m as' below meth c s₁ [] 0 0 → s₁.heap = h0 → own_Wd Z a0 EL s h0 s.vm h0 → own_Goes p e below (own_FW Z EL s h0 Q rm.cells rm.slots) (s₁.setTop (mkF m 0 L0 []))) :
    own_MetW EL l y bytes ml rt ws rm Z as' h0 Q := by
  refine MetFree.of_bodySF hp hisR ?_
  intro p e s m args below meth c s₁ Bd hml0 hP hK
  obtain ⟨rfl, hZ, hh, hC⟩ := hP
  have g := go p e s m below meth c s₁ Bd.exec Bd.bytes hml0 (findClass_of_methodNamed Bd.named) (name_of_methodNamed Bd.named Bd.method).1 hZ Bd.returns Bd.notSynchronized (Stand.of_body Bd) (by rw [← hh, Bd.state]; rfl) (own_Wd.start hZ hE hC)
  exact own_startW hh (fun t k => castTop (ef m) k) g

theorem own_wS {a0 : Array Value} {Z : State} (hw : ∀ d ∈ tables_1, d.before a0 Z = true) : ∀ a ∈ Bundle.stringAtoms, a.before a0 Z = true := fun d hd => hw d ((by decide +kernel : ∀ d ∈ Bundle.stringAtoms, d ∈ tables_1) d hd)
theorem own_safeV {Z : State} {EL : List (String × Nat)} {vm : Vm} {h : Heap} {x : Addr} {k : ClassId} {ty : FieldType} {z : Int32} {vs : List Value} {d : Value} (hal : Z.vm.Alike vm) (V : Arv Z h x k ty z vs d) (ht : ty ≠ .byte) : Safe Z EL vm h x := by
  obtain ⟨c, A, -⟩ := V
  exact Safe.arr hal A ht
def own_EL : List (String × Nat) := [("com/example/cited_experts/citedexperts/EmailAddress", 72)]
theorem own_l97 : (97 : Int32).toInt = 97 := rfl
theorem own_l122 : (122 : Int32).toInt = 122 := rfl
theorem own_l65 : (65 : Int32).toInt = 65 := rfl
theorem own_l90 : (90 : Int32).toInt = 90 := rfl
theorem own_l48 : (48 : Int32).toInt = 48 := rfl
theorem own_l57 : (57 : Int32).toInt = 57 := rfl
theorem own_l46 : (46 : Int32).toInt = 46 := rfl
theorem own_l37 : (37 : Int32).toInt = 37 := rfl
theorem own_l95 : (95 : Int32).toInt = 95 := rfl
theorem own_l43 : (43 : Int32).toInt = 43 := rfl
theorem own_l45 : (45 : Int32).toInt = 45 := rfl
theorem own_l0 : (0 : Int32).toInt = 0 := rfl
theorem own_l255 : (255 : Int32).toInt = 255 := rfl
theorem own_l1 : (1 : Int32).toInt = 1 := rfl
theorem own_l2 : (2 : Int32).toInt = 2 := rfl
theorem own_l3 : (3 : Int32).toInt = 3 := rfl
theorem own_l4 : (4 : Int32).toInt = 4 := rfl
theorem own_lm1 : (-1 : Int32).toInt = -1 := rfl

def own_let (c : Int32) : Int32 := if c < 97 then (if c < 65 then 0 else if 90 < c then 0 else 1) else if 122 < c then (if c < 65 then 0 else if 90 < c then 0 else 1) else 1
def own_ld (c : Int32) : Int32 := if own_let c = 0 then (if c < 48 then 0 else if 57 < c then 0 else 1) else 1
def own_ce (c : Int32) : Int32 := if c < 0 then 0 else if 255 < c then 0 else 1
def own_max (a b : Int32) : Int32 := if a < b then b else a
def own_min (a b : Int32) : Int32 := if b < a then b else a
def own_ix (c : Int32) : Int32 := if 46 = c.toInt8.toInt32 then 0 else if 37 = c.toInt8.toInt32 then 1 else if 95 = c.toInt8.toInt32 then 2 else if 43 = c.toInt8.toInt32 then 3 else if 45 = c.toInt8.toInt32 then 4 else -1
def own_io (c : Int32) : Int32 := if own_ce c = 0 then -1 else own_ix c
def own_loc (c : Int32) : Int32 := if own_ld c = 0 then (if own_io c < 0 then 0 else 1) else 1
def own_e3 (c : Int32) : Int32 := if c = 46 then 1 else if c = 95 then 1 else if c = 37 then 1 else if c = 43 then 1 else if c = 45 then 1 else 0
def own_e2 (c : Int32) : Int32 := if c < 48 then own_e3 c else if 57 < c then own_e3 c else 1
def own_exp (c : Int32) : Int32 := if c < 97 then (if c < 65 then own_e2 c else if 90 < c then own_e2 c else 1) else if 122 < c then (if c < 65 then own_e2 c else if 90 < c then own_e2 c else 1) else 1
theorem own_let_s (c : Int32) : own_let c = if 97 ≤ c.toInt ∧ c.toInt ≤ 122 ∨ 65 ≤ c.toInt ∧ c.toInt ≤ 90 then 1 else 0 := by
  simp only [own_let, Int32.lt_iff_toInt_lt, own_l97, own_l122, own_l65, own_l90, own_l48, own_l57, own_l46, own_l37, own_l95, own_l43, own_l45, own_l0, own_l255, own_l1, own_l2, own_l3, own_l4, own_lm1]
  repeat' split
  all_goals first | rfl | (exfalso; omega)
theorem own_ld_s (c : Int32) : own_ld c = if 97 ≤ c.toInt ∧ c.toInt ≤ 122 ∨ 65 ≤ c.toInt ∧ c.toInt ≤ 90 ∨ 48 ≤ c.toInt ∧ c.toInt ≤ 57 then 1 else 0 := by
  unfold own_ld
  rw [own_let_s]
  by_cases h : 97 ≤ c.toInt ∧ c.toInt ≤ 122 ∨ 65 ≤ c.toInt ∧ c.toInt ≤ 90
  · rw [if_pos h, if_neg (by decide : ¬ (1 : Int32) = 0), if_pos (by omega)]
  · rw [if_neg h, if_pos rfl]
    simp only [Int32.lt_iff_toInt_lt, own_l97, own_l122, own_l65, own_l90, own_l48, own_l57, own_l46, own_l37, own_l95, own_l43, own_l45, own_l0, own_l255, own_l1, own_l2, own_l3, own_l4, own_lm1]
    repeat' split
    all_goals first | rfl | (exfalso; omega)
theorem own_io_s (c : Int32) : own_io c < 0 ↔ ¬ (c.toInt = 46 ∨ c.toInt = 37 ∨ c.toInt = 95 ∨ c.toInt = 43 ∨ c.toInt = 45) := by
  have q := c_i2b c
  have e : own_ce c = 0 ↔ ¬ (0 ≤ c.toInt ∧ c.toInt ≤ 255) := by
    unfold own_ce
    by_cases h1 : c < 0
    · rw [if_pos h1]
      simp only [Int32.lt_iff_toInt_lt, own_l97, own_l122, own_l65, own_l90, own_l48, own_l57, own_l46, own_l37, own_l95, own_l43, own_l45, own_l0, own_l255, own_l1, own_l2, own_l3, own_l4, own_lm1] at h1
      exact ⟨fun _ => by omega, fun _ => rfl⟩
    · rw [if_neg h1]
      by_cases h2 : 255 < c
      · rw [if_pos h2]
        simp only [Int32.lt_iff_toInt_lt, own_l97, own_l122, own_l65, own_l90, own_l48, own_l57, own_l46, own_l37, own_l95, own_l43, own_l45, own_l0, own_l255, own_l1, own_l2, own_l3, own_l4, own_lm1] at h2
        exact ⟨fun _ => by omega, fun _ => rfl⟩
      · rw [if_neg h2]
        simp only [Int32.lt_iff_toInt_lt, own_l97, own_l122, own_l65, own_l90, own_l48, own_l57, own_l46, own_l37, own_l95, own_l43, own_l45, own_l0, own_l255, own_l1, own_l2, own_l3, own_l4, own_lm1] at h1 h2
        exact ⟨fun k => absurd k (by decide), fun k => absurd ⟨by omega, by omega⟩ k⟩
  unfold own_io
  by_cases h : own_ce c = 0
  · rw [if_pos h]
    rw [e] at h
    simp only [Int32.lt_iff_toInt_lt, own_l97, own_l122, own_l65, own_l90, own_l48, own_l57, own_l46, own_l37, own_l95, own_l43, own_l45, own_l0, own_l255, own_l1, own_l2, own_l3, own_l4, own_lm1]
    omega
  · rw [if_neg h]
    rw [e] at h
    simp only [own_ix, Int32.lt_iff_toInt_lt, ← Int32.toInt_inj, own_l97, own_l122, own_l65, own_l90, own_l48, own_l57, own_l46, own_l37, own_l95, own_l43, own_l45, own_l0, own_l255, own_l1, own_l2, own_l3, own_l4, own_lm1]
    repeat' split
    all_goals simp only [own_l97, own_l122, own_l65, own_l90, own_l48, own_l57, own_l46, own_l37, own_l95, own_l43, own_l45, own_l0, own_l255, own_l1, own_l2, own_l3, own_l4, own_lm1]
    all_goals omega
theorem own_e2_s (c : Int32) : own_e2 c = if 48 ≤ c.toInt ∧ c.toInt ≤ 57 ∨ c.toInt = 46 ∨ c.toInt = 95 ∨ c.toInt = 37 ∨ c.toInt = 43 ∨ c.toInt = 45 then 1 else 0 := by
  simp only [own_e2, own_e3, Int32.lt_iff_toInt_lt, ← Int32.toInt_inj, own_l97, own_l122, own_l65, own_l90, own_l48, own_l57, own_l46, own_l37, own_l95, own_l43, own_l45, own_l0, own_l255, own_l1, own_l2, own_l3, own_l4, own_lm1]
  repeat' split
  all_goals first | rfl | (exfalso; omega)
theorem own_eq (c : Int32) : own_loc c = own_exp c := by
  have h1 : own_loc c = if (97 ≤ c.toInt ∧ c.toInt ≤ 122 ∨ 65 ≤ c.toInt ∧ c.toInt ≤ 90 ∨ 48 ≤ c.toInt ∧ c.toInt ≤ 57) ∨ (c.toInt = 46 ∨ c.toInt = 37 ∨ c.toInt = 95 ∨ c.toInt = 43 ∨ c.toInt = 45) then 1 else 0 := by
    unfold own_loc
    rw [own_ld_s]
    simp only [own_io_s]
    by_cases h : 97 ≤ c.toInt ∧ c.toInt ≤ 122 ∨ 65 ≤ c.toInt ∧ c.toInt ≤ 90 ∨ 48 ≤ c.toInt ∧ c.toInt ≤ 57
    · simp [h]
    · by_cases h2 : c.toInt = 46 ∨ c.toInt = 37 ∨ c.toInt = 95 ∨ c.toInt = 43 ∨ c.toInt = 45
      · simp [h, h2]
      · simp [h, h2]
  have h2 : own_exp c = if (97 ≤ c.toInt ∧ c.toInt ≤ 122 ∨ 65 ≤ c.toInt ∧ c.toInt ≤ 90 ∨ 48 ≤ c.toInt ∧ c.toInt ≤ 57) ∨ (c.toInt = 46 ∨ c.toInt = 37 ∨ c.toInt = 95 ∨ c.toInt = 43 ∨ c.toInt = 45) then 1 else 0 := by
    simp only [own_exp, own_e2_s, Int32.lt_iff_toInt_lt, own_l97, own_l122, own_l65, own_l90, own_l48, own_l57, own_l46, own_l37, own_l95, own_l43, own_l45, own_l0, own_l255, own_l1, own_l2, own_l3, own_l4, own_lm1]
    repeat' split
    all_goals first | rfl | (exfalso; omega)
  rw [h1, h2]


theorem own_shr0 (z : Int32) : z >>> ((0 : Int32) &&& 31) = z := by
  rw [← Int32.toInt_inj, c_ishr z 0 0 (by decide)]
  simp
def Q1  (h0 : Heap) (n0 : Nat) (v : Option Value) (h : Heap) (L : List Loc) : Prop := v = some (.int (0 : Int32)) ∧ Fr n0 L ∧ h = h0
theorem d1_0 : decode jdk_42_method_152_code 0 = .ok (.getstatic 38, 3) := by decide +kernel
theorem d1_3 : decode jdk_42_method_152_code 3 = .ok (.ifCond .eq 10, 3) := by decide +kernel
theorem d1_6 : decode jdk_42_method_152_code 6 = .ok (.aload_n 0, 1) := by decide +kernel
theorem d1_7 : decode jdk_42_method_152_code 7 = .ok (.getfield 15, 3) := by decide +kernel
theorem d1_10 : decode jdk_42_method_152_code 10 = .ok (.goto 4, 3) := by decide +kernel
theorem d1_14 : decode jdk_42_method_152_code 14 = .ok (.ireturn, 1) := by decide +kernel
theorem pn1 : plainName "java/lang/String" = true := by first | (simp [plainName, overriddenIn]; done) | decide +kernel
theorem ef1 (m : MethodId) (x0 : Addr) : entryFrame m #[(.ref x0)] 1 = mkF m 0 #[.val (.ref x0)] [] := by first | (simp [entryFrame, mkF, argsToLocals, Value.category]; done) | rfl
set_option maxRecDepth 65536 in
set_option maxHeartbeats 40000000 in
theorem rm1 (l : Launch) (Z : State) (a0 : Array Value) (hw : ∀ d ∈ tables_1, d.before a0 Z = true) (ws : List Jvm.Cond) (a1 : Addr) (h0 : Heap) (n0 : Nat) (G1 : Int32) (P5 : ¬ G1 = (0 : Int32)) (O0 : Old Z n0 h0) (Sc : Sta Z Z.heap "java/lang/String" "COMPACT_STRINGS" "Z" (.int G1)) (E1 : Exa Z h0 a1 "java/lang/String") (C1 : Fld Z h0 a1 "java/lang/String" "coder" "B" (.int (0 : Int32))) :
    own_Met l (⟨"java/lang/String", "coder", "()B"⟩ : MethodName) jdk_42_method_152_code 1 (some .byte) ws ({ frames := 0, cells := 0, slots := 0, locals := 0 } : Room) Z #[(.ref a1)] h0 (Q1 h0 n0) := by
  refine own_enter #[.val (.ref a1)] (plainFor_of_name pn1) (fun m => ef1 m a1) ?_
  intro p e s m below meth c s₁ hx hby hml hown hnm hZ hrt hlk X0 e0
  have N0 := Fr.nil n0
  obtain ⟨T51, X51, e51, st51⟩ := getS2 X0 hx hZ hown (host := "") (Or.inl (hw _ (List.mem_of_getElem? (i := 34) rfl))) Via.refl e0 (Sc.ext O0.2) (g := (mkF m 0 #[.val (.ref a1)] [])) rfl (hb hby d1_0)
  refine own_tp (.int G1) 3 st51 ?_
  refine own_d1 6 (fun _ q => XS.ifNo X51.here hx rfl (hb hby d1_3) rfl ((if0 _ _).trans (feq P5).1) q) ?_
  refine own_tp (.ref a1) 7 (fun _ q => XS.aloadN X51.here hx rfl (hb hby d1_6) rfl rfl q) ?_
  obtain ⟨T52, X52, e52, st52⟩ := getF X51 hx hZ hown (host := "") (Or.inl (hw _ (List.mem_of_getElem? (i := 35) rfl))) Via.refl e51 C1 (g := (mkF m 7 #[.val (.ref a1)] [(.ref a1)])) rfl rfl (hb hby d1_7)
  refine own_t1 (.int (0 : Int32)) 10 st52 ?_
  refine own_d0 14 (fun _ q => XS.goto X52.here hx rfl (pc0 := 10) (pc' := 14) rfl (hb hby d1_10) (by decide) (by decide) q) ?_
  exact own_retN (t := .byte) X52 hx hrt (hb hby d1_14) (by simp) hlk (by decide) (by decide) e52 (⟨rfl, N0, rfl⟩)
def Q2  (h0 : Heap) (n0 : Nat) (v : Option Value) (h : Heap) (L : List Loc) : Prop := v = some (.int (1 : Int32)) ∧ Fr n0 L ∧ h = h0
theorem d2_0 : decode jdk_42_method_154_code 0 = .ok (.getstatic 38, 3) := by decide +kernel
theorem d2_3 : decode jdk_42_method_154_code 3 = .ok (.ifCond .eq 14, 3) := by decide +kernel
theorem d2_6 : decode jdk_42_method_154_code 6 = .ok (.aload_n 0, 1) := by decide +kernel
theorem d2_7 : decode jdk_42_method_154_code 7 = .ok (.getfield 15, 3) := by decide +kernel
theorem d2_10 : decode jdk_42_method_154_code 10 = .ok (.ifCond .ne 7, 3) := by decide +kernel
theorem d2_13 : decode jdk_42_method_154_code 13 = .ok (.iconst 1, 1) := by decide +kernel
theorem d2_14 : decode jdk_42_method_154_code 14 = .ok (.goto 4, 3) := by decide +kernel
theorem d2_18 : decode jdk_42_method_154_code 18 = .ok (.ireturn, 1) := by decide +kernel
theorem pn2 : plainName "java/lang/String" = true := by first | (simp [plainName, overriddenIn]; done) | decide +kernel
theorem ef2 (m : MethodId) (x0 : Addr) : entryFrame m #[(.ref x0)] 1 = mkF m 0 #[.val (.ref x0)] [] := by first | (simp [entryFrame, mkF, argsToLocals, Value.category]; done) | rfl
set_option maxRecDepth 65536 in
set_option maxHeartbeats 40000000 in
theorem rm2 (l : Launch) (Z : State) (a0 : Array Value) (hw : ∀ d ∈ tables_1, d.before a0 Z = true) (ws : List Jvm.Cond) (a1 : Addr) (h0 : Heap) (n0 : Nat) (G1 : Int32) (P5 : ¬ G1 = (0 : Int32)) (O0 : Old Z n0 h0) (Sc : Sta Z Z.heap "java/lang/String" "COMPACT_STRINGS" "Z" (.int G1)) (E1 : Exa Z h0 a1 "java/lang/String") (C1 : Fld Z h0 a1 "java/lang/String" "coder" "B" (.int (0 : Int32))) :
    own_Met l (⟨"java/lang/String", "isLatin1", "()Z"⟩ : MethodName) jdk_42_method_154_code 1 (some .boolean) ws ({ frames := 0, cells := 0, slots := 0, locals := 0 } : Room) Z #[(.ref a1)] h0 (Q2 h0 n0) := by
  refine own_enter #[.val (.ref a1)] (plainFor_of_name pn2) (fun m => ef2 m a1) ?_
  intro p e s m below meth c s₁ hx hby hml hown hnm hZ hrt hlk X0 e0
  have N0 := Fr.nil n0
  obtain ⟨T51, X51, e51, st51⟩ := getS2 X0 hx hZ hown (host := "") (Or.inl (hw _ (List.mem_of_getElem? (i := 34) rfl))) Via.refl e0 (Sc.ext O0.2) (g := (mkF m 0 #[.val (.ref a1)] [])) rfl (hb hby d2_0)
  refine own_tp (.int G1) 3 st51 ?_
  refine own_d1 6 (fun _ q => XS.ifNo X51.here hx rfl (hb hby d2_3) rfl ((if0 _ _).trans (feq P5).1) q) ?_
  refine own_tp (.ref a1) 7 (fun _ q => XS.aloadN X51.here hx rfl (hb hby d2_6) rfl rfl q) ?_
  obtain ⟨T52, X52, e52, st52⟩ := getF X51 hx hZ hown (host := "") (Or.inl (hw _ (List.mem_of_getElem? (i := 35) rfl))) Via.refl e51 C1 (g := (mkF m 7 #[.val (.ref a1)] [(.ref a1)])) rfl rfl (hb hby d2_7)
  refine own_t1 (.int (0 : Int32)) 10 st52 ?_
  refine own_d1 13 (fun _ q => XS.ifNo X52.here hx rfl (hb hby d2_10) rfl ((if0 _ _).trans (teq (by decide : (0 : Int32) = (0 : Int32))).2) q) ?_
  refine own_tp (.int (1 : Int32)) 14 (fun _ q => XS.iconst X52.here hx rfl (hb hby d2_13) q) ?_
  refine own_d0 18 (fun _ q => XS.goto X52.here hx rfl (pc0 := 14) (pc' := 18) rfl (hb hby d2_14) (by decide) (by decide) q) ?_
  exact own_retN (t := .boolean) X52 hx hrt (hb hby d2_18) (by simp) hlk (by decide) (by decide) e52 (⟨rfl, N0, rfl⟩)
def Q3 (z1 : Int32) (h0 : Heap) (n0 : Nat) (v : Option Value) (h : Heap) (L : List Loc) : Prop := v = some (.int z1) ∧ Fr n0 L ∧ h = h0
theorem d3_0 : decode jdk_42_method_54_code 0 = .ok (.aload_n 0, 1) := by decide +kernel
theorem d3_1 : decode jdk_42_method_54_code 1 = .ok (.getfield 9, 3) := by decide +kernel
theorem d3_4 : decode jdk_42_method_54_code 4 = .ok (.arraylength, 1) := by decide +kernel
theorem d3_5 : decode jdk_42_method_54_code 5 = .ok (.aload_n 0, 1) := by decide +kernel
theorem d3_6 : decode jdk_42_method_54_code 6 = .ok (.invokevirtual 335, 3) := by decide +kernel
theorem d3_9 : decode jdk_42_method_54_code 9 = .ok (.ishr, 1) := by decide +kernel
theorem d3_10 : decode jdk_42_method_54_code 10 = .ok (.ireturn, 1) := by decide +kernel
theorem pn3 : plainName "java/lang/String" = true := by first | (simp [plainName, overriddenIn]; done) | decide +kernel
theorem pd3_0 : parseMethodDescriptor "()B" = some ⟨[], some .byte⟩ := by decide +kernel
theorem ef3 (m : MethodId) (x0 : Addr) : entryFrame m #[(.ref x0)] 1 = mkF m 0 #[.val (.ref x0)] [] := by first | (simp [entryFrame, mkF, argsToLocals, Value.category]; done) | rfl
set_option maxRecDepth 65536 in
set_option maxHeartbeats 40000000 in
theorem rm3 (l : Launch) (Z : State) (a0 : Array Value) (hw : ∀ d ∈ tables_1, d.before a0 Z = true) (ws : List Jvm.Cond) (a1 b1 : Addr) (k1 : ClassId) (z1 : Int32) (vs1 : List Value) (h0 : Heap) (n0 : Nat) (G1 : Int32) (P5 : ¬ G1 = (0 : Int32)) (O0 : Old Z n0 h0) (Sc : Sta Z Z.heap "java/lang/String" "COMPACT_STRINGS" "Z" (.int G1)) (E1 : Exa Z h0 a1 "java/lang/String") (C1 : Fld Z h0 a1 "java/lang/String" "coder" "B" (.int (0 : Int32))) (L1 : Fld Z h0 a1 "java/lang/String" "value" "[B" (.ref b1)) (V1 : Arv Z h0 b1 k1 .byte z1 vs1 (.int (0 : Int32))) :
    own_Met l (⟨"java/lang/String", "length", "()I"⟩ : MethodName) jdk_42_method_54_code 1 (some .int) ws ({ frames := 1, cells := 0, slots := 0, locals := 13 } : Room) Z #[(.ref a1)] h0 (Q3 z1 h0 n0) := by
  refine own_enter #[.val (.ref a1)] (plainFor_of_name pn3) (fun m => ef3 m a1) ?_
  intro p e s m below meth c s₁ hx hby hml hown hnm hZ hrt hlk X0 e0
  have N0 := Fr.nil n0
  refine own_tp (.ref a1) 1 (fun _ q => XS.aloadN X0.here hx rfl (hb hby d3_0) rfl rfl q) ?_
  obtain ⟨T51, X51, e51, st51⟩ := getF X0 hx hZ hown (host := "") (Or.inl (hw _ (List.mem_of_getElem? (i := 36) rfl))) Via.refl e0 L1 (g := (mkF m 1 #[.val (.ref a1)] [(.ref a1)])) rfl rfl (hb hby d3_1)
  refine own_t1 (.ref b1) 4 st51 ?_
  obtain ⟨cl52, Ar52, -, Sz52, Nn52, -, -⟩ := (id V1)
  refine own_t1 (.int z1) 5 (fun t q => X51.arraylength hx (by rw [e51]; exact Ar52.1) (State.isArrayOf_alike hZ.alike Ar52.2.1) (g := (mkF m 4 #[.val (.ref a1)] [(.ref b1)])) rfl rfl (hb hby d3_4) _ (by rw [len_of Sz52 Nn52]; exact q)) ?_
  refine own_tp (.ref a1) 6 (fun _ q => XS.aloadN X51.here hx rfl (hb hby d3_5) rfl rfl q) ?_
  obtain ⟨cq53, kq53, q53a, q53b, q53c⟩ := isOf hZ e51 E1
  obtain ⟨_, _, ⟨T53, L53, k53, n53⟩, -, X53, ⟨Lc53, hQ53, l53, y53, z53⟩, st53⟩ := X51.virtualBack hx (y := (⟨"java/lang/String", "coder", "()B"⟩ : MethodName)) (z := (⟨"java/lang/String", "coder", "()B"⟩ : MethodName)) hown (mvT hZ (hw _ (List.mem_of_getElem? (i := 42) rfl))) (mvT hZ (hw _ (List.mem_of_getElem? (i := 43) rfl))) (notFace_of_selects (args := #[]) (mvT hZ (hw _ (List.mem_of_getElem? (i := 45) rfl)))) (mvT hZ (hw _ (List.mem_of_getElem? (i := 45) rfl))) (mvT hZ (hw _ (List.mem_of_getElem? (i := 44) rfl))) (by decide) (backOf (W := 1) (rm1 l Z a0 hw [] a1 h0 n0 G1 P5 O0 Sc E1 C1) hZ (hw _ (List.mem_of_getElem? (i := 46) rfl)) (hw _ (List.mem_of_getElem? (i := 12) rfl)) (by decide) (by decide)) q53a q53c (g := (mkF m 6 #[.val (.ref a1)] [(.ref a1), (.int z1)])) rfl (by rw [hml]; rfl) (Steps.refl _) (argsL := []) (rest := [(.int z1)]) (lenOf pd3_0 rfl) rfl (by show 2 * 0 + _ ≤ _; exact Nat.le_of_eq rfl) (hb hby d3_6) (fun _ _ => ⟨rfl, e51, (by decide : 0 + 0 ≤ _), (by decide : 0 + 0 ≤ _)⟩)
  dsimp only [Pt.U, Pt.locs, Pt.cells, Pt.slots] at X53 l53 y53 z53 st53 hQ53
  subst l53 y53 z53
  obtain ⟨rfl, Nq53, eq53⟩ := hQ53
  have N53 := Fr.app N0 Nq53
  refine own_csR [(.int (0 : Int32)), (.int z1)] 9 st53 ?_
  refine own_t2 (.int (z1 >>> ((0 : Int32) &&& 31))) 10 (fun _ q => XS.ishr X53.here hx rfl (hb hby d3_9) rfl q) ?_
  exact own_retI X53 hx hrt (hb hby d3_10) hlk (by decide) (by decide) eq53 (⟨by rw [own_shr0], N53, rfl⟩)

def Q4 (p1 : Int32) (h0 : Heap) (n0 : Nat) (v : Option Value) (h : Heap) (L : List Loc) : Prop := v = some (.int (own_ce p1)) ∧ Fr n0 L ∧ h = h0

theorem d4_0 : decode jdk_43_method_4_code 0 = .ok (.iload_n 0, 1) := by decide +kernel
theorem d4_1 : decode jdk_43_method_4_code 1 = .ok (.ifCond .lt 14, 3) := by decide +kernel
theorem d4_4 : decode jdk_43_method_4_code 4 = .ok (.iload_n 0, 1) := by decide +kernel
theorem d4_5 : decode jdk_43_method_4_code 5 = .ok (.sipush 255, 3) := by decide +kernel
theorem d4_8 : decode jdk_43_method_4_code 8 = .ok (.if_icmp .gt 7, 3) := by decide +kernel
theorem d4_11 : decode jdk_43_method_4_code 11 = .ok (.iconst 1, 1) := by decide +kernel
theorem d4_12 : decode jdk_43_method_4_code 12 = .ok (.goto 4, 3) := by decide +kernel
theorem d4_15 : decode jdk_43_method_4_code 15 = .ok (.iconst 0, 1) := by decide +kernel
theorem d4_16 : decode jdk_43_method_4_code 16 = .ok (.ireturn, 1) := by decide +kernel
theorem pn4 : plainName "java/lang/StringLatin1" = true := by first | (simp [plainName, overriddenIn]; done) | decide +kernel
theorem ef4 (m : MethodId) (x0 : Int32) : entryFrame m #[(.int x0)] 1 = mkF m 0 #[.val (.int x0)] [] := by first | (simp [entryFrame, mkF, argsToLocals, Value.category]; done) | rfl
set_option maxRecDepth 65536 in
set_option maxHeartbeats 40000000 in
theorem rm4 (l : Launch) (Z : State) (a0 : Array Value) (hw : ∀ d ∈ tables_1, d.before a0 Z = true) (ws : List Jvm.Cond) (p1 : Int32) (h0 : Heap) (n0 : Nat)  :
    own_Met l (⟨"java/lang/StringLatin1", "canEncode", "(I)Z"⟩ : MethodName) jdk_43_method_4_code 1 (some .boolean) ws ({ frames := 0, cells := 0, slots := 0, locals := 0 } : Room) Z #[(.int p1)] h0 (Q4 p1 h0 n0) := by
  refine own_enter #[.val (.int p1)] (plainFor_of_name pn4) (fun m => ef4 m p1) ?_
  intro p e s m below meth c s₁ hx hby hml hown hnm hZ hrt hlk X0 e0
  have N0 := Fr.nil n0
  refine own_tp (.int p1) 1 (fun _ q => XS.iloadN X0.here hx rfl (hb hby d4_0) rfl q) ?_
  by_cases c51 : p1 < (0 : Int32)
  ·
    refine own_d1 15 (fun _ q => XS.ifYes X0.here hx rfl (pc0 := 1) (pc' := 15) rfl (hb hby d4_1) rfl ((if0 _ _).trans (tlt c51).1) (by decide) (by decide) q) ?_
    refine own_tp (.int (0 : Int32)) 16 (fun _ q => XS.iconst X0.here hx rfl (hb hby d4_15) q) ?_
    exact own_retN (t := .boolean) X0 hx hrt (hb hby d4_16) (by simp) hlk (by decide) (by decide) e0 (⟨by have hv : own_ce p1 = (0 : Int32) := (by first | (simp only [own_ce, c51, ↓reduceIte]; done) | (simp [own_ce, c51]; done)); rw [hv] <;> rfl, N0, rfl⟩)
  ·
    refine own_d1 4 (fun _ q => XS.ifNo X0.here hx rfl (hb hby d4_1) rfl ((if0 _ _).trans (flt c51).1) q) ?_
    refine own_tp (.int p1) 5 (fun _ q => XS.iloadN X0.here hx rfl (hb hby d4_4) rfl q) ?_
    refine own_tp (.int (255 : Int32)) 8 (fun _ q => XS.sipush X0.here hx rfl (hb hby d4_5) q) ?_
    by_cases c52 : (255 : Int32) < p1
    ·
      refine own_d2 15 (fun _ q => XS.icmpYes X0.here hx rfl (pc0 := 8) (pc' := 15) rfl (hb hby d4_8) rfl (tlt c52).2.2.1 (by decide) (by decide) q) ?_
      refine own_tp (.int (0 : Int32)) 16 (fun _ q => XS.iconst X0.here hx rfl (hb hby d4_15) q) ?_
      exact own_retN (t := .boolean) X0 hx hrt (hb hby d4_16) (by simp) hlk (by decide) (by decide) e0 (⟨by have hv : own_ce p1 = (0 : Int32) := (by first | (simp only [own_ce, c51, c52, ↓reduceIte]; done) | (simp [own_ce, c51, c52]; done)); rw [hv] <;> rfl, N0, rfl⟩)
    ·
      refine own_d2 11 (fun _ q => XS.icmpNo X0.here hx rfl (hb hby d4_8) rfl (flt c52).2.2.1 q) ?_
      refine own_tp (.int (1 : Int32)) 12 (fun _ q => XS.iconst X0.here hx rfl (hb hby d4_11) q) ?_
      refine own_d0 16 (fun _ q => XS.goto X0.here hx rfl (pc0 := 12) (pc' := 16) rfl (hb hby d4_12) (by decide) (by decide) q) ?_
      exact own_retN (t := .boolean) X0 hx hrt (hb hby d4_16) (by simp) hlk (by decide) (by decide) e0 (⟨by have hv : own_ce p1 = (1 : Int32) := (by first | (simp only [own_ce, c51, c52, ↓reduceIte]; done) | (simp [own_ce, c51, c52]; done)); rw [hv] <;> rfl, N0, rfl⟩)

def Q5 (p1 p2 : Int32) (h0 : Heap) (n0 : Nat) (v : Option Value) (h : Heap) (L : List Loc) : Prop := v = some (.int (own_max p1 p2)) ∧ Fr n0 L ∧ h = h0

theorem d5_0 : decode jdk_29_method_65_code 0 = .ok (.iload_n 0, 1) := by decide +kernel
theorem d5_1 : decode jdk_29_method_65_code 1 = .ok (.iload_n 1, 1) := by decide +kernel
theorem d5_2 : decode jdk_29_method_65_code 2 = .ok (.if_icmp .lt 7, 3) := by decide +kernel
theorem d5_5 : decode jdk_29_method_65_code 5 = .ok (.iload_n 0, 1) := by decide +kernel
theorem d5_6 : decode jdk_29_method_65_code 6 = .ok (.goto 4, 3) := by decide +kernel
theorem d5_9 : decode jdk_29_method_65_code 9 = .ok (.iload_n 1, 1) := by decide +kernel
theorem d5_10 : decode jdk_29_method_65_code 10 = .ok (.ireturn, 1) := by decide +kernel
theorem ef5 (m : MethodId) (x0 : Int32) (x1 : Int32) : entryFrame m #[(.int x0), (.int x1)] 2 = mkF m 0 #[.val (.int x0), .val (.int x1)] [] := by first | (simp [entryFrame, mkF, argsToLocals, Value.category]; done) | rfl
set_option maxRecDepth 65536 in
set_option maxHeartbeats 40000000 in
theorem rm5 (l : Launch) (Z : State) (a0 : Array Value) (hw : ∀ d ∈ tables_1, d.before a0 Z = true) (ws : List Jvm.Cond) (p1 p2 : Int32) (h0 : Heap) (n0 : Nat)  :
    own_Met l (⟨"java/lang/Math", "max", "(II)I"⟩ : MethodName) jdk_29_method_65_code 2 (some .int) ws ({ frames := 0, cells := 0, slots := 0, locals := 0 } : Room) Z #[(.int p1), (.int p2)] h0 (Q5 p1 p2 h0 n0) := by
  refine own_enter #[.val (.int p1), .val (.int p2)] (Jvm.Free.JP.mathPlain rfl (by decide +kernel)) (fun m => ef5 m p1 p2) ?_
  intro p e s m below meth c s₁ hx hby hml hown hnm hZ hrt hlk X0 e0
  have N0 := Fr.nil n0
  refine own_tp (.int p1) 1 (fun _ q => XS.iloadN X0.here hx rfl (hb hby d5_0) rfl q) ?_
  refine own_tp (.int p2) 2 (fun _ q => XS.iloadN X0.here hx rfl (hb hby d5_1) rfl q) ?_
  by_cases c51 : p1 < p2
  ·
    refine own_d2 9 (fun _ q => XS.icmpYes X0.here hx rfl (pc0 := 2) (pc' := 9) rfl (hb hby d5_2) rfl (tlt c51).1 (by decide) (by decide) q) ?_
    refine own_tp (.int p2) 10 (fun _ q => XS.iloadN X0.here hx rfl (hb hby d5_9) rfl q) ?_
    exact own_retI X0 hx hrt (hb hby d5_10) hlk (by decide) (by decide) e0 (⟨by have hv : own_max p1 p2 = p2 := (by first | (simp only [own_max, c51, ↓reduceIte]; done) | (simp [own_max, c51]; done)); rw [hv] <;> rfl, N0, rfl⟩)
  ·
    refine own_d2 5 (fun _ q => XS.icmpNo X0.here hx rfl (hb hby d5_2) rfl (flt c51).1 q) ?_
    refine own_tp (.int p1) 6 (fun _ q => XS.iloadN X0.here hx rfl (hb hby d5_5) rfl q) ?_
    refine own_d0 10 (fun _ q => XS.goto X0.here hx rfl (pc0 := 6) (pc' := 10) rfl (hb hby d5_6) (by decide) (by decide) q) ?_
    exact own_retI X0 hx hrt (hb hby d5_10) hlk (by decide) (by decide) e0 (⟨by have hv : own_max p1 p2 = p1 := (by first | (simp only [own_max, c51, ↓reduceIte]; done) | (simp [own_max, c51]; done)); rw [hv] <;> rfl, N0, rfl⟩)

def Q6 (p1 p2 : Int32) (h0 : Heap) (n0 : Nat) (v : Option Value) (h : Heap) (L : List Loc) : Prop := v = some (.int (own_min p1 p2)) ∧ Fr n0 L ∧ h = h0

theorem d6_0 : decode jdk_29_method_69_code 0 = .ok (.iload_n 0, 1) := by decide +kernel
theorem d6_1 : decode jdk_29_method_69_code 1 = .ok (.iload_n 1, 1) := by decide +kernel
theorem d6_2 : decode jdk_29_method_69_code 2 = .ok (.if_icmp .gt 7, 3) := by decide +kernel
theorem d6_5 : decode jdk_29_method_69_code 5 = .ok (.iload_n 0, 1) := by decide +kernel
theorem d6_6 : decode jdk_29_method_69_code 6 = .ok (.goto 4, 3) := by decide +kernel
theorem d6_9 : decode jdk_29_method_69_code 9 = .ok (.iload_n 1, 1) := by decide +kernel
theorem d6_10 : decode jdk_29_method_69_code 10 = .ok (.ireturn, 1) := by decide +kernel
theorem ef6 (m : MethodId) (x0 : Int32) (x1 : Int32) : entryFrame m #[(.int x0), (.int x1)] 2 = mkF m 0 #[.val (.int x0), .val (.int x1)] [] := by first | (simp [entryFrame, mkF, argsToLocals, Value.category]; done) | rfl
set_option maxRecDepth 65536 in
set_option maxHeartbeats 40000000 in
theorem rm6 (l : Launch) (Z : State) (a0 : Array Value) (hw : ∀ d ∈ tables_1, d.before a0 Z = true) (ws : List Jvm.Cond) (p1 p2 : Int32) (h0 : Heap) (n0 : Nat)  :
    own_Met l (⟨"java/lang/Math", "min", "(II)I"⟩ : MethodName) jdk_29_method_69_code 2 (some .int) ws ({ frames := 0, cells := 0, slots := 0, locals := 0 } : Room) Z #[(.int p1), (.int p2)] h0 (Q6 p1 p2 h0 n0) := by
  refine own_enter #[.val (.int p1), .val (.int p2)] (Jvm.Free.JP.mathPlain rfl (by decide +kernel)) (fun m => ef6 m p1 p2) ?_
  intro p e s m below meth c s₁ hx hby hml hown hnm hZ hrt hlk X0 e0
  have N0 := Fr.nil n0
  refine own_tp (.int p1) 1 (fun _ q => XS.iloadN X0.here hx rfl (hb hby d6_0) rfl q) ?_
  refine own_tp (.int p2) 2 (fun _ q => XS.iloadN X0.here hx rfl (hb hby d6_1) rfl q) ?_
  by_cases c51 : p2 < p1
  ·
    refine own_d2 9 (fun _ q => XS.icmpYes X0.here hx rfl (pc0 := 2) (pc' := 9) rfl (hb hby d6_2) rfl (tlt c51).2.2.1 (by decide) (by decide) q) ?_
    refine own_tp (.int p2) 10 (fun _ q => XS.iloadN X0.here hx rfl (hb hby d6_9) rfl q) ?_
    exact own_retI X0 hx hrt (hb hby d6_10) hlk (by decide) (by decide) e0 (⟨by have hv : own_min p1 p2 = p2 := (by first | (simp only [own_min, c51, ↓reduceIte]; done) | (simp [own_min, c51]; done)); rw [hv] <;> rfl, N0, rfl⟩)
  ·
    refine own_d2 5 (fun _ q => XS.icmpNo X0.here hx rfl (hb hby d6_2) rfl (flt c51).2.2.1 q) ?_
    refine own_tp (.int p1) 6 (fun _ q => XS.iloadN X0.here hx rfl (hb hby d6_5) rfl q) ?_
    refine own_d0 10 (fun _ q => XS.goto X0.here hx rfl (pc0 := 6) (pc' := 10) rfl (hb hby d6_6) (by decide) (by decide) q) ?_
    exact own_retI X0 hx hrt (hb hby d6_10) hlk (by decide) (by decide) e0 (⟨by have hv : own_min p1 p2 = p1 := (by first | (simp only [own_min, c51, ↓reduceIte]; done) | (simp [own_min, c51]; done)); rw [hv] <;> rfl, N0, rfl⟩)

def Q7 (p1 : Int32) (h0 : Heap) (n0 : Nat) (v : Option Value) (h : Heap) (L : List Loc) : Prop := v = some (.int (own_ix p1)) ∧ Fr n0 L ∧ h = h0

theorem d7_0 : decode jdk_43_method_23_code 0 = .ok (.iload_n 1, 1) := by decide +kernel
theorem d7_1 : decode jdk_43_method_23_code 1 = .ok (.i2b, 1) := by decide +kernel
theorem d7_2 : decode jdk_43_method_23_code 2 = .ok (.istore 4, 2) := by decide +kernel
theorem d7_4 : decode jdk_43_method_23_code 4 = .ok (.iload_n 2, 1) := by decide +kernel
theorem d7_5 : decode jdk_43_method_23_code 5 = .ok (.istore 5, 2) := by decide +kernel
theorem d7_7 : decode jdk_43_method_23_code 7 = .ok (.iload 5, 2) := by decide +kernel
theorem d7_9 : decode jdk_43_method_23_code 9 = .ok (.iload_n 3, 1) := by decide +kernel
theorem d7_10 : decode jdk_43_method_23_code 10 = .ok (.if_icmp .ge 21, 3) := by decide +kernel
theorem d7_13 : decode jdk_43_method_23_code 13 = .ok (.aload_n 0, 1) := by decide +kernel
theorem d7_14 : decode jdk_43_method_23_code 14 = .ok (.iload 5, 2) := by decide +kernel
theorem d7_16 : decode jdk_43_method_23_code 16 = .ok (.baload, 1) := by decide +kernel
theorem d7_17 : decode jdk_43_method_23_code 17 = .ok (.iload 4, 2) := by decide +kernel
theorem d7_19 : decode jdk_43_method_23_code 19 = .ok (.if_icmp .ne 6, 3) := by decide +kernel
theorem d7_22 : decode jdk_43_method_23_code 22 = .ok (.iload 5, 2) := by decide +kernel
theorem d7_24 : decode jdk_43_method_23_code 24 = .ok (.ireturn, 1) := by decide +kernel
theorem d7_25 : decode jdk_43_method_23_code 25 = .ok (.iinc 5 1, 3) := by decide +kernel
theorem d7_28 : decode jdk_43_method_23_code 28 = .ok (.goto (-21), 3) := by decide +kernel
theorem d7_31 : decode jdk_43_method_23_code 31 = .ok (.iconst (-1), 1) := by decide +kernel
theorem d7_32 : decode jdk_43_method_23_code 32 = .ok (.ireturn, 1) := by decide +kernel
theorem pn7 : plainName "java/lang/StringLatin1" = true := by first | (simp [plainName, overriddenIn]; done) | decide +kernel
theorem ef7 (m : MethodId) (x0 : Addr) (x1 : Int32) (x2 : Int32) (x3 : Int32) : entryFrame m #[(.ref x0), (.int x1), (.int x2), (.int x3)] 6 = mkF m 0 #[.val (.ref x0), .val (.int x1), .val (.int x2), .val (.int x3), .unset, .unset] [] := by first | (simp [entryFrame, mkF, argsToLocals, Value.category]; done) | rfl
set_option maxRecDepth 65536 in
set_option maxHeartbeats 40000000 in
theorem rm7 (l : Launch) (Z : State) (a0 : Array Value) (hw : ∀ d ∈ tables_1, d.before a0 Z = true) (ws : List Jvm.Cond) (b1 : Addr) (k1 : ClassId) (p1 : Int32) (h0 : Heap) (n0 : Nat) (V1 : Arv Z h0 b1 k1 .byte (5 : Int32) [(.int (46 : Int32)), (.int (37 : Int32)), (.int (95 : Int32)), (.int (43 : Int32)), (.int (45 : Int32))] (.int (0 : Int32))) :
    own_Met l (⟨"java/lang/StringLatin1", "indexOfChar", "([BIII)I"⟩ : MethodName) jdk_43_method_23_code 6 (some .int) ws ({ frames := 0, cells := 0, slots := 0, locals := 0 } : Room) Z #[(.ref b1), (.int p1), (.int (0 : Int32)), (.int (5 : Int32))] h0 (Q7 p1 h0 n0) := by
  refine own_enter #[.val (.ref b1), .val (.int p1), .val (.int (0 : Int32)), .val (.int (5 : Int32)), .unset, .unset] (plainFor_of_name pn7) (fun m => ef7 m b1 p1 (0 : Int32) (5 : Int32)) ?_
  intro p e s m below meth c s₁ hx hby hml hown hnm hZ hrt hlk X0 e0
  have N0 := Fr.nil n0
  refine own_tp (.int p1) 1 (fun _ q => XS.iloadN X0.here hx rfl (hb hby d7_0) rfl q) ?_
  refine own_t1 (.int (p1.toInt8.toInt32)) 2 (fun _ q => XS.i2b X0.here hx rfl (hb hby d7_1) rfl q) ?_
  refine own_ls #[.val (.ref b1), .val (.int p1), .val (.int (0 : Int32)), .val (.int (5 : Int32)), .val (.int (p1.toInt8.toInt32)), .unset] 4 (fun _ q => XS.istore X0.here hx rfl (hb hby d7_2) rfl (l' := #[.val (.ref b1), .val (.int p1), .val (.int (0 : Int32)), .val (.int (5 : Int32)), .val (.int (p1.toInt8.toInt32)), .unset]) rfl q) ?_
  refine own_tp (.int (0 : Int32)) 5 (fun _ q => XS.iloadN X0.here hx rfl (hb hby d7_4) rfl q) ?_
  refine own_ls #[.val (.ref b1), .val (.int p1), .val (.int (0 : Int32)), .val (.int (5 : Int32)), .val (.int (p1.toInt8.toInt32)), .val (.int (0 : Int32))] 7 (fun _ q => XS.istore X0.here hx rfl (hb hby d7_5) rfl (l' := #[.val (.ref b1), .val (.int p1), .val (.int (0 : Int32)), .val (.int (5 : Int32)), .val (.int (p1.toInt8.toInt32)), .val (.int (0 : Int32))]) rfl q) ?_
  refine own_tp (.int (0 : Int32)) 9 (fun _ q => XS.iload X0.here hx rfl (hb hby d7_7) rfl q) ?_
  refine own_tp (.int (5 : Int32)) 10 (fun _ q => XS.iloadN X0.here hx rfl (hb hby d7_9) rfl q) ?_
  refine own_d2 13 (fun _ q => XS.icmpNo X0.here hx rfl (hb hby d7_10) rfl (tlt (by decide : (0 : Int32) < (5 : Int32))).2.1 q) ?_
  refine own_tp (.ref b1) 14 (fun _ q => XS.aloadN X0.here hx rfl (hb hby d7_13) rfl rfl q) ?_
  refine own_tp (.int (0 : Int32)) 16 (fun _ q => XS.iload X0.here hx rfl (hb hby d7_14) rfl q) ?_
  obtain ⟨cl51, Ar51, q51, S51, Nn51, H51, G51⟩ := (id V1)
  have hin51 : ¬ ((0 : Int32) < 0 ∨ cl51.slots.size ≤ ((0 : Int32)).toNatClampNeg) := inb_of S51 ⟨by decide, by decide⟩
  have hat51 : cl51.slots[((0 : Int32)).toNatClampNeg]? = some (.int (46 : Int32)) := H51.at hin51 rfl
  refine own_t2 (.int (46 : Int32)) 17 (fun _ q => X0.baloadBytes hx (j := (0 : Int32)) (v := (.int (46 : Int32))) (by rw [e0]; exact Ar51.1) (State.isArrayOf_alike hZ.alike Ar51.2.1) Ar51.2.2 hin51 hat51 (g := (mkF m 16 #[.val (.ref b1), .val (.int p1), .val (.int (0 : Int32)), .val (.int (5 : Int32)), .val (.int (p1.toInt8.toInt32)), .val (.int (0 : Int32))] [(.int (0 : Int32)), (.ref b1)])) rfl rfl (hb hby d7_16) _ q) ?_
  refine own_tp (.int (p1.toInt8.toInt32)) 19 (fun _ q => XS.iload X0.here hx rfl (hb hby d7_17) rfl q) ?_
  by_cases c52 : (46 : Int32) = (p1.toInt8.toInt32)
  ·
    refine own_d2 22 (fun _ q => XS.icmpNo X0.here hx rfl (hb hby d7_19) rfl (teq c52).2 q) ?_
    refine own_tp (.int (0 : Int32)) 24 (fun _ q => XS.iload X0.here hx rfl (hb hby d7_22) rfl q) ?_
    exact own_retI X0 hx hrt (hb hby d7_24) hlk (by decide) (by decide) e0 (⟨by have hv : own_ix p1 = (0 : Int32) := (by first | (simp only [own_ix, c52, ↓reduceIte]; done) | (simp [own_ix, c52]; done)); rw [hv] <;> rfl, N0, rfl⟩)
  ·
    refine own_d2 25 (fun _ q => XS.icmpYes X0.here hx rfl (pc0 := 19) (pc' := 25) rfl (hb hby d7_19) rfl (feq c52).2 (by decide) (by decide) q) ?_
    refine own_li #[.val (.ref b1), .val (.int p1), .val (.int (0 : Int32)), .val (.int (5 : Int32)), .val (.int (p1.toInt8.toInt32)), .val (.int (1 : Int32))] 28 (fun _ q => XS.iinc X0.here hx rfl (hb hby d7_25) rfl (l' := #[.val (.ref b1), .val (.int p1), .val (.int (0 : Int32)), .val (.int (5 : Int32)), .val (.int (p1.toInt8.toInt32)), .val (.int (1 : Int32))]) rfl q) ?_
    refine own_d0 7 (fun _ q => XS.goto X0.here hx rfl (pc0 := 28) (pc' := 7) rfl (hb hby d7_28) (by decide) (by decide) q) ?_
    refine own_tp (.int (1 : Int32)) 9 (fun _ q => XS.iload X0.here hx rfl (hb hby d7_7) rfl q) ?_
    refine own_tp (.int (5 : Int32)) 10 (fun _ q => XS.iloadN X0.here hx rfl (hb hby d7_9) rfl q) ?_
    refine own_d2 13 (fun _ q => XS.icmpNo X0.here hx rfl (hb hby d7_10) rfl (tlt (by decide : (1 : Int32) < (5 : Int32))).2.1 q) ?_
    refine own_tp (.ref b1) 14 (fun _ q => XS.aloadN X0.here hx rfl (hb hby d7_13) rfl rfl q) ?_
    refine own_tp (.int (1 : Int32)) 16 (fun _ q => XS.iload X0.here hx rfl (hb hby d7_14) rfl q) ?_
    obtain ⟨cl53, Ar53, q53, S53, Nn53, H53, G53⟩ := (id V1)
    have hin53 : ¬ ((1 : Int32) < 0 ∨ cl53.slots.size ≤ ((1 : Int32)).toNatClampNeg) := inb_of S53 ⟨by decide, by decide⟩
    have hat53 : cl53.slots[((1 : Int32)).toNatClampNeg]? = some (.int (37 : Int32)) := H53.at hin53 rfl
    refine own_t2 (.int (37 : Int32)) 17 (fun _ q => X0.baloadBytes hx (j := (1 : Int32)) (v := (.int (37 : Int32))) (by rw [e0]; exact Ar53.1) (State.isArrayOf_alike hZ.alike Ar53.2.1) Ar53.2.2 hin53 hat53 (g := (mkF m 16 #[.val (.ref b1), .val (.int p1), .val (.int (0 : Int32)), .val (.int (5 : Int32)), .val (.int (p1.toInt8.toInt32)), .val (.int (1 : Int32))] [(.int (1 : Int32)), (.ref b1)])) rfl rfl (hb hby d7_16) _ q) ?_
    refine own_tp (.int (p1.toInt8.toInt32)) 19 (fun _ q => XS.iload X0.here hx rfl (hb hby d7_17) rfl q) ?_
    by_cases c54 : (37 : Int32) = (p1.toInt8.toInt32)
    ·
      refine own_d2 22 (fun _ q => XS.icmpNo X0.here hx rfl (hb hby d7_19) rfl (teq c54).2 q) ?_
      refine own_tp (.int (1 : Int32)) 24 (fun _ q => XS.iload X0.here hx rfl (hb hby d7_22) rfl q) ?_
      exact own_retI X0 hx hrt (hb hby d7_24) hlk (by decide) (by decide) e0 (⟨by have hv : own_ix p1 = (1 : Int32) := (by first | (simp only [own_ix, c52, c54, ↓reduceIte]; done) | (simp [own_ix, c52, c54]; done)); rw [hv] <;> rfl, N0, rfl⟩)
    ·
      refine own_d2 25 (fun _ q => XS.icmpYes X0.here hx rfl (pc0 := 19) (pc' := 25) rfl (hb hby d7_19) rfl (feq c54).2 (by decide) (by decide) q) ?_
      refine own_li #[.val (.ref b1), .val (.int p1), .val (.int (0 : Int32)), .val (.int (5 : Int32)), .val (.int (p1.toInt8.toInt32)), .val (.int (2 : Int32))] 28 (fun _ q => XS.iinc X0.here hx rfl (hb hby d7_25) rfl (l' := #[.val (.ref b1), .val (.int p1), .val (.int (0 : Int32)), .val (.int (5 : Int32)), .val (.int (p1.toInt8.toInt32)), .val (.int (2 : Int32))]) rfl q) ?_
      refine own_d0 7 (fun _ q => XS.goto X0.here hx rfl (pc0 := 28) (pc' := 7) rfl (hb hby d7_28) (by decide) (by decide) q) ?_
      refine own_tp (.int (2 : Int32)) 9 (fun _ q => XS.iload X0.here hx rfl (hb hby d7_7) rfl q) ?_
      refine own_tp (.int (5 : Int32)) 10 (fun _ q => XS.iloadN X0.here hx rfl (hb hby d7_9) rfl q) ?_
      refine own_d2 13 (fun _ q => XS.icmpNo X0.here hx rfl (hb hby d7_10) rfl (tlt (by decide : (2 : Int32) < (5 : Int32))).2.1 q) ?_
      refine own_tp (.ref b1) 14 (fun _ q => XS.aloadN X0.here hx rfl (hb hby d7_13) rfl rfl q) ?_
      refine own_tp (.int (2 : Int32)) 16 (fun _ q => XS.iload X0.here hx rfl (hb hby d7_14) rfl q) ?_
      obtain ⟨cl55, Ar55, q55, S55, Nn55, H55, G55⟩ := (id V1)
      have hin55 : ¬ ((2 : Int32) < 0 ∨ cl55.slots.size ≤ ((2 : Int32)).toNatClampNeg) := inb_of S55 ⟨by decide, by decide⟩
      have hat55 : cl55.slots[((2 : Int32)).toNatClampNeg]? = some (.int (95 : Int32)) := H55.at hin55 rfl
      refine own_t2 (.int (95 : Int32)) 17 (fun _ q => X0.baloadBytes hx (j := (2 : Int32)) (v := (.int (95 : Int32))) (by rw [e0]; exact Ar55.1) (State.isArrayOf_alike hZ.alike Ar55.2.1) Ar55.2.2 hin55 hat55 (g := (mkF m 16 #[.val (.ref b1), .val (.int p1), .val (.int (0 : Int32)), .val (.int (5 : Int32)), .val (.int (p1.toInt8.toInt32)), .val (.int (2 : Int32))] [(.int (2 : Int32)), (.ref b1)])) rfl rfl (hb hby d7_16) _ q) ?_
      refine own_tp (.int (p1.toInt8.toInt32)) 19 (fun _ q => XS.iload X0.here hx rfl (hb hby d7_17) rfl q) ?_
      by_cases c56 : (95 : Int32) = (p1.toInt8.toInt32)
      ·
        refine own_d2 22 (fun _ q => XS.icmpNo X0.here hx rfl (hb hby d7_19) rfl (teq c56).2 q) ?_
        refine own_tp (.int (2 : Int32)) 24 (fun _ q => XS.iload X0.here hx rfl (hb hby d7_22) rfl q) ?_
        exact own_retI X0 hx hrt (hb hby d7_24) hlk (by decide) (by decide) e0 (⟨by have hv : own_ix p1 = (2 : Int32) := (by first | (simp only [own_ix, c52, c54, c56, ↓reduceIte]; done) | (simp [own_ix, c52, c54, c56]; done)); rw [hv] <;> rfl, N0, rfl⟩)
      ·
        refine own_d2 25 (fun _ q => XS.icmpYes X0.here hx rfl (pc0 := 19) (pc' := 25) rfl (hb hby d7_19) rfl (feq c56).2 (by decide) (by decide) q) ?_
        refine own_li #[.val (.ref b1), .val (.int p1), .val (.int (0 : Int32)), .val (.int (5 : Int32)), .val (.int (p1.toInt8.toInt32)), .val (.int (3 : Int32))] 28 (fun _ q => XS.iinc X0.here hx rfl (hb hby d7_25) rfl (l' := #[.val (.ref b1), .val (.int p1), .val (.int (0 : Int32)), .val (.int (5 : Int32)), .val (.int (p1.toInt8.toInt32)), .val (.int (3 : Int32))]) rfl q) ?_
        refine own_d0 7 (fun _ q => XS.goto X0.here hx rfl (pc0 := 28) (pc' := 7) rfl (hb hby d7_28) (by decide) (by decide) q) ?_
        refine own_tp (.int (3 : Int32)) 9 (fun _ q => XS.iload X0.here hx rfl (hb hby d7_7) rfl q) ?_
        refine own_tp (.int (5 : Int32)) 10 (fun _ q => XS.iloadN X0.here hx rfl (hb hby d7_9) rfl q) ?_
        refine own_d2 13 (fun _ q => XS.icmpNo X0.here hx rfl (hb hby d7_10) rfl (tlt (by decide : (3 : Int32) < (5 : Int32))).2.1 q) ?_
        refine own_tp (.ref b1) 14 (fun _ q => XS.aloadN X0.here hx rfl (hb hby d7_13) rfl rfl q) ?_
        refine own_tp (.int (3 : Int32)) 16 (fun _ q => XS.iload X0.here hx rfl (hb hby d7_14) rfl q) ?_
        obtain ⟨cl57, Ar57, q57, S57, Nn57, H57, G57⟩ := (id V1)
        have hin57 : ¬ ((3 : Int32) < 0 ∨ cl57.slots.size ≤ ((3 : Int32)).toNatClampNeg) := inb_of S57 ⟨by decide, by decide⟩
        have hat57 : cl57.slots[((3 : Int32)).toNatClampNeg]? = some (.int (43 : Int32)) := H57.at hin57 rfl
        refine own_t2 (.int (43 : Int32)) 17 (fun _ q => X0.baloadBytes hx (j := (3 : Int32)) (v := (.int (43 : Int32))) (by rw [e0]; exact Ar57.1) (State.isArrayOf_alike hZ.alike Ar57.2.1) Ar57.2.2 hin57 hat57 (g := (mkF m 16 #[.val (.ref b1), .val (.int p1), .val (.int (0 : Int32)), .val (.int (5 : Int32)), .val (.int (p1.toInt8.toInt32)), .val (.int (3 : Int32))] [(.int (3 : Int32)), (.ref b1)])) rfl rfl (hb hby d7_16) _ q) ?_
        refine own_tp (.int (p1.toInt8.toInt32)) 19 (fun _ q => XS.iload X0.here hx rfl (hb hby d7_17) rfl q) ?_
        by_cases c58 : (43 : Int32) = (p1.toInt8.toInt32)
        ·
          refine own_d2 22 (fun _ q => XS.icmpNo X0.here hx rfl (hb hby d7_19) rfl (teq c58).2 q) ?_
          refine own_tp (.int (3 : Int32)) 24 (fun _ q => XS.iload X0.here hx rfl (hb hby d7_22) rfl q) ?_
          exact own_retI X0 hx hrt (hb hby d7_24) hlk (by decide) (by decide) e0 (⟨by have hv : own_ix p1 = (3 : Int32) := (by first | (simp only [own_ix, c52, c54, c56, c58, ↓reduceIte]; done) | (simp [own_ix, c52, c54, c56, c58]; done)); rw [hv] <;> rfl, N0, rfl⟩)
        ·
          refine own_d2 25 (fun _ q => XS.icmpYes X0.here hx rfl (pc0 := 19) (pc' := 25) rfl (hb hby d7_19) rfl (feq c58).2 (by decide) (by decide) q) ?_
          refine own_li #[.val (.ref b1), .val (.int p1), .val (.int (0 : Int32)), .val (.int (5 : Int32)), .val (.int (p1.toInt8.toInt32)), .val (.int (4 : Int32))] 28 (fun _ q => XS.iinc X0.here hx rfl (hb hby d7_25) rfl (l' := #[.val (.ref b1), .val (.int p1), .val (.int (0 : Int32)), .val (.int (5 : Int32)), .val (.int (p1.toInt8.toInt32)), .val (.int (4 : Int32))]) rfl q) ?_
          refine own_d0 7 (fun _ q => XS.goto X0.here hx rfl (pc0 := 28) (pc' := 7) rfl (hb hby d7_28) (by decide) (by decide) q) ?_
          refine own_tp (.int (4 : Int32)) 9 (fun _ q => XS.iload X0.here hx rfl (hb hby d7_7) rfl q) ?_
          refine own_tp (.int (5 : Int32)) 10 (fun _ q => XS.iloadN X0.here hx rfl (hb hby d7_9) rfl q) ?_
          refine own_d2 13 (fun _ q => XS.icmpNo X0.here hx rfl (hb hby d7_10) rfl (tlt (by decide : (4 : Int32) < (5 : Int32))).2.1 q) ?_
          refine own_tp (.ref b1) 14 (fun _ q => XS.aloadN X0.here hx rfl (hb hby d7_13) rfl rfl q) ?_
          refine own_tp (.int (4 : Int32)) 16 (fun _ q => XS.iload X0.here hx rfl (hb hby d7_14) rfl q) ?_
          obtain ⟨cl59, Ar59, q59, S59, Nn59, H59, G59⟩ := (id V1)
          have hin59 : ¬ ((4 : Int32) < 0 ∨ cl59.slots.size ≤ ((4 : Int32)).toNatClampNeg) := inb_of S59 ⟨by decide, by decide⟩
          have hat59 : cl59.slots[((4 : Int32)).toNatClampNeg]? = some (.int (45 : Int32)) := H59.at hin59 rfl
          refine own_t2 (.int (45 : Int32)) 17 (fun _ q => X0.baloadBytes hx (j := (4 : Int32)) (v := (.int (45 : Int32))) (by rw [e0]; exact Ar59.1) (State.isArrayOf_alike hZ.alike Ar59.2.1) Ar59.2.2 hin59 hat59 (g := (mkF m 16 #[.val (.ref b1), .val (.int p1), .val (.int (0 : Int32)), .val (.int (5 : Int32)), .val (.int (p1.toInt8.toInt32)), .val (.int (4 : Int32))] [(.int (4 : Int32)), (.ref b1)])) rfl rfl (hb hby d7_16) _ q) ?_
          refine own_tp (.int (p1.toInt8.toInt32)) 19 (fun _ q => XS.iload X0.here hx rfl (hb hby d7_17) rfl q) ?_
          by_cases c60 : (45 : Int32) = (p1.toInt8.toInt32)
          ·
            refine own_d2 22 (fun _ q => XS.icmpNo X0.here hx rfl (hb hby d7_19) rfl (teq c60).2 q) ?_
            refine own_tp (.int (4 : Int32)) 24 (fun _ q => XS.iload X0.here hx rfl (hb hby d7_22) rfl q) ?_
            exact own_retI X0 hx hrt (hb hby d7_24) hlk (by decide) (by decide) e0 (⟨by have hv : own_ix p1 = (4 : Int32) := (by first | (simp only [own_ix, c52, c54, c56, c58, c60, ↓reduceIte]; done) | (simp [own_ix, c52, c54, c56, c58, c60]; done)); rw [hv] <;> rfl, N0, rfl⟩)
          ·
            refine own_d2 25 (fun _ q => XS.icmpYes X0.here hx rfl (pc0 := 19) (pc' := 25) rfl (hb hby d7_19) rfl (feq c60).2 (by decide) (by decide) q) ?_
            refine own_li #[.val (.ref b1), .val (.int p1), .val (.int (0 : Int32)), .val (.int (5 : Int32)), .val (.int (p1.toInt8.toInt32)), .val (.int (5 : Int32))] 28 (fun _ q => XS.iinc X0.here hx rfl (hb hby d7_25) rfl (l' := #[.val (.ref b1), .val (.int p1), .val (.int (0 : Int32)), .val (.int (5 : Int32)), .val (.int (p1.toInt8.toInt32)), .val (.int (5 : Int32))]) rfl q) ?_
            refine own_d0 7 (fun _ q => XS.goto X0.here hx rfl (pc0 := 28) (pc' := 7) rfl (hb hby d7_28) (by decide) (by decide) q) ?_
            refine own_tp (.int (5 : Int32)) 9 (fun _ q => XS.iload X0.here hx rfl (hb hby d7_7) rfl q) ?_
            refine own_tp (.int (5 : Int32)) 10 (fun _ q => XS.iloadN X0.here hx rfl (hb hby d7_9) rfl q) ?_
            refine own_d2 31 (fun _ q => XS.icmpYes X0.here hx rfl (pc0 := 10) (pc' := 31) rfl (hb hby d7_10) rfl (flt (by decide : ¬ ((5 : Int32) < (5 : Int32)))).2.1 (by decide) (by decide) q) ?_
            refine own_tp (.int (-1 : Int32)) 32 (fun _ q => XS.iconst X0.here hx rfl (hb hby d7_31) q) ?_
            exact own_retI X0 hx hrt (hb hby d7_32) hlk (by decide) (by decide) e0 (⟨by have hv : own_ix p1 = (-1 : Int32) := (by first | (simp only [own_ix, c52, c54, c56, c58, c60, ↓reduceIte]; done) | (simp [own_ix, c52, c54, c56, c58, c60]; done)); rw [hv] <;> rfl, N0, rfl⟩)

def Q8 (p1 : Int32) (h0 : Heap) (n0 : Nat) (v : Option Value) (h : Heap) (L : List Loc) : Prop := v = some (.int (own_io p1)) ∧ Fr n0 L ∧ h = h0

theorem d8_0 : decode jdk_43_method_22_code 0 = .ok (.iload_n 1, 1) := by decide +kernel
theorem d8_1 : decode jdk_43_method_22_code 1 = .ok (.invokestatic 88, 3) := by decide +kernel
theorem d8_4 : decode jdk_43_method_22_code 4 = .ok (.ifCond .ne 5, 3) := by decide +kernel
theorem d8_7 : decode jdk_43_method_22_code 7 = .ok (.iconst (-1), 1) := by decide +kernel
theorem d8_8 : decode jdk_43_method_22_code 8 = .ok (.ireturn, 1) := by decide +kernel
theorem d8_9 : decode jdk_43_method_22_code 9 = .ok (.iload_n 2, 1) := by decide +kernel
theorem d8_10 : decode jdk_43_method_22_code 10 = .ok (.iconst 0, 1) := by decide +kernel
theorem d8_11 : decode jdk_43_method_22_code 11 = .ok (.invokestatic 92, 3) := by decide +kernel
theorem d8_14 : decode jdk_43_method_22_code 14 = .ok (.istore_n 2, 1) := by decide +kernel
theorem d8_15 : decode jdk_43_method_22_code 15 = .ok (.iload_n 3, 1) := by decide +kernel
theorem d8_16 : decode jdk_43_method_22_code 16 = .ok (.aload_n 0, 1) := by decide +kernel
theorem d8_17 : decode jdk_43_method_22_code 17 = .ok (.arraylength, 1) := by decide +kernel
theorem d8_18 : decode jdk_43_method_22_code 18 = .ok (.invokestatic 38, 3) := by decide +kernel
theorem d8_21 : decode jdk_43_method_22_code 21 = .ok (.istore_n 3, 1) := by decide +kernel
theorem d8_22 : decode jdk_43_method_22_code 22 = .ok (.iload_n 2, 1) := by decide +kernel
theorem d8_23 : decode jdk_43_method_22_code 23 = .ok (.iload_n 3, 1) := by decide +kernel
theorem d8_24 : decode jdk_43_method_22_code 24 = .ok (.if_icmp .lt 5, 3) := by decide +kernel
theorem d8_29 : decode jdk_43_method_22_code 29 = .ok (.aload_n 0, 1) := by decide +kernel
theorem d8_30 : decode jdk_43_method_22_code 30 = .ok (.iload_n 1, 1) := by decide +kernel
theorem d8_31 : decode jdk_43_method_22_code 31 = .ok (.iload_n 2, 1) := by decide +kernel
theorem d8_32 : decode jdk_43_method_22_code 32 = .ok (.iload_n 3, 1) := by decide +kernel
theorem d8_33 : decode jdk_43_method_22_code 33 = .ok (.invokestatic 95, 3) := by decide +kernel
theorem d8_36 : decode jdk_43_method_22_code 36 = .ok (.ireturn, 1) := by decide +kernel
theorem pn8 : plainName "java/lang/StringLatin1" = true := by first | (simp [plainName, overriddenIn]; done) | decide +kernel
theorem pd8_0 : parseMethodDescriptor "(I)Z" = some ⟨[.int], some .boolean⟩ := by decide +kernel
theorem pd8_1 : parseMethodDescriptor "(II)I" = some ⟨[.int, .int], some .int⟩ := by decide +kernel
theorem pd8_2 : parseMethodDescriptor "([BIII)I" = some ⟨[(.array .byte), .int, .int, .int], some .int⟩ := by decide +kernel
theorem ef8 (m : MethodId) (x0 : Addr) (x1 : Int32) (x2 : Int32) (x3 : Int32) : entryFrame m #[(.ref x0), (.int x1), (.int x2), (.int x3)] 4 = mkF m 0 #[.val (.ref x0), .val (.int x1), .val (.int x2), .val (.int x3)] [] := by first | (simp [entryFrame, mkF, argsToLocals, Value.category]; done) | rfl
set_option maxRecDepth 65536 in
set_option maxHeartbeats 40000000 in
theorem rm8 (l : Launch) (Z : State) (a0 : Array Value) (hw : ∀ d ∈ tables_1, d.before a0 Z = true) (ws : List Jvm.Cond) (b1 : Addr) (k1 : ClassId) (p1 : Int32) (h0 : Heap) (n0 : Nat) (V1 : Arv Z h0 b1 k1 .byte (5 : Int32) [(.int (46 : Int32)), (.int (37 : Int32)), (.int (95 : Int32)), (.int (43 : Int32)), (.int (45 : Int32))] (.int (0 : Int32))) :
    own_Met l (⟨"java/lang/StringLatin1", "indexOf", "([BIII)I"⟩ : MethodName) jdk_43_method_22_code 4 (some .int) ws ({ frames := 1, cells := 0, slots := 0, locals := 17 } : Room) Z #[(.ref b1), (.int p1), (.int (0 : Int32)), (.int (5 : Int32))] h0 (Q8 p1 h0 n0) := by
  refine own_enter #[.val (.ref b1), .val (.int p1), .val (.int (0 : Int32)), .val (.int (5 : Int32))] (plainFor_of_name pn8) (fun m => ef8 m b1 p1 (0 : Int32) (5 : Int32)) ?_
  intro p e s m below meth c s₁ hx hby hml hown hnm hZ hrt hlk X0 e0
  have N0 := Fr.nil n0
  refine own_tp (.int p1) 1 (fun _ q => XS.iloadN X0.here hx rfl (hb hby d8_0) rfl q) ?_
  obtain ⟨_, _, ⟨T51, L51, k51, n51⟩, -, X51, ⟨Lc51, hQ51, l51, y51, z51⟩, st51⟩ := Jvm.LawKit.callS X0 hx (y := (⟨"java/lang/StringLatin1", "canEncode", "(I)Z"⟩ : MethodName)) hown (mvT hZ (hw _ (List.mem_of_getElem? (i := 51) rfl))) (mvT hZ (hw _ (List.mem_of_getElem? (i := 52) rfl))) (mvT hZ (hw _ (List.mem_of_getElem? (i := 49) rfl))) (mvT hZ (hw _ (List.mem_of_getElem? (i := 53) rfl))) (by decide) (backOf (W := 0) (rm4 l Z a0 hw [] p1 h0 n0 ) hZ (hw _ (List.mem_of_getElem? (i := 53) rfl)) (hw _ (List.mem_of_getElem? (i := 49) rfl)) (by decide) (by decide)) (g := (mkF m 1 #[.val (.ref b1), .val (.int p1), .val (.int (0 : Int32)), .val (.int (5 : Int32))] [(.int p1)])) rfl (by rw [hml]; rfl) (argsL := [(.int p1)]) (rest := []) (lenOf pd8_0 rfl) rfl (by show 2 * 0 + _ ≤ _; exact Nat.le_of_eq rfl) (hb hby d8_1) (fun _ _ => ⟨rfl, e0, (by decide : 0 + 0 ≤ _), (by decide : 0 + 0 ≤ _)⟩)
  dsimp only [Pt.U, Pt.locs, Pt.cells, Pt.slots] at X51 l51 y51 z51 st51 hQ51
  subst l51 y51 z51
  obtain ⟨rfl, Nq51, eq51⟩ := hQ51
  have N51 := Fr.app N0 Nq51
  refine own_t1 (.int (own_ce p1)) 4 st51 ?_
  by_cases c52 : (own_ce p1) = (0 : Int32)
  ·
    refine own_d1 7 (fun _ q => XS.ifNo X51.here hx rfl (hb hby d8_4) rfl ((if0 _ _).trans (teq c52).2) q) ?_
    refine own_tp (.int (-1 : Int32)) 8 (fun _ q => XS.iconst X51.here hx rfl (hb hby d8_7) q) ?_
    exact own_retI X51 hx hrt (hb hby d8_8) hlk (by decide) (by decide) eq51 (⟨by have hv : own_io p1 = (-1 : Int32) := (by simp [own_io, c52]); rw [hv], N51, rfl⟩)
  ·
    refine own_d1 9 (fun _ q => XS.ifYes X51.here hx rfl (pc0 := 4) (pc' := 9) rfl (hb hby d8_4) rfl ((if0 _ _).trans (feq c52).2) (by decide) (by decide) q) ?_
    refine own_tp (.int (0 : Int32)) 10 (fun _ q => XS.iloadN X51.here hx rfl (hb hby d8_9) rfl q) ?_
    refine own_tp (.int (0 : Int32)) 11 (fun _ q => XS.iconst X51.here hx rfl (hb hby d8_10) q) ?_
    obtain ⟨_, _, ⟨T53, L53, k53, n53⟩, -, X53, ⟨Lc53, hQ53, l53, y53, z53⟩, st53⟩ := Jvm.LawKit.callS X51 hx (y := (⟨"java/lang/Math", "max", "(II)I"⟩ : MethodName)) hown (mvT hZ (hw _ (List.mem_of_getElem? (i := 54) rfl))) (mvT hZ (hw _ (List.mem_of_getElem? (i := 55) rfl))) (mvT hZ (hw _ (List.mem_of_getElem? (i := 56) rfl))) (mvT hZ (hw _ (List.mem_of_getElem? (i := 57) rfl))) (by decide) (backOf (W := 0) (rm5 l Z a0 hw [] (0 : Int32) (0 : Int32) h0 n0 ) hZ (hw _ (List.mem_of_getElem? (i := 57) rfl)) (hw _ (List.mem_of_getElem? (i := 56) rfl)) (by decide) (by decide)) (g := (mkF m 11 #[.val (.ref b1), .val (.int p1), .val (.int (0 : Int32)), .val (.int (5 : Int32))] [(.int (0 : Int32)), (.int (0 : Int32))])) rfl (by rw [hml]; rfl) (argsL := [(.int (0 : Int32)), (.int (0 : Int32))]) (rest := []) (lenOf pd8_1 rfl) rfl (by show 2 * 0 + _ ≤ _; exact Nat.le_of_eq rfl) (hb hby d8_11) (fun _ _ => ⟨rfl, eq51, (by decide : 0 + 0 ≤ _), (by decide : 0 + 0 ≤ _)⟩)
    dsimp only [Pt.U, Pt.locs, Pt.cells, Pt.slots] at X53 l53 y53 z53 st53 hQ53
    subst l53 y53 z53
    obtain ⟨rfl, Nq53, eq53⟩ := hQ53
    have N53 := Fr.app N51 Nq53
    refine own_d1 14 st53 ?_
    refine own_d1 15 (fun _ q => XS.istoreN X53.here hx rfl (hb hby d8_14) rfl (l' := #[.val (.ref b1), .val (.int p1), .val (.int (0 : Int32)), .val (.int (5 : Int32))]) rfl q) ?_
    refine own_tp (.int (5 : Int32)) 16 (fun _ q => XS.iloadN X53.here hx rfl (hb hby d8_15) rfl q) ?_
    refine own_tp (.ref b1) 17 (fun _ q => XS.aloadN X53.here hx rfl (hb hby d8_16) rfl rfl q) ?_
    obtain ⟨cl54, Ar54, -, Sz54, Nn54, -, -⟩ := (id V1)
    refine own_t1 (.int (5 : Int32)) 18 (fun t q => X53.arraylength hx (by rw [eq53]; exact Ar54.1) (State.isArrayOf_alike hZ.alike Ar54.2.1) (g := (mkF m 17 #[.val (.ref b1), .val (.int p1), .val (.int (0 : Int32)), .val (.int (5 : Int32))] [(.ref b1), (.int (5 : Int32))])) rfl rfl (hb hby d8_17) _ (by rw [len_of Sz54 Nn54]; exact q)) ?_
    obtain ⟨_, _, ⟨T55, L55, k55, n55⟩, -, X55, ⟨Lc55, hQ55, l55, y55, z55⟩, st55⟩ := Jvm.LawKit.callS X53 hx (y := (⟨"java/lang/Math", "min", "(II)I"⟩ : MethodName)) hown (mvT hZ (hw _ (List.mem_of_getElem? (i := 58) rfl))) (mvT hZ (hw _ (List.mem_of_getElem? (i := 59) rfl))) (mvT hZ (hw _ (List.mem_of_getElem? (i := 56) rfl))) (mvT hZ (hw _ (List.mem_of_getElem? (i := 60) rfl))) (by decide) (backOf (W := 0) (rm6 l Z a0 hw [] (5 : Int32) (5 : Int32) h0 n0 ) hZ (hw _ (List.mem_of_getElem? (i := 60) rfl)) (hw _ (List.mem_of_getElem? (i := 56) rfl)) (by decide) (by decide)) (g := (mkF m 18 #[.val (.ref b1), .val (.int p1), .val (.int (0 : Int32)), .val (.int (5 : Int32))] [(.int (5 : Int32)), (.int (5 : Int32))])) rfl (by rw [hml]; rfl) (argsL := [(.int (5 : Int32)), (.int (5 : Int32))]) (rest := []) (lenOf pd8_1 rfl) rfl (by show 2 * 0 + _ ≤ _; exact Nat.le_of_eq rfl) (hb hby d8_18) (fun _ _ => ⟨rfl, eq53, (by decide : 0 + 0 ≤ _), (by decide : 0 + 0 ≤ _)⟩)
    dsimp only [Pt.U, Pt.locs, Pt.cells, Pt.slots] at X55 l55 y55 z55 st55 hQ55
    subst l55 y55 z55
    obtain ⟨rfl, Nq55, eq55⟩ := hQ55
    have N55 := Fr.app N53 Nq55
    refine own_d1 21 st55 ?_
    refine own_d1 22 (fun _ q => XS.istoreN X55.here hx rfl (hb hby d8_21) rfl (l' := #[.val (.ref b1), .val (.int p1), .val (.int (0 : Int32)), .val (.int (5 : Int32))]) rfl q) ?_
    refine own_tp (.int (0 : Int32)) 23 (fun _ q => XS.iloadN X55.here hx rfl (hb hby d8_22) rfl q) ?_
    refine own_tp (.int (5 : Int32)) 24 (fun _ q => XS.iloadN X55.here hx rfl (hb hby d8_23) rfl q) ?_
    refine own_d2 29 (fun _ q => XS.icmpYes X55.here hx rfl (pc0 := 24) (pc' := 29) rfl (hb hby d8_24) rfl (tlt (by decide : (0 : Int32) < (5 : Int32))).1 (by decide) (by decide) q) ?_
    refine own_tp (.ref b1) 30 (fun _ q => XS.aloadN X55.here hx rfl (hb hby d8_29) rfl rfl q) ?_
    refine own_tp (.int p1) 31 (fun _ q => XS.iloadN X55.here hx rfl (hb hby d8_30) rfl q) ?_
    refine own_tp (.int (0 : Int32)) 32 (fun _ q => XS.iloadN X55.here hx rfl (hb hby d8_31) rfl q) ?_
    refine own_tp (.int (5 : Int32)) 33 (fun _ q => XS.iloadN X55.here hx rfl (hb hby d8_32) rfl q) ?_
    obtain ⟨_, _, ⟨T56, L56, k56, n56⟩, -, X56, ⟨Lc56, hQ56, l56, y56, z56⟩, st56⟩ := Jvm.LawKit.callS X55 hx (y := (⟨"java/lang/StringLatin1", "indexOfChar", "([BIII)I"⟩ : MethodName)) hown (mvT hZ (hw _ (List.mem_of_getElem? (i := 61) rfl))) (mvT hZ (hw _ (List.mem_of_getElem? (i := 62) rfl))) (mvT hZ (hw _ (List.mem_of_getElem? (i := 49) rfl))) (mvT hZ (hw _ (List.mem_of_getElem? (i := 63) rfl))) (by decide) (backOf (W := 0) (rm7 l Z a0 hw [] b1 k1 p1 h0 n0 V1) hZ (hw _ (List.mem_of_getElem? (i := 63) rfl)) (hw _ (List.mem_of_getElem? (i := 49) rfl)) (by decide) (by decide)) (g := (mkF m 33 #[.val (.ref b1), .val (.int p1), .val (.int (0 : Int32)), .val (.int (5 : Int32))] [(.int (5 : Int32)), (.int (0 : Int32)), (.int p1), (.ref b1)])) rfl (by rw [hml]; rfl) (argsL := [(.ref b1), (.int p1), (.int (0 : Int32)), (.int (5 : Int32))]) (rest := []) (lenOf pd8_2 rfl) rfl (by show 2 * 0 + _ ≤ _; exact Nat.le_of_eq rfl) (hb hby d8_33) (fun _ _ => ⟨rfl, eq55, (by decide : 0 + 0 ≤ _), (by decide : 0 + 0 ≤ _)⟩)
    dsimp only [Pt.U, Pt.locs, Pt.cells, Pt.slots] at X56 l56 y56 z56 st56 hQ56
    subst l56 y56 z56
    obtain ⟨rfl, Nq56, eq56⟩ := hQ56
    have N56 := Fr.app N55 Nq56
    refine own_cs [(.int (own_ix p1))] 36 st56 ?_
    exact own_retI X56 hx hrt (hb hby d8_36) hlk (by decide) (by decide) eq56 (⟨by have hv : own_io p1 = (own_ix p1) := (by simp [own_io, c52]); rw [hv], N56, rfl⟩)

def Q9 (p1 : Int32) (h0 : Heap) (n0 : Nat) (v : Option Value) (h : Heap) (L : List Loc) : Prop := v = some (.int (own_io p1)) ∧ Fr n0 L ∧ h = h0

theorem d9_0 : decode jdk_42_method_80_code 0 = .ok (.aload_n 0, 1) := by decide +kernel
theorem d9_1 : decode jdk_42_method_80_code 1 = .ok (.invokevirtual 492, 3) := by decide +kernel
theorem d9_4 : decode jdk_42_method_80_code 4 = .ok (.ifCond .eq 19, 3) := by decide +kernel
theorem d9_7 : decode jdk_42_method_80_code 7 = .ok (.aload_n 0, 1) := by decide +kernel
theorem d9_8 : decode jdk_42_method_80_code 8 = .ok (.getfield 9, 3) := by decide +kernel
theorem d9_11 : decode jdk_42_method_80_code 11 = .ok (.iload_n 1, 1) := by decide +kernel
theorem d9_12 : decode jdk_42_method_80_code 12 = .ok (.iload_n 2, 1) := by decide +kernel
theorem d9_13 : decode jdk_42_method_80_code 13 = .ok (.aload_n 0, 1) := by decide +kernel
theorem d9_14 : decode jdk_42_method_80_code 14 = .ok (.invokevirtual 505, 3) := by decide +kernel
theorem d9_17 : decode jdk_42_method_80_code 17 = .ok (.invokestatic 637, 3) := by decide +kernel
theorem d9_20 : decode jdk_42_method_80_code 20 = .ok (.goto 16, 3) := by decide +kernel
theorem d9_36 : decode jdk_42_method_80_code 36 = .ok (.ireturn, 1) := by decide +kernel
theorem pn9 : plainName "java/lang/String" = true := by first | (simp [plainName, overriddenIn]; done) | decide +kernel
theorem pd9_0 : parseMethodDescriptor "()Z" = some ⟨[], some .boolean⟩ := by decide +kernel
theorem pd9_1 : parseMethodDescriptor "()I" = some ⟨[], some .int⟩ := by decide +kernel
theorem pd9_2 : parseMethodDescriptor "([BIII)I" = some ⟨[(.array .byte), .int, .int, .int], some .int⟩ := by decide +kernel
theorem ef9 (m : MethodId) (x0 : Addr) (x1 : Int32) (x2 : Int32) : entryFrame m #[(.ref x0), (.int x1), (.int x2)] 3 = mkF m 0 #[.val (.ref x0), .val (.int x1), .val (.int x2)] [] := by first | (simp [entryFrame, mkF, argsToLocals, Value.category]; done) | rfl
set_option maxRecDepth 65536 in
set_option maxHeartbeats 40000000 in
theorem rm9 (l : Launch) (Z : State) (a0 : Array Value) (hw : ∀ d ∈ tables_1, d.before a0 Z = true) (ws : List Jvm.Cond) (a1 b1 : Addr) (k1 : ClassId) (p1 : Int32) (h0 : Heap) (n0 : Nat) (G1 : Int32) (P5 : ¬ G1 = (0 : Int32)) (O0 : Old Z n0 h0) (Sc : Sta Z Z.heap "java/lang/String" "COMPACT_STRINGS" "Z" (.int G1)) (E1 : Exa Z h0 a1 "java/lang/String") (C1 : Fld Z h0 a1 "java/lang/String" "coder" "B" (.int (0 : Int32))) (L1 : Fld Z h0 a1 "java/lang/String" "value" "[B" (.ref b1)) (V1 : Arv Z h0 b1 k1 .byte (5 : Int32) [(.int (46 : Int32)), (.int (37 : Int32)), (.int (95 : Int32)), (.int (43 : Int32)), (.int (45 : Int32))] (.int (0 : Int32))) :
    own_Met l (⟨"java/lang/String", "indexOf", "(II)I"⟩ : MethodName) jdk_42_method_80_code 3 (some .int) ws ({ frames := 2, cells := 0, slots := 0, locals := 35 } : Room) Z #[(.ref a1), (.int p1), (.int (0 : Int32))] h0 (Q9 p1 h0 n0) := by
  refine own_enter #[.val (.ref a1), .val (.int p1), .val (.int (0 : Int32))] (plainFor_of_name pn9) (fun m => ef9 m a1 p1 (0 : Int32)) ?_
  intro p e s m below meth c s₁ hx hby hml hown hnm hZ hrt hlk X0 e0
  have N0 := Fr.nil n0
  refine own_tp (.ref a1) 1 (fun _ q => XS.aloadN X0.here hx rfl (hb hby d9_0) rfl rfl q) ?_
  obtain ⟨cq51, kq51, q51a, q51b, q51c⟩ := isOf hZ e0 E1
  obtain ⟨_, _, ⟨T51, L51, k51, n51⟩, -, X51, ⟨Lc51, hQ51, l51, y51, z51⟩, st51⟩ := X0.virtualBack hx (y := (⟨"java/lang/String", "isLatin1", "()Z"⟩ : MethodName)) (z := (⟨"java/lang/String", "isLatin1", "()Z"⟩ : MethodName)) hown (mvT hZ (hw _ (List.mem_of_getElem? (i := 29) rfl))) (mvT hZ (hw _ (List.mem_of_getElem? (i := 30) rfl))) (notFace_of_selects (args := #[]) (mvT hZ (hw _ (List.mem_of_getElem? (i := 32) rfl)))) (mvT hZ (hw _ (List.mem_of_getElem? (i := 32) rfl))) (mvT hZ (hw _ (List.mem_of_getElem? (i := 31) rfl))) (by decide) (backOf (W := 0) (rm2 l Z a0 hw [] a1 h0 n0 G1 P5 O0 Sc E1 C1) hZ (hw _ (List.mem_of_getElem? (i := 33) rfl)) (hw _ (List.mem_of_getElem? (i := 12) rfl)) (by decide) (by decide)) q51a q51c (g := (mkF m 1 #[.val (.ref a1), .val (.int p1), .val (.int (0 : Int32))] [(.ref a1)])) rfl (by rw [hml]; rfl) (Steps.refl _) (argsL := []) (rest := []) (lenOf pd9_0 rfl) rfl (by show 2 * 0 + _ ≤ _; exact Nat.le_of_eq rfl) (hb hby d9_1) (fun _ _ => ⟨rfl, e0, (by decide : 0 + 0 ≤ _), (by decide : 0 + 0 ≤ _)⟩)
  dsimp only [Pt.U, Pt.locs, Pt.cells, Pt.slots] at X51 l51 y51 z51 st51 hQ51
  subst l51 y51 z51
  obtain ⟨rfl, Nq51, eq51⟩ := hQ51
  have N51 := Fr.app N0 Nq51
  refine own_csR [(.int (1 : Int32))] 4 st51 ?_
  refine own_d1 7 (fun _ q => XS.ifNo X51.here hx rfl (hb hby d9_4) rfl ((if0 _ _).trans (feq (by decide : ¬ ((1 : Int32) = (0 : Int32)))).1) q) ?_
  refine own_tp (.ref a1) 8 (fun _ q => XS.aloadN X51.here hx rfl (hb hby d9_7) rfl rfl q) ?_
  obtain ⟨T52, X52, e52, st52⟩ := getF X51 hx hZ hown (host := "") (Or.inl (hw _ (List.mem_of_getElem? (i := 36) rfl))) Via.refl eq51 L1 (g := (mkF m 8 #[.val (.ref a1), .val (.int p1), .val (.int (0 : Int32))] [(.ref a1)])) rfl rfl (hb hby d9_8)
  refine own_t1 (.ref b1) 11 st52 ?_
  refine own_tp (.int p1) 12 (fun _ q => XS.iloadN X52.here hx rfl (hb hby d9_11) rfl q) ?_
  refine own_tp (.int (0 : Int32)) 13 (fun _ q => XS.iloadN X52.here hx rfl (hb hby d9_12) rfl q) ?_
  refine own_tp (.ref a1) 14 (fun _ q => XS.aloadN X52.here hx rfl (hb hby d9_13) rfl rfl q) ?_
  obtain ⟨cq53, kq53, q53a, q53b, q53c⟩ := isOf hZ e52 E1
  obtain ⟨_, _, ⟨T53, L53, k53, n53⟩, -, X53, ⟨Lc53, hQ53, l53, y53, z53⟩, st53⟩ := X52.virtualBack hx (y := (⟨"java/lang/String", "length", "()I"⟩ : MethodName)) (z := (⟨"java/lang/String", "length", "()I"⟩ : MethodName)) hown (mvT hZ (hw _ (List.mem_of_getElem? (i := 37) rfl))) (mvT hZ (hw _ (List.mem_of_getElem? (i := 38) rfl))) (notFace_of_selects (args := #[]) (mvT hZ (hw _ (List.mem_of_getElem? (i := 40) rfl)))) (mvT hZ (hw _ (List.mem_of_getElem? (i := 40) rfl))) (mvT hZ (hw _ (List.mem_of_getElem? (i := 39) rfl))) (by decide) (backOf (W := 3) (rm3 l Z a0 hw [] a1 b1 k1 (5 : Int32) [(.int (46 : Int32)), (.int (37 : Int32)), (.int (95 : Int32)), (.int (43 : Int32)), (.int (45 : Int32))] h0 n0 G1 P5 O0 Sc E1 C1 L1 V1) hZ (hw _ (List.mem_of_getElem? (i := 41) rfl)) (hw _ (List.mem_of_getElem? (i := 12) rfl)) (by decide) (by decide)) q53a q53c (g := (mkF m 14 #[.val (.ref a1), .val (.int p1), .val (.int (0 : Int32))] [(.ref a1), (.int (0 : Int32)), (.int p1), (.ref b1)])) rfl (by rw [hml]; rfl) (Steps.refl _) (argsL := []) (rest := [(.int (0 : Int32)), (.int p1), (.ref b1)]) (lenOf pd9_1 rfl) rfl (by show 2 * 0 + _ ≤ _; exact Nat.le_of_eq rfl) (hb hby d9_14) (fun _ _ => ⟨rfl, e52, (by decide : 0 + 0 ≤ _), (by decide : 0 + 0 ≤ _)⟩)
  dsimp only [Pt.U, Pt.locs, Pt.cells, Pt.slots] at X53 l53 y53 z53 st53 hQ53
  subst l53 y53 z53
  obtain ⟨rfl, Nq53, eq53⟩ := hQ53
  have N53 := Fr.app N51 Nq53
  refine own_csR [(.int (5 : Int32)), (.int (0 : Int32)), (.int p1), (.ref b1)] 17 st53 ?_
  obtain ⟨_, _, ⟨T54, L54, k54, n54⟩, -, X54, ⟨Lc54, hQ54, l54, y54, z54⟩, st54⟩ := Jvm.LawKit.callS X53 hx (y := (⟨"java/lang/StringLatin1", "indexOf", "([BIII)I"⟩ : MethodName)) hown (mvT hZ (hw _ (List.mem_of_getElem? (i := 47) rfl))) (mvT hZ (hw _ (List.mem_of_getElem? (i := 48) rfl))) (mvT hZ (hw _ (List.mem_of_getElem? (i := 49) rfl))) (mvT hZ (hw _ (List.mem_of_getElem? (i := 50) rfl))) (by decide) (backOf (W := 0) (rm8 l Z a0 hw [] b1 k1 p1 h0 n0 V1) hZ (hw _ (List.mem_of_getElem? (i := 50) rfl)) (hw _ (List.mem_of_getElem? (i := 49) rfl)) (by decide) (by decide)) (g := (mkF m 17 #[.val (.ref a1), .val (.int p1), .val (.int (0 : Int32))] [(.int (5 : Int32)), (.int (0 : Int32)), (.int p1), (.ref b1)])) rfl (by rw [hml]; rfl) (argsL := [(.ref b1), (.int p1), (.int (0 : Int32)), (.int (5 : Int32))]) (rest := []) (lenOf pd9_2 rfl) rfl (by show 2 * 0 + _ ≤ _; exact Nat.le_of_eq rfl) (hb hby d9_17) (fun _ _ => ⟨rfl, eq53, (by decide : 0 + 0 ≤ _), (by decide : 0 + 0 ≤ _)⟩)
  dsimp only [Pt.U, Pt.locs, Pt.cells, Pt.slots] at X54 l54 y54 z54 st54 hQ54
  subst l54 y54 z54
  obtain ⟨rfl, Nq54, eq54⟩ := hQ54
  have N54 := Fr.app N53 Nq54
  refine own_cs [(.int (own_io p1))] 20 st54 ?_
  refine own_d0 36 (fun _ q => XS.goto X54.here hx rfl (pc0 := 20) (pc' := 36) rfl (hb hby d9_20) (by decide) (by decide) q) ?_
  exact own_retI X54 hx hrt (hb hby d9_36) hlk (by decide) (by decide) eq54 (⟨rfl, N54, rfl⟩)

def Q10 (p1 : Int32) (h0 : Heap) (n0 : Nat) (v : Option Value) (h : Heap) (L : List Loc) : Prop := v = some (.int (own_io p1)) ∧ Fr n0 L ∧ h = h0

theorem d10_0 : decode jdk_42_method_79_code 0 = .ok (.aload_n 0, 1) := by decide +kernel
theorem d10_1 : decode jdk_42_method_79_code 1 = .ok (.iload_n 1, 1) := by decide +kernel
theorem d10_2 : decode jdk_42_method_79_code 2 = .ok (.iconst 0, 1) := by decide +kernel
theorem d10_3 : decode jdk_42_method_79_code 3 = .ok (.invokevirtual 633, 3) := by decide +kernel
theorem d10_6 : decode jdk_42_method_79_code 6 = .ok (.ireturn, 1) := by decide +kernel
theorem pn10 : plainName "java/lang/String" = true := by first | (simp [plainName, overriddenIn]; done) | decide +kernel
theorem pd10_0 : parseMethodDescriptor "(II)I" = some ⟨[.int, .int], some .int⟩ := by decide +kernel
theorem ef10 (m : MethodId) (x0 : Addr) (x1 : Int32) : entryFrame m #[(.ref x0), (.int x1)] 2 = mkF m 0 #[.val (.ref x0), .val (.int x1)] [] := by first | (simp [entryFrame, mkF, argsToLocals, Value.category]; done) | rfl
set_option maxRecDepth 65536 in
set_option maxHeartbeats 40000000 in
theorem rm10 (l : Launch) (Z : State) (a0 : Array Value) (hw : ∀ d ∈ tables_1, d.before a0 Z = true) (ws : List Jvm.Cond) (a1 b1 : Addr) (k1 : ClassId) (p1 : Int32) (h0 : Heap) (n0 : Nat) (G1 : Int32) (P5 : ¬ G1 = (0 : Int32)) (O0 : Old Z n0 h0) (Sc : Sta Z Z.heap "java/lang/String" "COMPACT_STRINGS" "Z" (.int G1)) (E1 : Exa Z h0 a1 "java/lang/String") (C1 : Fld Z h0 a1 "java/lang/String" "coder" "B" (.int (0 : Int32))) (L1 : Fld Z h0 a1 "java/lang/String" "value" "[B" (.ref b1)) (V1 : Arv Z h0 b1 k1 .byte (5 : Int32) [(.int (46 : Int32)), (.int (37 : Int32)), (.int (95 : Int32)), (.int (43 : Int32)), (.int (45 : Int32))] (.int (0 : Int32))) :
    own_Met l (⟨"java/lang/String", "indexOf", "(I)I"⟩ : MethodName) jdk_42_method_79_code 2 (some .int) ws ({ frames := 3, cells := 0, slots := 0, locals := 49 } : Room) Z #[(.ref a1), (.int p1)] h0 (Q10 p1 h0 n0) := by
  refine own_enter #[.val (.ref a1), .val (.int p1)] (plainFor_of_name pn10) (fun m => ef10 m a1 p1) ?_
  intro p e s m below meth c s₁ hx hby hml hown hnm hZ hrt hlk X0 e0
  have N0 := Fr.nil n0
  refine own_tp (.ref a1) 1 (fun _ q => XS.aloadN X0.here hx rfl (hb hby d10_0) rfl rfl q) ?_
  refine own_tp (.int p1) 2 (fun _ q => XS.iloadN X0.here hx rfl (hb hby d10_1) rfl q) ?_
  refine own_tp (.int (0 : Int32)) 3 (fun _ q => XS.iconst X0.here hx rfl (hb hby d10_2) q) ?_
  obtain ⟨cq51, kq51, q51a, q51b, q51c⟩ := isOf hZ e0 E1
  obtain ⟨_, _, ⟨T51, L51, k51, n51⟩, -, X51, ⟨Lc51, hQ51, l51, y51, z51⟩, st51⟩ := X0.virtualBack hx (y := (⟨"java/lang/String", "indexOf", "(II)I"⟩ : MethodName)) (z := (⟨"java/lang/String", "indexOf", "(II)I"⟩ : MethodName)) hown (mvT hZ (hw _ (List.mem_of_getElem? (i := 24) rfl))) (mvT hZ (hw _ (List.mem_of_getElem? (i := 25) rfl))) (notFace_of_selects (args := #[]) (mvT hZ (hw _ (List.mem_of_getElem? (i := 27) rfl)))) (mvT hZ (hw _ (List.mem_of_getElem? (i := 27) rfl))) (mvT hZ (hw _ (List.mem_of_getElem? (i := 26) rfl))) (by decide) (backOf (W := 0) (rm9 l Z a0 hw [] a1 b1 k1 p1 h0 n0 G1 P5 O0 Sc E1 C1 L1 V1) hZ (hw _ (List.mem_of_getElem? (i := 28) rfl)) (hw _ (List.mem_of_getElem? (i := 12) rfl)) (by decide) (by decide)) q51a q51c (g := (mkF m 3 #[.val (.ref a1), .val (.int p1)] [(.int (0 : Int32)), (.int p1), (.ref a1)])) rfl (by rw [hml]; rfl) (Steps.refl _) (argsL := [(.int p1), (.int (0 : Int32))]) (rest := []) (lenOf pd10_0 rfl) rfl (by show 2 * 0 + _ ≤ _; exact Nat.le_of_eq rfl) (hb hby d10_3) (fun _ _ => ⟨rfl, e0, (by decide : 0 + 0 ≤ _), (by decide : 0 + 0 ≤ _)⟩)
  dsimp only [Pt.U, Pt.locs, Pt.cells, Pt.slots] at X51 l51 y51 z51 st51 hQ51
  subst l51 y51 z51
  obtain ⟨rfl, Nq51, eq51⟩ := hQ51
  have N51 := Fr.app N0 Nq51
  refine own_csR [(.int (own_io p1))] 6 st51 ?_
  exact own_retI X51 hx hrt (hb hby d10_6) hlk (by decide) (by decide) eq51 (⟨rfl, N51, rfl⟩)

def Q11 (p1 : Int32) (h0 : Heap) (n0 : Nat) (v : Option Value) (h : Heap) (L : List Loc) : Prop := v = some (.int (own_let p1)) ∧ Fr n0 L ∧ h = h0

theorem d11_0 : decode prog_10_method_5_code 0 = .ok (.iload_n 0, 1) := by decide +kernel
theorem d11_1 : decode prog_10_method_5_code 1 = .ok (.bipush 97, 2) := by decide +kernel
theorem d11_3 : decode prog_10_method_5_code 3 = .ok (.if_icmp .lt 9, 3) := by decide +kernel
theorem d11_6 : decode prog_10_method_5_code 6 = .ok (.iload_n 0, 1) := by decide +kernel
theorem d11_7 : decode prog_10_method_5_code 7 = .ok (.bipush 122, 2) := by decide +kernel
theorem d11_9 : decode prog_10_method_5_code 9 = .ok (.if_icmp .le 15, 3) := by decide +kernel
theorem d11_12 : decode prog_10_method_5_code 12 = .ok (.iload_n 0, 1) := by decide +kernel
theorem d11_13 : decode prog_10_method_5_code 13 = .ok (.bipush 65, 2) := by decide +kernel
theorem d11_15 : decode prog_10_method_5_code 15 = .ok (.if_icmp .lt 13, 3) := by decide +kernel
theorem d11_18 : decode prog_10_method_5_code 18 = .ok (.iload_n 0, 1) := by decide +kernel
theorem d11_19 : decode prog_10_method_5_code 19 = .ok (.bipush 90, 2) := by decide +kernel
theorem d11_21 : decode prog_10_method_5_code 21 = .ok (.if_icmp .gt 7, 3) := by decide +kernel
theorem d11_24 : decode prog_10_method_5_code 24 = .ok (.iconst 1, 1) := by decide +kernel
theorem d11_25 : decode prog_10_method_5_code 25 = .ok (.goto 4, 3) := by decide +kernel
theorem d11_28 : decode prog_10_method_5_code 28 = .ok (.iconst 0, 1) := by decide +kernel
theorem d11_29 : decode prog_10_method_5_code 29 = .ok (.ireturn, 1) := by decide +kernel
theorem pn11 : plainName "com/example/cited_experts/citedexperts/EmailAddress" = true := by first | (simp [plainName, overriddenIn]; done) | decide +kernel
theorem ef11 (m : MethodId) (x0 : Int32) : entryFrame m #[(.int x0)] 1 = mkF m 0 #[.val (.int x0)] [] := by first | (simp [entryFrame, mkF, argsToLocals, Value.category]; done) | rfl
set_option maxRecDepth 65536 in
set_option maxHeartbeats 40000000 in
theorem rm11 (l : Launch) (Z : State) (a0 : Array Value) (hw : ∀ d ∈ tables_1, d.before a0 Z = true) (ws : List Jvm.Cond) (p1 : Int32) (h0 : Heap) (n0 : Nat)  :
    own_Met l (⟨"com/example/cited_experts/citedexperts/EmailAddress", "isAsciiLetter", "(I)Z"⟩ : MethodName) prog_10_method_5_code 1 (some .boolean) ws ({ frames := 0, cells := 0, slots := 0, locals := 0 } : Room) Z #[(.int p1)] h0 (Q11 p1 h0 n0) := by
  refine own_enter #[.val (.int p1)] (plainFor_of_name pn11) (fun m => ef11 m p1) ?_
  intro p e s m below meth c s₁ hx hby hml hown hnm hZ hrt hlk X0 e0
  have N0 := Fr.nil n0
  refine own_tp (.int p1) 1 (fun _ q => XS.iloadN X0.here hx rfl (hb hby d11_0) rfl q) ?_
  refine own_tp (.int (97 : Int32)) 3 (fun _ q => XS.bipush X0.here hx rfl (hb hby d11_1) q) ?_
  by_cases c51 : p1 < (97 : Int32)
  ·
    refine own_d2 12 (fun _ q => XS.icmpYes X0.here hx rfl (pc0 := 3) (pc' := 12) rfl (hb hby d11_3) rfl (tlt c51).1 (by decide) (by decide) q) ?_
    refine own_tp (.int p1) 13 (fun _ q => XS.iloadN X0.here hx rfl (hb hby d11_12) rfl q) ?_
    refine own_tp (.int (65 : Int32)) 15 (fun _ q => XS.bipush X0.here hx rfl (hb hby d11_13) q) ?_
    by_cases c52 : p1 < (65 : Int32)
    ·
      refine own_d2 28 (fun _ q => XS.icmpYes X0.here hx rfl (pc0 := 15) (pc' := 28) rfl (hb hby d11_15) rfl (tlt c52).1 (by decide) (by decide) q) ?_
      refine own_tp (.int (0 : Int32)) 29 (fun _ q => XS.iconst X0.here hx rfl (hb hby d11_28) q) ?_
      exact own_retN (t := .boolean) X0 hx hrt (hb hby d11_29) (by simp) hlk (by decide) (by decide) e0 (⟨by have hv : own_let p1 = (0 : Int32) := (by first | (simp only [own_let, c51, c52, ↓reduceIte]; done) | (simp [own_let, c51, c52]; done)); rw [hv] <;> rfl, N0, rfl⟩)
    ·
      refine own_d2 18 (fun _ q => XS.icmpNo X0.here hx rfl (hb hby d11_15) rfl (flt c52).1 q) ?_
      refine own_tp (.int p1) 19 (fun _ q => XS.iloadN X0.here hx rfl (hb hby d11_18) rfl q) ?_
      refine own_tp (.int (90 : Int32)) 21 (fun _ q => XS.bipush X0.here hx rfl (hb hby d11_19) q) ?_
      by_cases c53 : (90 : Int32) < p1
      ·
        refine own_d2 28 (fun _ q => XS.icmpYes X0.here hx rfl (pc0 := 21) (pc' := 28) rfl (hb hby d11_21) rfl (tlt c53).2.2.1 (by decide) (by decide) q) ?_
        refine own_tp (.int (0 : Int32)) 29 (fun _ q => XS.iconst X0.here hx rfl (hb hby d11_28) q) ?_
        exact own_retN (t := .boolean) X0 hx hrt (hb hby d11_29) (by simp) hlk (by decide) (by decide) e0 (⟨by have hv : own_let p1 = (0 : Int32) := (by first | (simp only [own_let, c51, c52, c53, ↓reduceIte]; done) | (simp [own_let, c51, c52, c53]; done)); rw [hv] <;> rfl, N0, rfl⟩)
      ·
        refine own_d2 24 (fun _ q => XS.icmpNo X0.here hx rfl (hb hby d11_21) rfl (flt c53).2.2.1 q) ?_
        refine own_tp (.int (1 : Int32)) 25 (fun _ q => XS.iconst X0.here hx rfl (hb hby d11_24) q) ?_
        refine own_d0 29 (fun _ q => XS.goto X0.here hx rfl (pc0 := 25) (pc' := 29) rfl (hb hby d11_25) (by decide) (by decide) q) ?_
        exact own_retN (t := .boolean) X0 hx hrt (hb hby d11_29) (by simp) hlk (by decide) (by decide) e0 (⟨by have hv : own_let p1 = (1 : Int32) := (by first | (simp only [own_let, c51, c52, c53, ↓reduceIte]; done) | (simp [own_let, c51, c52, c53]; done)); rw [hv] <;> rfl, N0, rfl⟩)
  ·
    refine own_d2 6 (fun _ q => XS.icmpNo X0.here hx rfl (hb hby d11_3) rfl (flt c51).1 q) ?_
    refine own_tp (.int p1) 7 (fun _ q => XS.iloadN X0.here hx rfl (hb hby d11_6) rfl q) ?_
    refine own_tp (.int (122 : Int32)) 9 (fun _ q => XS.bipush X0.here hx rfl (hb hby d11_7) q) ?_
    by_cases c54 : (122 : Int32) < p1
    ·
      refine own_d2 12 (fun _ q => XS.icmpNo X0.here hx rfl (hb hby d11_9) rfl (tlt c54).2.2.2 q) ?_
      refine own_tp (.int p1) 13 (fun _ q => XS.iloadN X0.here hx rfl (hb hby d11_12) rfl q) ?_
      refine own_tp (.int (65 : Int32)) 15 (fun _ q => XS.bipush X0.here hx rfl (hb hby d11_13) q) ?_
      by_cases c55 : p1 < (65 : Int32)
      ·
        refine own_d2 28 (fun _ q => XS.icmpYes X0.here hx rfl (pc0 := 15) (pc' := 28) rfl (hb hby d11_15) rfl (tlt c55).1 (by decide) (by decide) q) ?_
        refine own_tp (.int (0 : Int32)) 29 (fun _ q => XS.iconst X0.here hx rfl (hb hby d11_28) q) ?_
        exact own_retN (t := .boolean) X0 hx hrt (hb hby d11_29) (by simp) hlk (by decide) (by decide) e0 (⟨by have hv : own_let p1 = (0 : Int32) := (by first | (simp only [own_let, c51, c54, c55, ↓reduceIte]; done) | (simp [own_let, c51, c54, c55]; done)); rw [hv] <;> rfl, N0, rfl⟩)
      ·
        refine own_d2 18 (fun _ q => XS.icmpNo X0.here hx rfl (hb hby d11_15) rfl (flt c55).1 q) ?_
        refine own_tp (.int p1) 19 (fun _ q => XS.iloadN X0.here hx rfl (hb hby d11_18) rfl q) ?_
        refine own_tp (.int (90 : Int32)) 21 (fun _ q => XS.bipush X0.here hx rfl (hb hby d11_19) q) ?_
        by_cases c56 : (90 : Int32) < p1
        ·
          refine own_d2 28 (fun _ q => XS.icmpYes X0.here hx rfl (pc0 := 21) (pc' := 28) rfl (hb hby d11_21) rfl (tlt c56).2.2.1 (by decide) (by decide) q) ?_
          refine own_tp (.int (0 : Int32)) 29 (fun _ q => XS.iconst X0.here hx rfl (hb hby d11_28) q) ?_
          exact own_retN (t := .boolean) X0 hx hrt (hb hby d11_29) (by simp) hlk (by decide) (by decide) e0 (⟨by have hv : own_let p1 = (0 : Int32) := (by first | (simp only [own_let, c51, c54, c55, c56, ↓reduceIte]; done) | (simp [own_let, c51, c54, c55, c56]; done)); rw [hv] <;> rfl, N0, rfl⟩)
        ·
          refine own_d2 24 (fun _ q => XS.icmpNo X0.here hx rfl (hb hby d11_21) rfl (flt c56).2.2.1 q) ?_
          refine own_tp (.int (1 : Int32)) 25 (fun _ q => XS.iconst X0.here hx rfl (hb hby d11_24) q) ?_
          refine own_d0 29 (fun _ q => XS.goto X0.here hx rfl (pc0 := 25) (pc' := 29) rfl (hb hby d11_25) (by decide) (by decide) q) ?_
          exact own_retN (t := .boolean) X0 hx hrt (hb hby d11_29) (by simp) hlk (by decide) (by decide) e0 (⟨by have hv : own_let p1 = (1 : Int32) := (by first | (simp only [own_let, c51, c54, c55, c56, ↓reduceIte]; done) | (simp [own_let, c51, c54, c55, c56]; done)); rw [hv] <;> rfl, N0, rfl⟩)
    ·
      refine own_d2 24 (fun _ q => XS.icmpYes X0.here hx rfl (pc0 := 9) (pc' := 24) rfl (hb hby d11_9) rfl (flt c54).2.2.2 (by decide) (by decide) q) ?_
      refine own_tp (.int (1 : Int32)) 25 (fun _ q => XS.iconst X0.here hx rfl (hb hby d11_24) q) ?_
      refine own_d0 29 (fun _ q => XS.goto X0.here hx rfl (pc0 := 25) (pc' := 29) rfl (hb hby d11_25) (by decide) (by decide) q) ?_
      exact own_retN (t := .boolean) X0 hx hrt (hb hby d11_29) (by simp) hlk (by decide) (by decide) e0 (⟨by have hv : own_let p1 = (1 : Int32) := (by first | (simp only [own_let, c51, c54, ↓reduceIte]; done) | (simp [own_let, c51, c54]; done)); rw [hv] <;> rfl, N0, rfl⟩)

def Q12 (p1 : Int32) (h0 : Heap) (n0 : Nat) (v : Option Value) (h : Heap) (L : List Loc) : Prop := v = some (.int (own_ld p1)) ∧ Fr n0 L ∧ h = h0

theorem d12_0 : decode prog_10_method_6_code 0 = .ok (.iload_n 0, 1) := by decide +kernel
theorem d12_1 : decode prog_10_method_6_code 1 = .ok (.invokestatic 81, 3) := by decide +kernel
theorem d12_4 : decode prog_10_method_6_code 4 = .ok (.ifCond .ne 15, 3) := by decide +kernel
theorem d12_7 : decode prog_10_method_6_code 7 = .ok (.iload_n 0, 1) := by decide +kernel
theorem d12_8 : decode prog_10_method_6_code 8 = .ok (.bipush 48, 2) := by decide +kernel
theorem d12_10 : decode prog_10_method_6_code 10 = .ok (.if_icmp .lt 13, 3) := by decide +kernel
theorem d12_13 : decode prog_10_method_6_code 13 = .ok (.iload_n 0, 1) := by decide +kernel
theorem d12_14 : decode prog_10_method_6_code 14 = .ok (.bipush 57, 2) := by decide +kernel
theorem d12_16 : decode prog_10_method_6_code 16 = .ok (.if_icmp .gt 7, 3) := by decide +kernel
theorem d12_19 : decode prog_10_method_6_code 19 = .ok (.iconst 1, 1) := by decide +kernel
theorem d12_20 : decode prog_10_method_6_code 20 = .ok (.goto 4, 3) := by decide +kernel
theorem d12_23 : decode prog_10_method_6_code 23 = .ok (.iconst 0, 1) := by decide +kernel
theorem d12_24 : decode prog_10_method_6_code 24 = .ok (.ireturn, 1) := by decide +kernel
theorem pn12 : plainName "com/example/cited_experts/citedexperts/EmailAddress" = true := by first | (simp [plainName, overriddenIn]; done) | decide +kernel
theorem pd12_0 : parseMethodDescriptor "(I)Z" = some ⟨[.int], some .boolean⟩ := by decide +kernel
theorem ef12 (m : MethodId) (x0 : Int32) : entryFrame m #[(.int x0)] 1 = mkF m 0 #[.val (.int x0)] [] := by first | (simp [entryFrame, mkF, argsToLocals, Value.category]; done) | rfl
set_option maxRecDepth 65536 in
set_option maxHeartbeats 40000000 in
theorem rm12 (l : Launch) (Z : State) (a0 : Array Value) (hw : ∀ d ∈ tables_1, d.before a0 Z = true) (ws : List Jvm.Cond) (p1 : Int32) (h0 : Heap) (n0 : Nat)  :
    own_Met l (⟨"com/example/cited_experts/citedexperts/EmailAddress", "isAsciiLetterOrDigit", "(I)Z"⟩ : MethodName) prog_10_method_6_code 1 (some .boolean) ws ({ frames := 1, cells := 0, slots := 0, locals := 12 } : Room) Z #[(.int p1)] h0 (Q12 p1 h0 n0) := by
  refine own_enter #[.val (.int p1)] (plainFor_of_name pn12) (fun m => ef12 m p1) ?_
  intro p e s m below meth c s₁ hx hby hml hown hnm hZ hrt hlk X0 e0
  have N0 := Fr.nil n0
  refine own_tp (.int p1) 1 (fun _ q => XS.iloadN X0.here hx rfl (hb hby d12_0) rfl q) ?_
  obtain ⟨_, _, ⟨T51, L51, k51, n51⟩, -, X51, ⟨Lc51, hQ51, l51, y51, z51⟩, st51⟩ := Jvm.LawKit.callS X0 hx (y := (⟨"com/example/cited_experts/citedexperts/EmailAddress", "isAsciiLetter", "(I)Z"⟩ : MethodName)) hown (mvT hZ (hw _ (List.mem_of_getElem? (i := 8) rfl))) (mvT hZ (hw _ (List.mem_of_getElem? (i := 9) rfl))) (mvT hZ (hw _ (List.mem_of_getElem? (i := 3) rfl))) (mvT hZ (hw _ (List.mem_of_getElem? (i := 10) rfl))) (by decide) (backOf (W := 0) (rm11 l Z a0 hw [] p1 h0 n0 ) hZ (hw _ (List.mem_of_getElem? (i := 10) rfl)) (hw _ (List.mem_of_getElem? (i := 3) rfl)) (by decide) (by decide)) (g := (mkF m 1 #[.val (.int p1)] [(.int p1)])) rfl (by rw [hml]; rfl) (argsL := [(.int p1)]) (rest := []) (lenOf pd12_0 rfl) rfl (by show 2 * 0 + _ ≤ _; exact Nat.le_of_eq rfl) (hb hby d12_1) (fun _ _ => ⟨rfl, e0, (by decide : 0 + 0 ≤ _), (by decide : 0 + 0 ≤ _)⟩)
  dsimp only [Pt.U, Pt.locs, Pt.cells, Pt.slots] at X51 l51 y51 z51 st51 hQ51
  subst l51 y51 z51
  obtain ⟨rfl, Nq51, eq51⟩ := hQ51
  have N51 := Fr.app N0 Nq51
  refine own_t1 (.int (own_let p1)) 4 st51 ?_
  by_cases c52 : (own_let p1) = (0 : Int32)
  ·
    refine own_d1 7 (fun _ q => XS.ifNo X51.here hx rfl (hb hby d12_4) rfl ((if0 _ _).trans (teq c52).2) q) ?_
    refine own_tp (.int p1) 8 (fun _ q => XS.iloadN X51.here hx rfl (hb hby d12_7) rfl q) ?_
    refine own_tp (.int (48 : Int32)) 10 (fun _ q => XS.bipush X51.here hx rfl (hb hby d12_8) q) ?_
    by_cases c53 : p1 < (48 : Int32)
    ·
      refine own_d2 23 (fun _ q => XS.icmpYes X51.here hx rfl (pc0 := 10) (pc' := 23) rfl (hb hby d12_10) rfl (tlt c53).1 (by decide) (by decide) q) ?_
      refine own_tp (.int (0 : Int32)) 24 (fun _ q => XS.iconst X51.here hx rfl (hb hby d12_23) q) ?_
      exact own_retN (t := .boolean) X51 hx hrt (hb hby d12_24) (by simp) hlk (by decide) (by decide) eq51 (⟨by have hv : own_ld p1 = (0 : Int32) := (by first | (simp only [own_ld, c52, c53, ↓reduceIte]; done) | (simp [own_ld, c52, c53]; done)); rw [hv] <;> rfl, N51, rfl⟩)
    ·
      refine own_d2 13 (fun _ q => XS.icmpNo X51.here hx rfl (hb hby d12_10) rfl (flt c53).1 q) ?_
      refine own_tp (.int p1) 14 (fun _ q => XS.iloadN X51.here hx rfl (hb hby d12_13) rfl q) ?_
      refine own_tp (.int (57 : Int32)) 16 (fun _ q => XS.bipush X51.here hx rfl (hb hby d12_14) q) ?_
      by_cases c54 : (57 : Int32) < p1
      ·
        refine own_d2 23 (fun _ q => XS.icmpYes X51.here hx rfl (pc0 := 16) (pc' := 23) rfl (hb hby d12_16) rfl (tlt c54).2.2.1 (by decide) (by decide) q) ?_
        refine own_tp (.int (0 : Int32)) 24 (fun _ q => XS.iconst X51.here hx rfl (hb hby d12_23) q) ?_
        exact own_retN (t := .boolean) X51 hx hrt (hb hby d12_24) (by simp) hlk (by decide) (by decide) eq51 (⟨by have hv : own_ld p1 = (0 : Int32) := (by first | (simp only [own_ld, c52, c53, c54, ↓reduceIte]; done) | (simp [own_ld, c52, c53, c54]; done)); rw [hv] <;> rfl, N51, rfl⟩)
      ·
        refine own_d2 19 (fun _ q => XS.icmpNo X51.here hx rfl (hb hby d12_16) rfl (flt c54).2.2.1 q) ?_
        refine own_tp (.int (1 : Int32)) 20 (fun _ q => XS.iconst X51.here hx rfl (hb hby d12_19) q) ?_
        refine own_d0 24 (fun _ q => XS.goto X51.here hx rfl (pc0 := 20) (pc' := 24) rfl (hb hby d12_20) (by decide) (by decide) q) ?_
        exact own_retN (t := .boolean) X51 hx hrt (hb hby d12_24) (by simp) hlk (by decide) (by decide) eq51 (⟨by have hv : own_ld p1 = (1 : Int32) := (by first | (simp only [own_ld, c52, c53, c54, ↓reduceIte]; done) | (simp [own_ld, c52, c53, c54]; done)); rw [hv] <;> rfl, N51, rfl⟩)
  ·
    refine own_d1 19 (fun _ q => XS.ifYes X51.here hx rfl (pc0 := 4) (pc' := 19) rfl (hb hby d12_4) rfl ((if0 _ _).trans (feq c52).2) (by decide) (by decide) q) ?_
    refine own_tp (.int (1 : Int32)) 20 (fun _ q => XS.iconst X51.here hx rfl (hb hby d12_19) q) ?_
    refine own_d0 24 (fun _ q => XS.goto X51.here hx rfl (pc0 := 20) (pc' := 24) rfl (hb hby d12_20) (by decide) (by decide) q) ?_
    exact own_retN (t := .boolean) X51 hx hrt (hb hby d12_24) (by simp) hlk (by decide) (by decide) eq51 (⟨by have hv : own_ld p1 = (1 : Int32) := (by first | (simp only [own_ld, c52, ↓reduceIte]; done) | (simp [own_ld, c52]; done)); rw [hv] <;> rfl, N51, rfl⟩)

def Q13 (p1 : Int32) (n0 : Nat) (v : Option Value) (h : Heap) (L : List Loc) : Prop := v = some (.int (own_loc p1)) ∧ Fr n0 L

theorem d13_0 : decode prog_10_method_3_code 0 = .ok (.iload_n 0, 1) := by decide +kernel
theorem d13_1 : decode prog_10_method_3_code 1 = .ok (.invokestatic 68, 3) := by decide +kernel
theorem d13_4 : decode prog_10_method_3_code 4 = .ok (.ifCond .ne 12, 3) := by decide +kernel
theorem d13_7 : decode prog_10_method_3_code 7 = .ok (.ldc 72, 2) := by decide +kernel
theorem d13_9 : decode prog_10_method_3_code 9 = .ok (.iload_n 0, 1) := by decide +kernel
theorem d13_10 : decode prog_10_method_3_code 10 = .ok (.invokevirtual 13, 3) := by decide +kernel
theorem d13_13 : decode prog_10_method_3_code 13 = .ok (.ifCond .lt 7, 3) := by decide +kernel
theorem d13_16 : decode prog_10_method_3_code 16 = .ok (.iconst 1, 1) := by decide +kernel
theorem d13_17 : decode prog_10_method_3_code 17 = .ok (.goto 4, 3) := by decide +kernel
theorem d13_20 : decode prog_10_method_3_code 20 = .ok (.iconst 0, 1) := by decide +kernel
theorem d13_21 : decode prog_10_method_3_code 21 = .ok (.ireturn, 1) := by decide +kernel
theorem pn13 : plainName "com/example/cited_experts/citedexperts/EmailAddress" = true := by first | (simp [plainName, overriddenIn]; done) | decide +kernel
theorem pd13_0 : parseMethodDescriptor "(I)Z" = some ⟨[.int], some .boolean⟩ := by decide +kernel
theorem pd13_1 : parseMethodDescriptor "(I)I" = some ⟨[.int], some .int⟩ := by decide +kernel
theorem ef13 (m : MethodId) (x0 : Int32) : entryFrame m #[(.int x0)] 1 = mkF m 0 #[.val (.int x0)] [] := by first | (simp [entryFrame, mkF, argsToLocals, Value.category]; done) | rfl
set_option maxRecDepth 65536 in
set_option maxHeartbeats 40000000 in
theorem rm13 (l : Launch) (Z : State) (a0 : Array Value) (hw : ∀ d ∈ tables_1, d.before a0 Z = true) (ws : List Jvm.Cond) (p1 : Int32) (h0 : Heap) (n0 : Nat) (hE : EW Z a0 own_EL) (G1 : Int32) (P5 : ¬ G1 = (0 : Int32)) (O0 : Old Z n0 h0) (Sc : Sta Z Z.heap "java/lang/String" "COMPACT_STRINGS" "Z" (.int G1)) :
    own_MetW own_EL l (⟨"com/example/cited_experts/citedexperts/EmailAddress", "isLocalChar", "(I)Z"⟩ : MethodName) prog_10_method_3_code 1 (some .boolean) ws ({ frames := 4, cells := 2, slots := 24, locals := 74 } : Room) Z #[(.int p1)] h0 (Q13 p1 n0) := by
  refine own_enterW #[.val (.int p1)] (plainFor_of_name pn13) (fun m => ef13 m p1) hE ?_
  intro p e s m below meth c s₁ hx hby hml hown hnm hZ hrt hlk X0 e0 Wd0
  have N0 := Fr.nil n0
  have wS := own_wS hw
  refine own_tp (.int p1) 1 (fun _ q => XS.iloadN X0.here hx rfl (hb hby d13_0) rfl q) ?_
  obtain ⟨_, _, ⟨T51, L51, k51, n51⟩, -, X51, ⟨Lc51, hQ51, l51, y51, z51⟩, st51⟩ := Jvm.LawKit.callS X0 hx (y := (⟨"com/example/cited_experts/citedexperts/EmailAddress", "isAsciiLetterOrDigit", "(I)Z"⟩ : MethodName)) hown (mvT hZ (hw _ (List.mem_of_getElem? (i := 5) rfl))) (mvT hZ (hw _ (List.mem_of_getElem? (i := 6) rfl))) (mvT hZ (hw _ (List.mem_of_getElem? (i := 3) rfl))) (mvT hZ (hw _ (List.mem_of_getElem? (i := 7) rfl))) (by decide) (backOf (W := 0) (rm12 l Z a0 hw [] p1 h0 n0 ) hZ (hw _ (List.mem_of_getElem? (i := 7) rfl)) (hw _ (List.mem_of_getElem? (i := 3) rfl)) (by decide) (by decide)) (g := (mkF m 1 #[.val (.int p1)] [(.int p1)])) rfl (by rw [hml]; rfl) (argsL := [(.int p1)]) (rest := []) (lenOf pd13_0 rfl) rfl (by show 2 * 0 + _ ≤ _; exact Nat.le_of_eq rfl) (hb hby d13_1) (fun _ _ => ⟨rfl, e0, (by decide : 0 + 0 ≤ _), (by decide : 0 + 0 ≤ _)⟩)
  dsimp only [Pt.U, Pt.locs, Pt.cells, Pt.slots] at X51 l51 y51 z51 st51 hQ51
  subst l51 y51 z51
  obtain ⟨rfl, Nq51, eq51⟩ := hQ51
  have N51 := Fr.app N0 Nq51
  refine own_t1 (.int (own_ld p1)) 4 st51 ?_
  by_cases c52 : (own_ld p1) = (0 : Int32)
  ·
    refine own_d1 7 (fun _ q => XS.ifNo X51.here hx rfl (hb hby d13_4) rfl ((if0 _ _).trans (teq c52).2) q) ?_
    obtain ⟨b53, T53, h53, bb53, kk53, X53, e53, E53, Wd53, ho53, A53, Cd53, Vl53, V53, Ch53, Sf53, st53⟩ := own_ldc X51 hx Wd0 hown (hw _ (List.mem_of_getElem? (i := 11) rfl)) wS eq51 (by simp [own_EL]) (vs := [(.int (46 : Int32)), (.int (37 : Int32)), (.int (95 : Int32)), (.int (43 : Int32)), (.int (45 : Int32))]) (z := (5 : Int32)) ⟨by decide, by decide⟩ (by decide) rfl (g := (mkF m 7 #[.val (.int p1)] [])) rfl (hb hby d13_7) (n := 20) (by decide) (by decide) (by decide) (by decide)
    have hZ53 : Z.Warmed39 (s.setVm T53.vm).vm := Wd53.hZ
    have hown53 : (s.setVm T53.vm).vm.findClass "com/example/cited_experts/citedexperts/EmailAddress" = some m.cls := ho53
    have O53 := Old.ext O0 E53
    refine own_tp (.ref b53) 9 st53 ?_
    refine own_tp (.int p1) 10 (fun _ q => XS.iloadN X53.here hx rfl (hb hby d13_9) rfl q) ?_
    obtain ⟨cq54, kq54, q54a, q54b, q54c⟩ := isOf hZ53 e53 A53
    obtain ⟨_, _, ⟨T54, L54, k54, n54⟩, -, X54, ⟨Lc54, hQ54, l54, y54, z54⟩, st54⟩ := X53.virtualBack hx (y := (⟨"java/lang/String", "indexOf", "(I)I"⟩ : MethodName)) (z := (⟨"java/lang/String", "indexOf", "(I)I"⟩ : MethodName)) hown53 (mvT hZ53 (hw _ (List.mem_of_getElem? (i := 19) rfl))) (mvT hZ53 (hw _ (List.mem_of_getElem? (i := 20) rfl))) (notFace_of_selects (args := #[]) (mvT hZ53 (hw _ (List.mem_of_getElem? (i := 22) rfl)))) (mvT hZ53 (hw _ (List.mem_of_getElem? (i := 22) rfl))) (mvT hZ53 (hw _ (List.mem_of_getElem? (i := 21) rfl))) (by decide) (backOf (W := 0) (rm10 l Z a0 hw [] b53 bb53 kk53 p1 h53 n0 G1 P5 O53 Sc A53 Cd53 Vl53 V53) hZ53 (hw _ (List.mem_of_getElem? (i := 23) rfl)) (hw _ (List.mem_of_getElem? (i := 12) rfl)) (by decide) (by decide)) q54a q54c (g := (mkF m 10 #[.val (.int p1)] [(.int p1), (.ref b53)])) rfl (by rw [hml]; rfl) (Steps.refl _) (argsL := [(.int p1)]) (rest := []) (lenOf pd13_1 rfl) rfl (by show 2 * 0 + _ ≤ _; exact Nat.le_of_eq rfl) (hb hby d13_10) (fun _ _ => ⟨rfl, e53, (by decide : 2 + 0 ≤ _), (by decide : 24 + 0 ≤ _)⟩)
    dsimp only [Pt.U, Pt.locs, Pt.cells, Pt.slots] at X54 l54 y54 z54 st54 hQ54
    subst l54 y54 z54
    obtain ⟨rfl, Nq54, eq54⟩ := hQ54
    have N54 := Fr.app N51 Nq54
    refine own_csR [(.int (own_io p1))] 13 st54 ?_
    by_cases c55 : (own_io p1) < (0 : Int32)
    ·
      refine own_d1 20 (fun _ q => XS.ifYes X54.here hx rfl (pc0 := 13) (pc' := 20) rfl (hb hby d13_13) rfl ((if0 _ _).trans (tlt c55).1) (by decide) (by decide) q) ?_
      refine own_tp (.int (0 : Int32)) 21 (fun _ q => XS.iconst X54.here hx rfl (hb hby d13_20) q) ?_
      exact own_retNW (t := .boolean) X54 hx hrt (hb hby d13_21) (by simp) hlk (by decide) (by decide) eq54 Wd53 (⟨by have hv : own_loc p1 = (0 : Int32) := (by simp [own_loc, c52, c55]); rw [hv]; rfl, N54⟩)
    ·
      refine own_d1 16 (fun _ q => XS.ifNo X54.here hx rfl (hb hby d13_13) rfl ((if0 _ _).trans (flt c55).1) q) ?_
      refine own_tp (.int (1 : Int32)) 17 (fun _ q => XS.iconst X54.here hx rfl (hb hby d13_16) q) ?_
      refine own_d0 21 (fun _ q => XS.goto X54.here hx rfl (pc0 := 17) (pc' := 21) rfl (hb hby d13_17) (by decide) (by decide) q) ?_
      exact own_retNW (t := .boolean) X54 hx hrt (hb hby d13_21) (by simp) hlk (by decide) (by decide) eq54 Wd53 (⟨by have hv : own_loc p1 = (1 : Int32) := (by simp [own_loc, c52, c55]); rw [hv]; rfl, N54⟩)
  ·
    refine own_d1 16 (fun _ q => XS.ifYes X51.here hx rfl (pc0 := 4) (pc' := 16) rfl (hb hby d13_4) rfl ((if0 _ _).trans (feq c52).2) (by decide) (by decide) q) ?_
    refine own_tp (.int (1 : Int32)) 17 (fun _ q => XS.iconst X51.here hx rfl (hb hby d13_16) q) ?_
    refine own_d0 21 (fun _ q => XS.goto X51.here hx rfl (pc0 := 17) (pc' := 21) rfl (hb hby d13_17) (by decide) (by decide) q) ?_
    exact own_retNW (t := .boolean) X51 hx hrt (hb hby d13_21) (by simp) hlk (by decide) (by decide) eq51 Wd0 (⟨by have hv : own_loc p1 = (1 : Int32) := (by simp [own_loc, c52]); rw [hv]; rfl, N51⟩)

def Q14 (p1 : Int32) (h0 : Heap) (n0 : Nat) (v : Option Value) (h : Heap) (L : List Loc) : Prop := v = some (.int (own_exp p1)) ∧ Fr n0 L ∧ h = h0

theorem d14_0 : decode method_2_code 0 = .ok (.iload_n 0, 1) := by decide +kernel
theorem d14_1 : decode method_2_code 1 = .ok (.bipush 97, 2) := by decide +kernel
theorem d14_3 : decode method_2_code 3 = .ok (.if_icmp .lt 11, 3) := by decide +kernel
theorem d14_6 : decode method_2_code 6 = .ok (.iload_n 0, 1) := by decide +kernel
theorem d14_7 : decode method_2_code 7 = .ok (.bipush 122, 2) := by decide +kernel
theorem d14_9 : decode method_2_code 9 = .ok (.if_icmp .gt 5, 3) := by decide +kernel
theorem d14_12 : decode method_2_code 12 = .ok (.iconst 1, 1) := by decide +kernel
theorem d14_13 : decode method_2_code 13 = .ok (.ireturn, 1) := by decide +kernel
theorem d14_14 : decode method_2_code 14 = .ok (.iload_n 0, 1) := by decide +kernel
theorem d14_15 : decode method_2_code 15 = .ok (.bipush 65, 2) := by decide +kernel
theorem d14_17 : decode method_2_code 17 = .ok (.if_icmp .lt 11, 3) := by decide +kernel
theorem d14_20 : decode method_2_code 20 = .ok (.iload_n 0, 1) := by decide +kernel
theorem d14_21 : decode method_2_code 21 = .ok (.bipush 90, 2) := by decide +kernel
theorem d14_23 : decode method_2_code 23 = .ok (.if_icmp .gt 5, 3) := by decide +kernel
theorem d14_26 : decode method_2_code 26 = .ok (.iconst 1, 1) := by decide +kernel
theorem d14_27 : decode method_2_code 27 = .ok (.ireturn, 1) := by decide +kernel
theorem d14_28 : decode method_2_code 28 = .ok (.iload_n 0, 1) := by decide +kernel
theorem d14_29 : decode method_2_code 29 = .ok (.bipush 48, 2) := by decide +kernel
theorem d14_31 : decode method_2_code 31 = .ok (.if_icmp .lt 11, 3) := by decide +kernel
theorem d14_34 : decode method_2_code 34 = .ok (.iload_n 0, 1) := by decide +kernel
theorem d14_35 : decode method_2_code 35 = .ok (.bipush 57, 2) := by decide +kernel
theorem d14_37 : decode method_2_code 37 = .ok (.if_icmp .gt 5, 3) := by decide +kernel
theorem d14_40 : decode method_2_code 40 = .ok (.iconst 1, 1) := by decide +kernel
theorem d14_41 : decode method_2_code 41 = .ok (.ireturn, 1) := by decide +kernel
theorem d14_42 : decode method_2_code 42 = .ok (.iload_n 0, 1) := by decide +kernel
theorem d14_43 : decode method_2_code 43 = .ok (.bipush 46, 2) := by decide +kernel
theorem d14_45 : decode method_2_code 45 = .ok (.if_icmp .eq 27, 3) := by decide +kernel
theorem d14_48 : decode method_2_code 48 = .ok (.iload_n 0, 1) := by decide +kernel
theorem d14_49 : decode method_2_code 49 = .ok (.bipush 95, 2) := by decide +kernel
theorem d14_51 : decode method_2_code 51 = .ok (.if_icmp .eq 21, 3) := by decide +kernel
theorem d14_54 : decode method_2_code 54 = .ok (.iload_n 0, 1) := by decide +kernel
theorem d14_55 : decode method_2_code 55 = .ok (.bipush 37, 2) := by decide +kernel
theorem d14_57 : decode method_2_code 57 = .ok (.if_icmp .eq 15, 3) := by decide +kernel
theorem d14_60 : decode method_2_code 60 = .ok (.iload_n 0, 1) := by decide +kernel
theorem d14_61 : decode method_2_code 61 = .ok (.bipush 43, 2) := by decide +kernel
theorem d14_63 : decode method_2_code 63 = .ok (.if_icmp .eq 9, 3) := by decide +kernel
theorem d14_66 : decode method_2_code 66 = .ok (.iload_n 0, 1) := by decide +kernel
theorem d14_67 : decode method_2_code 67 = .ok (.bipush 45, 2) := by decide +kernel
theorem d14_69 : decode method_2_code 69 = .ok (.if_icmp .ne 5, 3) := by decide +kernel
theorem d14_72 : decode method_2_code 72 = .ok (.iconst 1, 1) := by decide +kernel
theorem d14_73 : decode method_2_code 73 = .ok (.ireturn, 1) := by decide +kernel
theorem d14_74 : decode method_2_code 74 = .ok (.iconst 0, 1) := by decide +kernel
theorem d14_75 : decode method_2_code 75 = .ok (.ireturn, 1) := by decide +kernel
theorem pn14 : plainName "com/example/cited_experts/citedexperts/EmailAddressIsLocalCharPinLaw" = true := by first | (simp [plainName, overriddenIn]; done) | decide +kernel
theorem ef14 (m : MethodId) (x0 : Int32) : entryFrame m #[(.int x0)] 1 = mkF m 0 #[.val (.int x0)] [] := by first | (simp [entryFrame, mkF, argsToLocals, Value.category]; done) | rfl
set_option maxRecDepth 65536 in
set_option maxHeartbeats 40000000 in
theorem rm14 (l : Launch) (Z : State) (a0 : Array Value) (hw : ∀ d ∈ tables_1, d.before a0 Z = true) (ws : List Jvm.Cond) (p1 : Int32) (h0 : Heap) (n0 : Nat)  :
    own_Met l (⟨"com/example/cited_experts/citedexperts/EmailAddressIsLocalCharPinLaw", "expected", "(I)Z"⟩ : MethodName) method_2_code 1 (some .boolean) ws ({ frames := 0, cells := 0, slots := 0, locals := 0 } : Room) Z #[(.int p1)] h0 (Q14 p1 h0 n0) := by
  refine own_enter #[.val (.int p1)] (plainFor_of_name pn14) (fun m => ef14 m p1) ?_
  intro p e s m below meth c s₁ hx hby hml hown hnm hZ hrt hlk X0 e0
  have N0 := Fr.nil n0
  refine own_tp (.int p1) 1 (fun _ q => XS.iloadN X0.here hx rfl (hb hby d14_0) rfl q) ?_
  refine own_tp (.int (97 : Int32)) 3 (fun _ q => XS.bipush X0.here hx rfl (hb hby d14_1) q) ?_
  by_cases c51 : p1 < (97 : Int32)
  ·
    refine own_d2 14 (fun _ q => XS.icmpYes X0.here hx rfl (pc0 := 3) (pc' := 14) rfl (hb hby d14_3) rfl (tlt c51).1 (by decide) (by decide) q) ?_
    refine own_tp (.int p1) 15 (fun _ q => XS.iloadN X0.here hx rfl (hb hby d14_14) rfl q) ?_
    refine own_tp (.int (65 : Int32)) 17 (fun _ q => XS.bipush X0.here hx rfl (hb hby d14_15) q) ?_
    by_cases c52 : p1 < (65 : Int32)
    ·
      refine own_d2 28 (fun _ q => XS.icmpYes X0.here hx rfl (pc0 := 17) (pc' := 28) rfl (hb hby d14_17) rfl (tlt c52).1 (by decide) (by decide) q) ?_
      refine own_tp (.int p1) 29 (fun _ q => XS.iloadN X0.here hx rfl (hb hby d14_28) rfl q) ?_
      refine own_tp (.int (48 : Int32)) 31 (fun _ q => XS.bipush X0.here hx rfl (hb hby d14_29) q) ?_
      by_cases c53 : p1 < (48 : Int32)
      ·
        refine own_d2 42 (fun _ q => XS.icmpYes X0.here hx rfl (pc0 := 31) (pc' := 42) rfl (hb hby d14_31) rfl (tlt c53).1 (by decide) (by decide) q) ?_
        refine own_tp (.int p1) 43 (fun _ q => XS.iloadN X0.here hx rfl (hb hby d14_42) rfl q) ?_
        refine own_tp (.int (46 : Int32)) 45 (fun _ q => XS.bipush X0.here hx rfl (hb hby d14_43) q) ?_
        by_cases c54 : p1 = (46 : Int32)
        ·
          refine own_d2 72 (fun _ q => XS.icmpYes X0.here hx rfl (pc0 := 45) (pc' := 72) rfl (hb hby d14_45) rfl (teq c54).1 (by decide) (by decide) q) ?_
          refine own_tp (.int (1 : Int32)) 73 (fun _ q => XS.iconst X0.here hx rfl (hb hby d14_72) q) ?_
          exact own_retN (t := .boolean) X0 hx hrt (hb hby d14_73) (by simp) hlk (by decide) (by decide) e0 (⟨by have hv : own_exp p1 = (1 : Int32) := (by first | (simp only [own_exp, c51, c52, c53, c54, ↓reduceIte]; done) | (simp [own_exp, own_e2, own_e3, c51, c52, c53, c54]; done)); rw [hv] <;> rfl, N0, rfl⟩)
        ·
          refine own_d2 48 (fun _ q => XS.icmpNo X0.here hx rfl (hb hby d14_45) rfl (feq c54).1 q) ?_
          refine own_tp (.int p1) 49 (fun _ q => XS.iloadN X0.here hx rfl (hb hby d14_48) rfl q) ?_
          refine own_tp (.int (95 : Int32)) 51 (fun _ q => XS.bipush X0.here hx rfl (hb hby d14_49) q) ?_
          by_cases c55 : p1 = (95 : Int32)
          ·
            refine own_d2 72 (fun _ q => XS.icmpYes X0.here hx rfl (pc0 := 51) (pc' := 72) rfl (hb hby d14_51) rfl (teq c55).1 (by decide) (by decide) q) ?_
            refine own_tp (.int (1 : Int32)) 73 (fun _ q => XS.iconst X0.here hx rfl (hb hby d14_72) q) ?_
            exact own_retN (t := .boolean) X0 hx hrt (hb hby d14_73) (by simp) hlk (by decide) (by decide) e0 (⟨by have hv : own_exp p1 = (1 : Int32) := (by first | (simp only [own_exp, c51, c52, c53, c54, c55, ↓reduceIte]; done) | (simp [own_exp, own_e2, own_e3, c51, c52, c53, c54, c55]; done)); rw [hv] <;> rfl, N0, rfl⟩)
          ·
            refine own_d2 54 (fun _ q => XS.icmpNo X0.here hx rfl (hb hby d14_51) rfl (feq c55).1 q) ?_
            refine own_tp (.int p1) 55 (fun _ q => XS.iloadN X0.here hx rfl (hb hby d14_54) rfl q) ?_
            refine own_tp (.int (37 : Int32)) 57 (fun _ q => XS.bipush X0.here hx rfl (hb hby d14_55) q) ?_
            by_cases c56 : p1 = (37 : Int32)
            ·
              refine own_d2 72 (fun _ q => XS.icmpYes X0.here hx rfl (pc0 := 57) (pc' := 72) rfl (hb hby d14_57) rfl (teq c56).1 (by decide) (by decide) q) ?_
              refine own_tp (.int (1 : Int32)) 73 (fun _ q => XS.iconst X0.here hx rfl (hb hby d14_72) q) ?_
              exact own_retN (t := .boolean) X0 hx hrt (hb hby d14_73) (by simp) hlk (by decide) (by decide) e0 (⟨by have hv : own_exp p1 = (1 : Int32) := (by first | (simp only [own_exp, c51, c52, c53, c54, c55, c56, ↓reduceIte]; done) | (simp [own_exp, own_e2, own_e3, c51, c52, c53, c54, c55, c56]; done)); rw [hv] <;> rfl, N0, rfl⟩)
            ·
              refine own_d2 60 (fun _ q => XS.icmpNo X0.here hx rfl (hb hby d14_57) rfl (feq c56).1 q) ?_
              refine own_tp (.int p1) 61 (fun _ q => XS.iloadN X0.here hx rfl (hb hby d14_60) rfl q) ?_
              refine own_tp (.int (43 : Int32)) 63 (fun _ q => XS.bipush X0.here hx rfl (hb hby d14_61) q) ?_
              by_cases c57 : p1 = (43 : Int32)
              ·
                refine own_d2 72 (fun _ q => XS.icmpYes X0.here hx rfl (pc0 := 63) (pc' := 72) rfl (hb hby d14_63) rfl (teq c57).1 (by decide) (by decide) q) ?_
                refine own_tp (.int (1 : Int32)) 73 (fun _ q => XS.iconst X0.here hx rfl (hb hby d14_72) q) ?_
                exact own_retN (t := .boolean) X0 hx hrt (hb hby d14_73) (by simp) hlk (by decide) (by decide) e0 (⟨by have hv : own_exp p1 = (1 : Int32) := (by first | (simp only [own_exp, c51, c52, c53, c54, c55, c56, c57, ↓reduceIte]; done) | (simp [own_exp, own_e2, own_e3, c51, c52, c53, c54, c55, c56, c57]; done)); rw [hv] <;> rfl, N0, rfl⟩)
              ·
                refine own_d2 66 (fun _ q => XS.icmpNo X0.here hx rfl (hb hby d14_63) rfl (feq c57).1 q) ?_
                refine own_tp (.int p1) 67 (fun _ q => XS.iloadN X0.here hx rfl (hb hby d14_66) rfl q) ?_
                refine own_tp (.int (45 : Int32)) 69 (fun _ q => XS.bipush X0.here hx rfl (hb hby d14_67) q) ?_
                by_cases c58 : p1 = (45 : Int32)
                ·
                  refine own_d2 72 (fun _ q => XS.icmpNo X0.here hx rfl (hb hby d14_69) rfl (teq c58).2 q) ?_
                  refine own_tp (.int (1 : Int32)) 73 (fun _ q => XS.iconst X0.here hx rfl (hb hby d14_72) q) ?_
                  exact own_retN (t := .boolean) X0 hx hrt (hb hby d14_73) (by simp) hlk (by decide) (by decide) e0 (⟨by have hv : own_exp p1 = (1 : Int32) := (by first | (simp only [own_exp, c51, c52, c53, c54, c55, c56, c57, c58, ↓reduceIte]; done) | (simp [own_exp, own_e2, own_e3, c51, c52, c53, c54, c55, c56, c57, c58]; done)); rw [hv] <;> rfl, N0, rfl⟩)
                ·
                  refine own_d2 74 (fun _ q => XS.icmpYes X0.here hx rfl (pc0 := 69) (pc' := 74) rfl (hb hby d14_69) rfl (feq c58).2 (by decide) (by decide) q) ?_
                  refine own_tp (.int (0 : Int32)) 75 (fun _ q => XS.iconst X0.here hx rfl (hb hby d14_74) q) ?_
                  exact own_retN (t := .boolean) X0 hx hrt (hb hby d14_75) (by simp) hlk (by decide) (by decide) e0 (⟨by have hv : own_exp p1 = (0 : Int32) := (by first | (simp only [own_exp, c51, c52, c53, c54, c55, c56, c57, c58, ↓reduceIte]; done) | (simp [own_exp, own_e2, own_e3, c51, c52, c53, c54, c55, c56, c57, c58]; done)); rw [hv] <;> rfl, N0, rfl⟩)
      ·
        refine own_d2 34 (fun _ q => XS.icmpNo X0.here hx rfl (hb hby d14_31) rfl (flt c53).1 q) ?_
        refine own_tp (.int p1) 35 (fun _ q => XS.iloadN X0.here hx rfl (hb hby d14_34) rfl q) ?_
        refine own_tp (.int (57 : Int32)) 37 (fun _ q => XS.bipush X0.here hx rfl (hb hby d14_35) q) ?_
        by_cases c59 : (57 : Int32) < p1
        ·
          refine own_d2 42 (fun _ q => XS.icmpYes X0.here hx rfl (pc0 := 37) (pc' := 42) rfl (hb hby d14_37) rfl (tlt c59).2.2.1 (by decide) (by decide) q) ?_
          refine own_tp (.int p1) 43 (fun _ q => XS.iloadN X0.here hx rfl (hb hby d14_42) rfl q) ?_
          refine own_tp (.int (46 : Int32)) 45 (fun _ q => XS.bipush X0.here hx rfl (hb hby d14_43) q) ?_
          by_cases c60 : p1 = (46 : Int32)
          ·
            refine own_d2 72 (fun _ q => XS.icmpYes X0.here hx rfl (pc0 := 45) (pc' := 72) rfl (hb hby d14_45) rfl (teq c60).1 (by decide) (by decide) q) ?_
            refine own_tp (.int (1 : Int32)) 73 (fun _ q => XS.iconst X0.here hx rfl (hb hby d14_72) q) ?_
            exact own_retN (t := .boolean) X0 hx hrt (hb hby d14_73) (by simp) hlk (by decide) (by decide) e0 (⟨by have hv : own_exp p1 = (1 : Int32) := (by first | (simp only [own_exp, c51, c52, c53, c59, c60, ↓reduceIte]; done) | (simp [own_exp, own_e2, own_e3, c51, c52, c53, c59, c60]; done)); rw [hv] <;> rfl, N0, rfl⟩)
          ·
            refine own_d2 48 (fun _ q => XS.icmpNo X0.here hx rfl (hb hby d14_45) rfl (feq c60).1 q) ?_
            refine own_tp (.int p1) 49 (fun _ q => XS.iloadN X0.here hx rfl (hb hby d14_48) rfl q) ?_
            refine own_tp (.int (95 : Int32)) 51 (fun _ q => XS.bipush X0.here hx rfl (hb hby d14_49) q) ?_
            by_cases c61 : p1 = (95 : Int32)
            ·
              refine own_d2 72 (fun _ q => XS.icmpYes X0.here hx rfl (pc0 := 51) (pc' := 72) rfl (hb hby d14_51) rfl (teq c61).1 (by decide) (by decide) q) ?_
              refine own_tp (.int (1 : Int32)) 73 (fun _ q => XS.iconst X0.here hx rfl (hb hby d14_72) q) ?_
              exact own_retN (t := .boolean) X0 hx hrt (hb hby d14_73) (by simp) hlk (by decide) (by decide) e0 (⟨by have hv : own_exp p1 = (1 : Int32) := (by first | (simp only [own_exp, c51, c52, c53, c59, c60, c61, ↓reduceIte]; done) | (simp [own_exp, own_e2, own_e3, c51, c52, c53, c59, c60, c61]; done)); rw [hv] <;> rfl, N0, rfl⟩)
            ·
              refine own_d2 54 (fun _ q => XS.icmpNo X0.here hx rfl (hb hby d14_51) rfl (feq c61).1 q) ?_
              refine own_tp (.int p1) 55 (fun _ q => XS.iloadN X0.here hx rfl (hb hby d14_54) rfl q) ?_
              refine own_tp (.int (37 : Int32)) 57 (fun _ q => XS.bipush X0.here hx rfl (hb hby d14_55) q) ?_
              by_cases c62 : p1 = (37 : Int32)
              ·
                refine own_d2 72 (fun _ q => XS.icmpYes X0.here hx rfl (pc0 := 57) (pc' := 72) rfl (hb hby d14_57) rfl (teq c62).1 (by decide) (by decide) q) ?_
                refine own_tp (.int (1 : Int32)) 73 (fun _ q => XS.iconst X0.here hx rfl (hb hby d14_72) q) ?_
                exact own_retN (t := .boolean) X0 hx hrt (hb hby d14_73) (by simp) hlk (by decide) (by decide) e0 (⟨by have hv : own_exp p1 = (1 : Int32) := (by first | (simp only [own_exp, c51, c52, c53, c59, c60, c61, c62, ↓reduceIte]; done) | (simp [own_exp, own_e2, own_e3, c51, c52, c53, c59, c60, c61, c62]; done)); rw [hv] <;> rfl, N0, rfl⟩)
              ·
                refine own_d2 60 (fun _ q => XS.icmpNo X0.here hx rfl (hb hby d14_57) rfl (feq c62).1 q) ?_
                refine own_tp (.int p1) 61 (fun _ q => XS.iloadN X0.here hx rfl (hb hby d14_60) rfl q) ?_
                refine own_tp (.int (43 : Int32)) 63 (fun _ q => XS.bipush X0.here hx rfl (hb hby d14_61) q) ?_
                by_cases c63 : p1 = (43 : Int32)
                ·
                  refine own_d2 72 (fun _ q => XS.icmpYes X0.here hx rfl (pc0 := 63) (pc' := 72) rfl (hb hby d14_63) rfl (teq c63).1 (by decide) (by decide) q) ?_
                  refine own_tp (.int (1 : Int32)) 73 (fun _ q => XS.iconst X0.here hx rfl (hb hby d14_72) q) ?_
                  exact own_retN (t := .boolean) X0 hx hrt (hb hby d14_73) (by simp) hlk (by decide) (by decide) e0 (⟨by have hv : own_exp p1 = (1 : Int32) := (by first | (simp only [own_exp, c51, c52, c53, c59, c60, c61, c62, c63, ↓reduceIte]; done) | (simp [own_exp, own_e2, own_e3, c51, c52, c53, c59, c60, c61, c62, c63]; done)); rw [hv] <;> rfl, N0, rfl⟩)
                ·
                  refine own_d2 66 (fun _ q => XS.icmpNo X0.here hx rfl (hb hby d14_63) rfl (feq c63).1 q) ?_
                  refine own_tp (.int p1) 67 (fun _ q => XS.iloadN X0.here hx rfl (hb hby d14_66) rfl q) ?_
                  refine own_tp (.int (45 : Int32)) 69 (fun _ q => XS.bipush X0.here hx rfl (hb hby d14_67) q) ?_
                  by_cases c64 : p1 = (45 : Int32)
                  ·
                    refine own_d2 72 (fun _ q => XS.icmpNo X0.here hx rfl (hb hby d14_69) rfl (teq c64).2 q) ?_
                    refine own_tp (.int (1 : Int32)) 73 (fun _ q => XS.iconst X0.here hx rfl (hb hby d14_72) q) ?_
                    exact own_retN (t := .boolean) X0 hx hrt (hb hby d14_73) (by simp) hlk (by decide) (by decide) e0 (⟨by have hv : own_exp p1 = (1 : Int32) := (by first | (simp only [own_exp, c51, c52, c53, c59, c60, c61, c62, c63, c64, ↓reduceIte]; done) | (simp [own_exp, own_e2, own_e3, c51, c52, c53, c59, c60, c61, c62, c63, c64]; done)); rw [hv] <;> rfl, N0, rfl⟩)
                  ·
                    refine own_d2 74 (fun _ q => XS.icmpYes X0.here hx rfl (pc0 := 69) (pc' := 74) rfl (hb hby d14_69) rfl (feq c64).2 (by decide) (by decide) q) ?_
                    refine own_tp (.int (0 : Int32)) 75 (fun _ q => XS.iconst X0.here hx rfl (hb hby d14_74) q) ?_
                    exact own_retN (t := .boolean) X0 hx hrt (hb hby d14_75) (by simp) hlk (by decide) (by decide) e0 (⟨by have hv : own_exp p1 = (0 : Int32) := (by first | (simp only [own_exp, c51, c52, c53, c59, c60, c61, c62, c63, c64, ↓reduceIte]; done) | (simp [own_exp, own_e2, own_e3, c51, c52, c53, c59, c60, c61, c62, c63, c64]; done)); rw [hv] <;> rfl, N0, rfl⟩)
        ·
          refine own_d2 40 (fun _ q => XS.icmpNo X0.here hx rfl (hb hby d14_37) rfl (flt c59).2.2.1 q) ?_
          refine own_tp (.int (1 : Int32)) 41 (fun _ q => XS.iconst X0.here hx rfl (hb hby d14_40) q) ?_
          exact own_retN (t := .boolean) X0 hx hrt (hb hby d14_41) (by simp) hlk (by decide) (by decide) e0 (⟨by have hv : own_exp p1 = (1 : Int32) := (by first | (simp only [own_exp, c51, c52, c53, c59, ↓reduceIte]; done) | (simp [own_exp, own_e2, own_e3, c51, c52, c53, c59]; done)); rw [hv] <;> rfl, N0, rfl⟩)
    ·
      refine own_d2 20 (fun _ q => XS.icmpNo X0.here hx rfl (hb hby d14_17) rfl (flt c52).1 q) ?_
      refine own_tp (.int p1) 21 (fun _ q => XS.iloadN X0.here hx rfl (hb hby d14_20) rfl q) ?_
      refine own_tp (.int (90 : Int32)) 23 (fun _ q => XS.bipush X0.here hx rfl (hb hby d14_21) q) ?_
      by_cases c65 : (90 : Int32) < p1
      ·
        refine own_d2 28 (fun _ q => XS.icmpYes X0.here hx rfl (pc0 := 23) (pc' := 28) rfl (hb hby d14_23) rfl (tlt c65).2.2.1 (by decide) (by decide) q) ?_
        refine own_tp (.int p1) 29 (fun _ q => XS.iloadN X0.here hx rfl (hb hby d14_28) rfl q) ?_
        refine own_tp (.int (48 : Int32)) 31 (fun _ q => XS.bipush X0.here hx rfl (hb hby d14_29) q) ?_
        by_cases c66 : p1 < (48 : Int32)
        ·
          refine own_d2 42 (fun _ q => XS.icmpYes X0.here hx rfl (pc0 := 31) (pc' := 42) rfl (hb hby d14_31) rfl (tlt c66).1 (by decide) (by decide) q) ?_
          refine own_tp (.int p1) 43 (fun _ q => XS.iloadN X0.here hx rfl (hb hby d14_42) rfl q) ?_
          refine own_tp (.int (46 : Int32)) 45 (fun _ q => XS.bipush X0.here hx rfl (hb hby d14_43) q) ?_
          by_cases c67 : p1 = (46 : Int32)
          ·
            refine own_d2 72 (fun _ q => XS.icmpYes X0.here hx rfl (pc0 := 45) (pc' := 72) rfl (hb hby d14_45) rfl (teq c67).1 (by decide) (by decide) q) ?_
            refine own_tp (.int (1 : Int32)) 73 (fun _ q => XS.iconst X0.here hx rfl (hb hby d14_72) q) ?_
            exact own_retN (t := .boolean) X0 hx hrt (hb hby d14_73) (by simp) hlk (by decide) (by decide) e0 (⟨by have hv : own_exp p1 = (1 : Int32) := (by first | (simp only [own_exp, c51, c52, c65, c66, c67, ↓reduceIte]; done) | (simp [own_exp, own_e2, own_e3, c51, c52, c65, c66, c67]; done)); rw [hv] <;> rfl, N0, rfl⟩)
          ·
            refine own_d2 48 (fun _ q => XS.icmpNo X0.here hx rfl (hb hby d14_45) rfl (feq c67).1 q) ?_
            refine own_tp (.int p1) 49 (fun _ q => XS.iloadN X0.here hx rfl (hb hby d14_48) rfl q) ?_
            refine own_tp (.int (95 : Int32)) 51 (fun _ q => XS.bipush X0.here hx rfl (hb hby d14_49) q) ?_
            by_cases c68 : p1 = (95 : Int32)
            ·
              refine own_d2 72 (fun _ q => XS.icmpYes X0.here hx rfl (pc0 := 51) (pc' := 72) rfl (hb hby d14_51) rfl (teq c68).1 (by decide) (by decide) q) ?_
              refine own_tp (.int (1 : Int32)) 73 (fun _ q => XS.iconst X0.here hx rfl (hb hby d14_72) q) ?_
              exact own_retN (t := .boolean) X0 hx hrt (hb hby d14_73) (by simp) hlk (by decide) (by decide) e0 (⟨by have hv : own_exp p1 = (1 : Int32) := (by first | (simp only [own_exp, c51, c52, c65, c66, c67, c68, ↓reduceIte]; done) | (simp [own_exp, own_e2, own_e3, c51, c52, c65, c66, c67, c68]; done)); rw [hv] <;> rfl, N0, rfl⟩)
            ·
              refine own_d2 54 (fun _ q => XS.icmpNo X0.here hx rfl (hb hby d14_51) rfl (feq c68).1 q) ?_
              refine own_tp (.int p1) 55 (fun _ q => XS.iloadN X0.here hx rfl (hb hby d14_54) rfl q) ?_
              refine own_tp (.int (37 : Int32)) 57 (fun _ q => XS.bipush X0.here hx rfl (hb hby d14_55) q) ?_
              by_cases c69 : p1 = (37 : Int32)
              ·
                refine own_d2 72 (fun _ q => XS.icmpYes X0.here hx rfl (pc0 := 57) (pc' := 72) rfl (hb hby d14_57) rfl (teq c69).1 (by decide) (by decide) q) ?_
                refine own_tp (.int (1 : Int32)) 73 (fun _ q => XS.iconst X0.here hx rfl (hb hby d14_72) q) ?_
                exact own_retN (t := .boolean) X0 hx hrt (hb hby d14_73) (by simp) hlk (by decide) (by decide) e0 (⟨by have hv : own_exp p1 = (1 : Int32) := (by first | (simp only [own_exp, c51, c52, c65, c66, c67, c68, c69, ↓reduceIte]; done) | (simp [own_exp, own_e2, own_e3, c51, c52, c65, c66, c67, c68, c69]; done)); rw [hv] <;> rfl, N0, rfl⟩)
              ·
                refine own_d2 60 (fun _ q => XS.icmpNo X0.here hx rfl (hb hby d14_57) rfl (feq c69).1 q) ?_
                refine own_tp (.int p1) 61 (fun _ q => XS.iloadN X0.here hx rfl (hb hby d14_60) rfl q) ?_
                refine own_tp (.int (43 : Int32)) 63 (fun _ q => XS.bipush X0.here hx rfl (hb hby d14_61) q) ?_
                by_cases c70 : p1 = (43 : Int32)
                ·
                  refine own_d2 72 (fun _ q => XS.icmpYes X0.here hx rfl (pc0 := 63) (pc' := 72) rfl (hb hby d14_63) rfl (teq c70).1 (by decide) (by decide) q) ?_
                  refine own_tp (.int (1 : Int32)) 73 (fun _ q => XS.iconst X0.here hx rfl (hb hby d14_72) q) ?_
                  exact own_retN (t := .boolean) X0 hx hrt (hb hby d14_73) (by simp) hlk (by decide) (by decide) e0 (⟨by have hv : own_exp p1 = (1 : Int32) := (by first | (simp only [own_exp, c51, c52, c65, c66, c67, c68, c69, c70, ↓reduceIte]; done) | (simp [own_exp, own_e2, own_e3, c51, c52, c65, c66, c67, c68, c69, c70]; done)); rw [hv] <;> rfl, N0, rfl⟩)
                ·
                  refine own_d2 66 (fun _ q => XS.icmpNo X0.here hx rfl (hb hby d14_63) rfl (feq c70).1 q) ?_
                  refine own_tp (.int p1) 67 (fun _ q => XS.iloadN X0.here hx rfl (hb hby d14_66) rfl q) ?_
                  refine own_tp (.int (45 : Int32)) 69 (fun _ q => XS.bipush X0.here hx rfl (hb hby d14_67) q) ?_
                  by_cases c71 : p1 = (45 : Int32)
                  ·
                    refine own_d2 72 (fun _ q => XS.icmpNo X0.here hx rfl (hb hby d14_69) rfl (teq c71).2 q) ?_
                    refine own_tp (.int (1 : Int32)) 73 (fun _ q => XS.iconst X0.here hx rfl (hb hby d14_72) q) ?_
                    exact own_retN (t := .boolean) X0 hx hrt (hb hby d14_73) (by simp) hlk (by decide) (by decide) e0 (⟨by have hv : own_exp p1 = (1 : Int32) := (by first | (simp only [own_exp, c51, c52, c65, c66, c67, c68, c69, c70, c71, ↓reduceIte]; done) | (simp [own_exp, own_e2, own_e3, c51, c52, c65, c66, c67, c68, c69, c70, c71]; done)); rw [hv] <;> rfl, N0, rfl⟩)
                  ·
                    refine own_d2 74 (fun _ q => XS.icmpYes X0.here hx rfl (pc0 := 69) (pc' := 74) rfl (hb hby d14_69) rfl (feq c71).2 (by decide) (by decide) q) ?_
                    refine own_tp (.int (0 : Int32)) 75 (fun _ q => XS.iconst X0.here hx rfl (hb hby d14_74) q) ?_
                    exact own_retN (t := .boolean) X0 hx hrt (hb hby d14_75) (by simp) hlk (by decide) (by decide) e0 (⟨by have hv : own_exp p1 = (0 : Int32) := (by first | (simp only [own_exp, c51, c52, c65, c66, c67, c68, c69, c70, c71, ↓reduceIte]; done) | (simp [own_exp, own_e2, own_e3, c51, c52, c65, c66, c67, c68, c69, c70, c71]; done)); rw [hv] <;> rfl, N0, rfl⟩)
        ·
          refine own_d2 34 (fun _ q => XS.icmpNo X0.here hx rfl (hb hby d14_31) rfl (flt c66).1 q) ?_
          refine own_tp (.int p1) 35 (fun _ q => XS.iloadN X0.here hx rfl (hb hby d14_34) rfl q) ?_
          refine own_tp (.int (57 : Int32)) 37 (fun _ q => XS.bipush X0.here hx rfl (hb hby d14_35) q) ?_
          by_cases c72 : (57 : Int32) < p1
          ·
            refine own_d2 42 (fun _ q => XS.icmpYes X0.here hx rfl (pc0 := 37) (pc' := 42) rfl (hb hby d14_37) rfl (tlt c72).2.2.1 (by decide) (by decide) q) ?_
            refine own_tp (.int p1) 43 (fun _ q => XS.iloadN X0.here hx rfl (hb hby d14_42) rfl q) ?_
            refine own_tp (.int (46 : Int32)) 45 (fun _ q => XS.bipush X0.here hx rfl (hb hby d14_43) q) ?_
            by_cases c73 : p1 = (46 : Int32)
            ·
              refine own_d2 72 (fun _ q => XS.icmpYes X0.here hx rfl (pc0 := 45) (pc' := 72) rfl (hb hby d14_45) rfl (teq c73).1 (by decide) (by decide) q) ?_
              refine own_tp (.int (1 : Int32)) 73 (fun _ q => XS.iconst X0.here hx rfl (hb hby d14_72) q) ?_
              exact own_retN (t := .boolean) X0 hx hrt (hb hby d14_73) (by simp) hlk (by decide) (by decide) e0 (⟨by have hv : own_exp p1 = (1 : Int32) := (by first | (simp only [own_exp, c51, c52, c65, c66, c72, c73, ↓reduceIte]; done) | (simp [own_exp, own_e2, own_e3, c51, c52, c65, c66, c72, c73]; done)); rw [hv] <;> rfl, N0, rfl⟩)
            ·
              refine own_d2 48 (fun _ q => XS.icmpNo X0.here hx rfl (hb hby d14_45) rfl (feq c73).1 q) ?_
              refine own_tp (.int p1) 49 (fun _ q => XS.iloadN X0.here hx rfl (hb hby d14_48) rfl q) ?_
              refine own_tp (.int (95 : Int32)) 51 (fun _ q => XS.bipush X0.here hx rfl (hb hby d14_49) q) ?_
              by_cases c74 : p1 = (95 : Int32)
              ·
                refine own_d2 72 (fun _ q => XS.icmpYes X0.here hx rfl (pc0 := 51) (pc' := 72) rfl (hb hby d14_51) rfl (teq c74).1 (by decide) (by decide) q) ?_
                refine own_tp (.int (1 : Int32)) 73 (fun _ q => XS.iconst X0.here hx rfl (hb hby d14_72) q) ?_
                exact own_retN (t := .boolean) X0 hx hrt (hb hby d14_73) (by simp) hlk (by decide) (by decide) e0 (⟨by have hv : own_exp p1 = (1 : Int32) := (by first | (simp only [own_exp, c51, c52, c65, c66, c72, c73, c74, ↓reduceIte]; done) | (simp [own_exp, own_e2, own_e3, c51, c52, c65, c66, c72, c73, c74]; done)); rw [hv] <;> rfl, N0, rfl⟩)
              ·
                refine own_d2 54 (fun _ q => XS.icmpNo X0.here hx rfl (hb hby d14_51) rfl (feq c74).1 q) ?_
                refine own_tp (.int p1) 55 (fun _ q => XS.iloadN X0.here hx rfl (hb hby d14_54) rfl q) ?_
                refine own_tp (.int (37 : Int32)) 57 (fun _ q => XS.bipush X0.here hx rfl (hb hby d14_55) q) ?_
                by_cases c75 : p1 = (37 : Int32)
                ·
                  refine own_d2 72 (fun _ q => XS.icmpYes X0.here hx rfl (pc0 := 57) (pc' := 72) rfl (hb hby d14_57) rfl (teq c75).1 (by decide) (by decide) q) ?_
                  refine own_tp (.int (1 : Int32)) 73 (fun _ q => XS.iconst X0.here hx rfl (hb hby d14_72) q) ?_
                  exact own_retN (t := .boolean) X0 hx hrt (hb hby d14_73) (by simp) hlk (by decide) (by decide) e0 (⟨by have hv : own_exp p1 = (1 : Int32) := (by first | (simp only [own_exp, c51, c52, c65, c66, c72, c73, c74, c75, ↓reduceIte]; done) | (simp [own_exp, own_e2, own_e3, c51, c52, c65, c66, c72, c73, c74, c75]; done)); rw [hv] <;> rfl, N0, rfl⟩)
                ·
                  refine own_d2 60 (fun _ q => XS.icmpNo X0.here hx rfl (hb hby d14_57) rfl (feq c75).1 q) ?_
                  refine own_tp (.int p1) 61 (fun _ q => XS.iloadN X0.here hx rfl (hb hby d14_60) rfl q) ?_
                  refine own_tp (.int (43 : Int32)) 63 (fun _ q => XS.bipush X0.here hx rfl (hb hby d14_61) q) ?_
                  by_cases c76 : p1 = (43 : Int32)
                  ·
                    refine own_d2 72 (fun _ q => XS.icmpYes X0.here hx rfl (pc0 := 63) (pc' := 72) rfl (hb hby d14_63) rfl (teq c76).1 (by decide) (by decide) q) ?_
                    refine own_tp (.int (1 : Int32)) 73 (fun _ q => XS.iconst X0.here hx rfl (hb hby d14_72) q) ?_
                    exact own_retN (t := .boolean) X0 hx hrt (hb hby d14_73) (by simp) hlk (by decide) (by decide) e0 (⟨by have hv : own_exp p1 = (1 : Int32) := (by first | (simp only [own_exp, c51, c52, c65, c66, c72, c73, c74, c75, c76, ↓reduceIte]; done) | (simp [own_exp, own_e2, own_e3, c51, c52, c65, c66, c72, c73, c74, c75, c76]; done)); rw [hv] <;> rfl, N0, rfl⟩)
                  ·
                    refine own_d2 66 (fun _ q => XS.icmpNo X0.here hx rfl (hb hby d14_63) rfl (feq c76).1 q) ?_
                    refine own_tp (.int p1) 67 (fun _ q => XS.iloadN X0.here hx rfl (hb hby d14_66) rfl q) ?_
                    refine own_tp (.int (45 : Int32)) 69 (fun _ q => XS.bipush X0.here hx rfl (hb hby d14_67) q) ?_
                    by_cases c77 : p1 = (45 : Int32)
                    ·
                      refine own_d2 72 (fun _ q => XS.icmpNo X0.here hx rfl (hb hby d14_69) rfl (teq c77).2 q) ?_
                      refine own_tp (.int (1 : Int32)) 73 (fun _ q => XS.iconst X0.here hx rfl (hb hby d14_72) q) ?_
                      exact own_retN (t := .boolean) X0 hx hrt (hb hby d14_73) (by simp) hlk (by decide) (by decide) e0 (⟨by have hv : own_exp p1 = (1 : Int32) := (by first | (simp only [own_exp, c51, c52, c65, c66, c72, c73, c74, c75, c76, c77, ↓reduceIte]; done) | (simp [own_exp, own_e2, own_e3, c51, c52, c65, c66, c72, c73, c74, c75, c76, c77]; done)); rw [hv] <;> rfl, N0, rfl⟩)
                    ·
                      refine own_d2 74 (fun _ q => XS.icmpYes X0.here hx rfl (pc0 := 69) (pc' := 74) rfl (hb hby d14_69) rfl (feq c77).2 (by decide) (by decide) q) ?_
                      refine own_tp (.int (0 : Int32)) 75 (fun _ q => XS.iconst X0.here hx rfl (hb hby d14_74) q) ?_
                      exact own_retN (t := .boolean) X0 hx hrt (hb hby d14_75) (by simp) hlk (by decide) (by decide) e0 (⟨by have hv : own_exp p1 = (0 : Int32) := (by first | (simp only [own_exp, c51, c52, c65, c66, c72, c73, c74, c75, c76, c77, ↓reduceIte]; done) | (simp [own_exp, own_e2, own_e3, c51, c52, c65, c66, c72, c73, c74, c75, c76, c77]; done)); rw [hv] <;> rfl, N0, rfl⟩)
          ·
            refine own_d2 40 (fun _ q => XS.icmpNo X0.here hx rfl (hb hby d14_37) rfl (flt c72).2.2.1 q) ?_
            refine own_tp (.int (1 : Int32)) 41 (fun _ q => XS.iconst X0.here hx rfl (hb hby d14_40) q) ?_
            exact own_retN (t := .boolean) X0 hx hrt (hb hby d14_41) (by simp) hlk (by decide) (by decide) e0 (⟨by have hv : own_exp p1 = (1 : Int32) := (by first | (simp only [own_exp, c51, c52, c65, c66, c72, ↓reduceIte]; done) | (simp [own_exp, own_e2, own_e3, c51, c52, c65, c66, c72]; done)); rw [hv] <;> rfl, N0, rfl⟩)
      ·
        refine own_d2 26 (fun _ q => XS.icmpNo X0.here hx rfl (hb hby d14_23) rfl (flt c65).2.2.1 q) ?_
        refine own_tp (.int (1 : Int32)) 27 (fun _ q => XS.iconst X0.here hx rfl (hb hby d14_26) q) ?_
        exact own_retN (t := .boolean) X0 hx hrt (hb hby d14_27) (by simp) hlk (by decide) (by decide) e0 (⟨by have hv : own_exp p1 = (1 : Int32) := (by first | (simp only [own_exp, c51, c52, c65, ↓reduceIte]; done) | (simp [own_exp, own_e2, own_e3, c51, c52, c65]; done)); rw [hv] <;> rfl, N0, rfl⟩)
  ·
    refine own_d2 6 (fun _ q => XS.icmpNo X0.here hx rfl (hb hby d14_3) rfl (flt c51).1 q) ?_
    refine own_tp (.int p1) 7 (fun _ q => XS.iloadN X0.here hx rfl (hb hby d14_6) rfl q) ?_
    refine own_tp (.int (122 : Int32)) 9 (fun _ q => XS.bipush X0.here hx rfl (hb hby d14_7) q) ?_
    by_cases c78 : (122 : Int32) < p1
    ·
      refine own_d2 14 (fun _ q => XS.icmpYes X0.here hx rfl (pc0 := 9) (pc' := 14) rfl (hb hby d14_9) rfl (tlt c78).2.2.1 (by decide) (by decide) q) ?_
      refine own_tp (.int p1) 15 (fun _ q => XS.iloadN X0.here hx rfl (hb hby d14_14) rfl q) ?_
      refine own_tp (.int (65 : Int32)) 17 (fun _ q => XS.bipush X0.here hx rfl (hb hby d14_15) q) ?_
      by_cases c79 : p1 < (65 : Int32)
      ·
        refine own_d2 28 (fun _ q => XS.icmpYes X0.here hx rfl (pc0 := 17) (pc' := 28) rfl (hb hby d14_17) rfl (tlt c79).1 (by decide) (by decide) q) ?_
        refine own_tp (.int p1) 29 (fun _ q => XS.iloadN X0.here hx rfl (hb hby d14_28) rfl q) ?_
        refine own_tp (.int (48 : Int32)) 31 (fun _ q => XS.bipush X0.here hx rfl (hb hby d14_29) q) ?_
        by_cases c80 : p1 < (48 : Int32)
        ·
          refine own_d2 42 (fun _ q => XS.icmpYes X0.here hx rfl (pc0 := 31) (pc' := 42) rfl (hb hby d14_31) rfl (tlt c80).1 (by decide) (by decide) q) ?_
          refine own_tp (.int p1) 43 (fun _ q => XS.iloadN X0.here hx rfl (hb hby d14_42) rfl q) ?_
          refine own_tp (.int (46 : Int32)) 45 (fun _ q => XS.bipush X0.here hx rfl (hb hby d14_43) q) ?_
          by_cases c81 : p1 = (46 : Int32)
          ·
            refine own_d2 72 (fun _ q => XS.icmpYes X0.here hx rfl (pc0 := 45) (pc' := 72) rfl (hb hby d14_45) rfl (teq c81).1 (by decide) (by decide) q) ?_
            refine own_tp (.int (1 : Int32)) 73 (fun _ q => XS.iconst X0.here hx rfl (hb hby d14_72) q) ?_
            exact own_retN (t := .boolean) X0 hx hrt (hb hby d14_73) (by simp) hlk (by decide) (by decide) e0 (⟨by have hv : own_exp p1 = (1 : Int32) := (by first | (simp only [own_exp, c51, c78, c79, c80, c81, ↓reduceIte]; done) | (simp [own_exp, own_e2, own_e3, c51, c78, c79, c80, c81]; done)); rw [hv] <;> rfl, N0, rfl⟩)
          ·
            refine own_d2 48 (fun _ q => XS.icmpNo X0.here hx rfl (hb hby d14_45) rfl (feq c81).1 q) ?_
            refine own_tp (.int p1) 49 (fun _ q => XS.iloadN X0.here hx rfl (hb hby d14_48) rfl q) ?_
            refine own_tp (.int (95 : Int32)) 51 (fun _ q => XS.bipush X0.here hx rfl (hb hby d14_49) q) ?_
            by_cases c82 : p1 = (95 : Int32)
            ·
              refine own_d2 72 (fun _ q => XS.icmpYes X0.here hx rfl (pc0 := 51) (pc' := 72) rfl (hb hby d14_51) rfl (teq c82).1 (by decide) (by decide) q) ?_
              refine own_tp (.int (1 : Int32)) 73 (fun _ q => XS.iconst X0.here hx rfl (hb hby d14_72) q) ?_
              exact own_retN (t := .boolean) X0 hx hrt (hb hby d14_73) (by simp) hlk (by decide) (by decide) e0 (⟨by have hv : own_exp p1 = (1 : Int32) := (by first | (simp only [own_exp, c51, c78, c79, c80, c81, c82, ↓reduceIte]; done) | (simp [own_exp, own_e2, own_e3, c51, c78, c79, c80, c81, c82]; done)); rw [hv] <;> rfl, N0, rfl⟩)
            ·
              refine own_d2 54 (fun _ q => XS.icmpNo X0.here hx rfl (hb hby d14_51) rfl (feq c82).1 q) ?_
              refine own_tp (.int p1) 55 (fun _ q => XS.iloadN X0.here hx rfl (hb hby d14_54) rfl q) ?_
              refine own_tp (.int (37 : Int32)) 57 (fun _ q => XS.bipush X0.here hx rfl (hb hby d14_55) q) ?_
              by_cases c83 : p1 = (37 : Int32)
              ·
                refine own_d2 72 (fun _ q => XS.icmpYes X0.here hx rfl (pc0 := 57) (pc' := 72) rfl (hb hby d14_57) rfl (teq c83).1 (by decide) (by decide) q) ?_
                refine own_tp (.int (1 : Int32)) 73 (fun _ q => XS.iconst X0.here hx rfl (hb hby d14_72) q) ?_
                exact own_retN (t := .boolean) X0 hx hrt (hb hby d14_73) (by simp) hlk (by decide) (by decide) e0 (⟨by have hv : own_exp p1 = (1 : Int32) := (by first | (simp only [own_exp, c51, c78, c79, c80, c81, c82, c83, ↓reduceIte]; done) | (simp [own_exp, own_e2, own_e3, c51, c78, c79, c80, c81, c82, c83]; done)); rw [hv] <;> rfl, N0, rfl⟩)
              ·
                refine own_d2 60 (fun _ q => XS.icmpNo X0.here hx rfl (hb hby d14_57) rfl (feq c83).1 q) ?_
                refine own_tp (.int p1) 61 (fun _ q => XS.iloadN X0.here hx rfl (hb hby d14_60) rfl q) ?_
                refine own_tp (.int (43 : Int32)) 63 (fun _ q => XS.bipush X0.here hx rfl (hb hby d14_61) q) ?_
                by_cases c84 : p1 = (43 : Int32)
                ·
                  refine own_d2 72 (fun _ q => XS.icmpYes X0.here hx rfl (pc0 := 63) (pc' := 72) rfl (hb hby d14_63) rfl (teq c84).1 (by decide) (by decide) q) ?_
                  refine own_tp (.int (1 : Int32)) 73 (fun _ q => XS.iconst X0.here hx rfl (hb hby d14_72) q) ?_
                  exact own_retN (t := .boolean) X0 hx hrt (hb hby d14_73) (by simp) hlk (by decide) (by decide) e0 (⟨by have hv : own_exp p1 = (1 : Int32) := (by first | (simp only [own_exp, c51, c78, c79, c80, c81, c82, c83, c84, ↓reduceIte]; done) | (simp [own_exp, own_e2, own_e3, c51, c78, c79, c80, c81, c82, c83, c84]; done)); rw [hv] <;> rfl, N0, rfl⟩)
                ·
                  refine own_d2 66 (fun _ q => XS.icmpNo X0.here hx rfl (hb hby d14_63) rfl (feq c84).1 q) ?_
                  refine own_tp (.int p1) 67 (fun _ q => XS.iloadN X0.here hx rfl (hb hby d14_66) rfl q) ?_
                  refine own_tp (.int (45 : Int32)) 69 (fun _ q => XS.bipush X0.here hx rfl (hb hby d14_67) q) ?_
                  by_cases c85 : p1 = (45 : Int32)
                  ·
                    refine own_d2 72 (fun _ q => XS.icmpNo X0.here hx rfl (hb hby d14_69) rfl (teq c85).2 q) ?_
                    refine own_tp (.int (1 : Int32)) 73 (fun _ q => XS.iconst X0.here hx rfl (hb hby d14_72) q) ?_
                    exact own_retN (t := .boolean) X0 hx hrt (hb hby d14_73) (by simp) hlk (by decide) (by decide) e0 (⟨by have hv : own_exp p1 = (1 : Int32) := (by first | (simp only [own_exp, c51, c78, c79, c80, c81, c82, c83, c84, c85, ↓reduceIte]; done) | (simp [own_exp, own_e2, own_e3, c51, c78, c79, c80, c81, c82, c83, c84, c85]; done)); rw [hv] <;> rfl, N0, rfl⟩)
                  ·
                    refine own_d2 74 (fun _ q => XS.icmpYes X0.here hx rfl (pc0 := 69) (pc' := 74) rfl (hb hby d14_69) rfl (feq c85).2 (by decide) (by decide) q) ?_
                    refine own_tp (.int (0 : Int32)) 75 (fun _ q => XS.iconst X0.here hx rfl (hb hby d14_74) q) ?_
                    exact own_retN (t := .boolean) X0 hx hrt (hb hby d14_75) (by simp) hlk (by decide) (by decide) e0 (⟨by have hv : own_exp p1 = (0 : Int32) := (by first | (simp only [own_exp, c51, c78, c79, c80, c81, c82, c83, c84, c85, ↓reduceIte]; done) | (simp [own_exp, own_e2, own_e3, c51, c78, c79, c80, c81, c82, c83, c84, c85]; done)); rw [hv] <;> rfl, N0, rfl⟩)
        ·
          refine own_d2 34 (fun _ q => XS.icmpNo X0.here hx rfl (hb hby d14_31) rfl (flt c80).1 q) ?_
          refine own_tp (.int p1) 35 (fun _ q => XS.iloadN X0.here hx rfl (hb hby d14_34) rfl q) ?_
          refine own_tp (.int (57 : Int32)) 37 (fun _ q => XS.bipush X0.here hx rfl (hb hby d14_35) q) ?_
          by_cases c86 : (57 : Int32) < p1
          ·
            refine own_d2 42 (fun _ q => XS.icmpYes X0.here hx rfl (pc0 := 37) (pc' := 42) rfl (hb hby d14_37) rfl (tlt c86).2.2.1 (by decide) (by decide) q) ?_
            refine own_tp (.int p1) 43 (fun _ q => XS.iloadN X0.here hx rfl (hb hby d14_42) rfl q) ?_
            refine own_tp (.int (46 : Int32)) 45 (fun _ q => XS.bipush X0.here hx rfl (hb hby d14_43) q) ?_
            by_cases c87 : p1 = (46 : Int32)
            ·
              refine own_d2 72 (fun _ q => XS.icmpYes X0.here hx rfl (pc0 := 45) (pc' := 72) rfl (hb hby d14_45) rfl (teq c87).1 (by decide) (by decide) q) ?_
              refine own_tp (.int (1 : Int32)) 73 (fun _ q => XS.iconst X0.here hx rfl (hb hby d14_72) q) ?_
              exact own_retN (t := .boolean) X0 hx hrt (hb hby d14_73) (by simp) hlk (by decide) (by decide) e0 (⟨by have hv : own_exp p1 = (1 : Int32) := (by first | (simp only [own_exp, c51, c78, c79, c80, c86, c87, ↓reduceIte]; done) | (simp [own_exp, own_e2, own_e3, c51, c78, c79, c80, c86, c87]; done)); rw [hv] <;> rfl, N0, rfl⟩)
            ·
              refine own_d2 48 (fun _ q => XS.icmpNo X0.here hx rfl (hb hby d14_45) rfl (feq c87).1 q) ?_
              refine own_tp (.int p1) 49 (fun _ q => XS.iloadN X0.here hx rfl (hb hby d14_48) rfl q) ?_
              refine own_tp (.int (95 : Int32)) 51 (fun _ q => XS.bipush X0.here hx rfl (hb hby d14_49) q) ?_
              by_cases c88 : p1 = (95 : Int32)
              ·
                refine own_d2 72 (fun _ q => XS.icmpYes X0.here hx rfl (pc0 := 51) (pc' := 72) rfl (hb hby d14_51) rfl (teq c88).1 (by decide) (by decide) q) ?_
                refine own_tp (.int (1 : Int32)) 73 (fun _ q => XS.iconst X0.here hx rfl (hb hby d14_72) q) ?_
                exact own_retN (t := .boolean) X0 hx hrt (hb hby d14_73) (by simp) hlk (by decide) (by decide) e0 (⟨by have hv : own_exp p1 = (1 : Int32) := (by first | (simp only [own_exp, c51, c78, c79, c80, c86, c87, c88, ↓reduceIte]; done) | (simp [own_exp, own_e2, own_e3, c51, c78, c79, c80, c86, c87, c88]; done)); rw [hv] <;> rfl, N0, rfl⟩)
              ·
                refine own_d2 54 (fun _ q => XS.icmpNo X0.here hx rfl (hb hby d14_51) rfl (feq c88).1 q) ?_
                refine own_tp (.int p1) 55 (fun _ q => XS.iloadN X0.here hx rfl (hb hby d14_54) rfl q) ?_
                refine own_tp (.int (37 : Int32)) 57 (fun _ q => XS.bipush X0.here hx rfl (hb hby d14_55) q) ?_
                by_cases c89 : p1 = (37 : Int32)
                ·
                  refine own_d2 72 (fun _ q => XS.icmpYes X0.here hx rfl (pc0 := 57) (pc' := 72) rfl (hb hby d14_57) rfl (teq c89).1 (by decide) (by decide) q) ?_
                  refine own_tp (.int (1 : Int32)) 73 (fun _ q => XS.iconst X0.here hx rfl (hb hby d14_72) q) ?_
                  exact own_retN (t := .boolean) X0 hx hrt (hb hby d14_73) (by simp) hlk (by decide) (by decide) e0 (⟨by have hv : own_exp p1 = (1 : Int32) := (by first | (simp only [own_exp, c51, c78, c79, c80, c86, c87, c88, c89, ↓reduceIte]; done) | (simp [own_exp, own_e2, own_e3, c51, c78, c79, c80, c86, c87, c88, c89]; done)); rw [hv] <;> rfl, N0, rfl⟩)
                ·
                  refine own_d2 60 (fun _ q => XS.icmpNo X0.here hx rfl (hb hby d14_57) rfl (feq c89).1 q) ?_
                  refine own_tp (.int p1) 61 (fun _ q => XS.iloadN X0.here hx rfl (hb hby d14_60) rfl q) ?_
                  refine own_tp (.int (43 : Int32)) 63 (fun _ q => XS.bipush X0.here hx rfl (hb hby d14_61) q) ?_
                  by_cases c90 : p1 = (43 : Int32)
                  ·
                    refine own_d2 72 (fun _ q => XS.icmpYes X0.here hx rfl (pc0 := 63) (pc' := 72) rfl (hb hby d14_63) rfl (teq c90).1 (by decide) (by decide) q) ?_
                    refine own_tp (.int (1 : Int32)) 73 (fun _ q => XS.iconst X0.here hx rfl (hb hby d14_72) q) ?_
                    exact own_retN (t := .boolean) X0 hx hrt (hb hby d14_73) (by simp) hlk (by decide) (by decide) e0 (⟨by have hv : own_exp p1 = (1 : Int32) := (by first | (simp only [own_exp, c51, c78, c79, c80, c86, c87, c88, c89, c90, ↓reduceIte]; done) | (simp [own_exp, own_e2, own_e3, c51, c78, c79, c80, c86, c87, c88, c89, c90]; done)); rw [hv] <;> rfl, N0, rfl⟩)
                  ·
                    refine own_d2 66 (fun _ q => XS.icmpNo X0.here hx rfl (hb hby d14_63) rfl (feq c90).1 q) ?_
                    refine own_tp (.int p1) 67 (fun _ q => XS.iloadN X0.here hx rfl (hb hby d14_66) rfl q) ?_
                    refine own_tp (.int (45 : Int32)) 69 (fun _ q => XS.bipush X0.here hx rfl (hb hby d14_67) q) ?_
                    by_cases c91 : p1 = (45 : Int32)
                    ·
                      refine own_d2 72 (fun _ q => XS.icmpNo X0.here hx rfl (hb hby d14_69) rfl (teq c91).2 q) ?_
                      refine own_tp (.int (1 : Int32)) 73 (fun _ q => XS.iconst X0.here hx rfl (hb hby d14_72) q) ?_
                      exact own_retN (t := .boolean) X0 hx hrt (hb hby d14_73) (by simp) hlk (by decide) (by decide) e0 (⟨by have hv : own_exp p1 = (1 : Int32) := (by first | (simp only [own_exp, c51, c78, c79, c80, c86, c87, c88, c89, c90, c91, ↓reduceIte]; done) | (simp [own_exp, own_e2, own_e3, c51, c78, c79, c80, c86, c87, c88, c89, c90, c91]; done)); rw [hv] <;> rfl, N0, rfl⟩)
                    ·
                      refine own_d2 74 (fun _ q => XS.icmpYes X0.here hx rfl (pc0 := 69) (pc' := 74) rfl (hb hby d14_69) rfl (feq c91).2 (by decide) (by decide) q) ?_
                      refine own_tp (.int (0 : Int32)) 75 (fun _ q => XS.iconst X0.here hx rfl (hb hby d14_74) q) ?_
                      exact own_retN (t := .boolean) X0 hx hrt (hb hby d14_75) (by simp) hlk (by decide) (by decide) e0 (⟨by have hv : own_exp p1 = (0 : Int32) := (by first | (simp only [own_exp, c51, c78, c79, c80, c86, c87, c88, c89, c90, c91, ↓reduceIte]; done) | (simp [own_exp, own_e2, own_e3, c51, c78, c79, c80, c86, c87, c88, c89, c90, c91]; done)); rw [hv] <;> rfl, N0, rfl⟩)
          ·
            refine own_d2 40 (fun _ q => XS.icmpNo X0.here hx rfl (hb hby d14_37) rfl (flt c86).2.2.1 q) ?_
            refine own_tp (.int (1 : Int32)) 41 (fun _ q => XS.iconst X0.here hx rfl (hb hby d14_40) q) ?_
            exact own_retN (t := .boolean) X0 hx hrt (hb hby d14_41) (by simp) hlk (by decide) (by decide) e0 (⟨by have hv : own_exp p1 = (1 : Int32) := (by first | (simp only [own_exp, c51, c78, c79, c80, c86, ↓reduceIte]; done) | (simp [own_exp, own_e2, own_e3, c51, c78, c79, c80, c86]; done)); rw [hv] <;> rfl, N0, rfl⟩)
      ·
        refine own_d2 20 (fun _ q => XS.icmpNo X0.here hx rfl (hb hby d14_17) rfl (flt c79).1 q) ?_
        refine own_tp (.int p1) 21 (fun _ q => XS.iloadN X0.here hx rfl (hb hby d14_20) rfl q) ?_
        refine own_tp (.int (90 : Int32)) 23 (fun _ q => XS.bipush X0.here hx rfl (hb hby d14_21) q) ?_
        by_cases c92 : (90 : Int32) < p1
        ·
          refine own_d2 28 (fun _ q => XS.icmpYes X0.here hx rfl (pc0 := 23) (pc' := 28) rfl (hb hby d14_23) rfl (tlt c92).2.2.1 (by decide) (by decide) q) ?_
          refine own_tp (.int p1) 29 (fun _ q => XS.iloadN X0.here hx rfl (hb hby d14_28) rfl q) ?_
          refine own_tp (.int (48 : Int32)) 31 (fun _ q => XS.bipush X0.here hx rfl (hb hby d14_29) q) ?_
          by_cases c93 : p1 < (48 : Int32)
          ·
            refine own_d2 42 (fun _ q => XS.icmpYes X0.here hx rfl (pc0 := 31) (pc' := 42) rfl (hb hby d14_31) rfl (tlt c93).1 (by decide) (by decide) q) ?_
            refine own_tp (.int p1) 43 (fun _ q => XS.iloadN X0.here hx rfl (hb hby d14_42) rfl q) ?_
            refine own_tp (.int (46 : Int32)) 45 (fun _ q => XS.bipush X0.here hx rfl (hb hby d14_43) q) ?_
            by_cases c94 : p1 = (46 : Int32)
            ·
              refine own_d2 72 (fun _ q => XS.icmpYes X0.here hx rfl (pc0 := 45) (pc' := 72) rfl (hb hby d14_45) rfl (teq c94).1 (by decide) (by decide) q) ?_
              refine own_tp (.int (1 : Int32)) 73 (fun _ q => XS.iconst X0.here hx rfl (hb hby d14_72) q) ?_
              exact own_retN (t := .boolean) X0 hx hrt (hb hby d14_73) (by simp) hlk (by decide) (by decide) e0 (⟨by have hv : own_exp p1 = (1 : Int32) := (by first | (simp only [own_exp, c51, c78, c79, c92, c93, c94, ↓reduceIte]; done) | (simp [own_exp, own_e2, own_e3, c51, c78, c79, c92, c93, c94]; done)); rw [hv] <;> rfl, N0, rfl⟩)
            ·
              refine own_d2 48 (fun _ q => XS.icmpNo X0.here hx rfl (hb hby d14_45) rfl (feq c94).1 q) ?_
              refine own_tp (.int p1) 49 (fun _ q => XS.iloadN X0.here hx rfl (hb hby d14_48) rfl q) ?_
              refine own_tp (.int (95 : Int32)) 51 (fun _ q => XS.bipush X0.here hx rfl (hb hby d14_49) q) ?_
              by_cases c95 : p1 = (95 : Int32)
              ·
                refine own_d2 72 (fun _ q => XS.icmpYes X0.here hx rfl (pc0 := 51) (pc' := 72) rfl (hb hby d14_51) rfl (teq c95).1 (by decide) (by decide) q) ?_
                refine own_tp (.int (1 : Int32)) 73 (fun _ q => XS.iconst X0.here hx rfl (hb hby d14_72) q) ?_
                exact own_retN (t := .boolean) X0 hx hrt (hb hby d14_73) (by simp) hlk (by decide) (by decide) e0 (⟨by have hv : own_exp p1 = (1 : Int32) := (by first | (simp only [own_exp, c51, c78, c79, c92, c93, c94, c95, ↓reduceIte]; done) | (simp [own_exp, own_e2, own_e3, c51, c78, c79, c92, c93, c94, c95]; done)); rw [hv] <;> rfl, N0, rfl⟩)
              ·
                refine own_d2 54 (fun _ q => XS.icmpNo X0.here hx rfl (hb hby d14_51) rfl (feq c95).1 q) ?_
                refine own_tp (.int p1) 55 (fun _ q => XS.iloadN X0.here hx rfl (hb hby d14_54) rfl q) ?_
                refine own_tp (.int (37 : Int32)) 57 (fun _ q => XS.bipush X0.here hx rfl (hb hby d14_55) q) ?_
                by_cases c96 : p1 = (37 : Int32)
                ·
                  refine own_d2 72 (fun _ q => XS.icmpYes X0.here hx rfl (pc0 := 57) (pc' := 72) rfl (hb hby d14_57) rfl (teq c96).1 (by decide) (by decide) q) ?_
                  refine own_tp (.int (1 : Int32)) 73 (fun _ q => XS.iconst X0.here hx rfl (hb hby d14_72) q) ?_
                  exact own_retN (t := .boolean) X0 hx hrt (hb hby d14_73) (by simp) hlk (by decide) (by decide) e0 (⟨by have hv : own_exp p1 = (1 : Int32) := (by first | (simp only [own_exp, c51, c78, c79, c92, c93, c94, c95, c96, ↓reduceIte]; done) | (simp [own_exp, own_e2, own_e3, c51, c78, c79, c92, c93, c94, c95, c96]; done)); rw [hv] <;> rfl, N0, rfl⟩)
                ·
                  refine own_d2 60 (fun _ q => XS.icmpNo X0.here hx rfl (hb hby d14_57) rfl (feq c96).1 q) ?_
                  refine own_tp (.int p1) 61 (fun _ q => XS.iloadN X0.here hx rfl (hb hby d14_60) rfl q) ?_
                  refine own_tp (.int (43 : Int32)) 63 (fun _ q => XS.bipush X0.here hx rfl (hb hby d14_61) q) ?_
                  by_cases c97 : p1 = (43 : Int32)
                  ·
                    refine own_d2 72 (fun _ q => XS.icmpYes X0.here hx rfl (pc0 := 63) (pc' := 72) rfl (hb hby d14_63) rfl (teq c97).1 (by decide) (by decide) q) ?_
                    refine own_tp (.int (1 : Int32)) 73 (fun _ q => XS.iconst X0.here hx rfl (hb hby d14_72) q) ?_
                    exact own_retN (t := .boolean) X0 hx hrt (hb hby d14_73) (by simp) hlk (by decide) (by decide) e0 (⟨by have hv : own_exp p1 = (1 : Int32) := (by first | (simp only [own_exp, c51, c78, c79, c92, c93, c94, c95, c96, c97, ↓reduceIte]; done) | (simp [own_exp, own_e2, own_e3, c51, c78, c79, c92, c93, c94, c95, c96, c97]; done)); rw [hv] <;> rfl, N0, rfl⟩)
                  ·
                    refine own_d2 66 (fun _ q => XS.icmpNo X0.here hx rfl (hb hby d14_63) rfl (feq c97).1 q) ?_
                    refine own_tp (.int p1) 67 (fun _ q => XS.iloadN X0.here hx rfl (hb hby d14_66) rfl q) ?_
                    refine own_tp (.int (45 : Int32)) 69 (fun _ q => XS.bipush X0.here hx rfl (hb hby d14_67) q) ?_
                    by_cases c98 : p1 = (45 : Int32)
                    ·
                      refine own_d2 72 (fun _ q => XS.icmpNo X0.here hx rfl (hb hby d14_69) rfl (teq c98).2 q) ?_
                      refine own_tp (.int (1 : Int32)) 73 (fun _ q => XS.iconst X0.here hx rfl (hb hby d14_72) q) ?_
                      exact own_retN (t := .boolean) X0 hx hrt (hb hby d14_73) (by simp) hlk (by decide) (by decide) e0 (⟨by have hv : own_exp p1 = (1 : Int32) := (by first | (simp only [own_exp, c51, c78, c79, c92, c93, c94, c95, c96, c97, c98, ↓reduceIte]; done) | (simp [own_exp, own_e2, own_e3, c51, c78, c79, c92, c93, c94, c95, c96, c97, c98]; done)); rw [hv] <;> rfl, N0, rfl⟩)
                    ·
                      refine own_d2 74 (fun _ q => XS.icmpYes X0.here hx rfl (pc0 := 69) (pc' := 74) rfl (hb hby d14_69) rfl (feq c98).2 (by decide) (by decide) q) ?_
                      refine own_tp (.int (0 : Int32)) 75 (fun _ q => XS.iconst X0.here hx rfl (hb hby d14_74) q) ?_
                      exact own_retN (t := .boolean) X0 hx hrt (hb hby d14_75) (by simp) hlk (by decide) (by decide) e0 (⟨by have hv : own_exp p1 = (0 : Int32) := (by first | (simp only [own_exp, c51, c78, c79, c92, c93, c94, c95, c96, c97, c98, ↓reduceIte]; done) | (simp [own_exp, own_e2, own_e3, c51, c78, c79, c92, c93, c94, c95, c96, c97, c98]; done)); rw [hv] <;> rfl, N0, rfl⟩)
          ·
            refine own_d2 34 (fun _ q => XS.icmpNo X0.here hx rfl (hb hby d14_31) rfl (flt c93).1 q) ?_
            refine own_tp (.int p1) 35 (fun _ q => XS.iloadN X0.here hx rfl (hb hby d14_34) rfl q) ?_
            refine own_tp (.int (57 : Int32)) 37 (fun _ q => XS.bipush X0.here hx rfl (hb hby d14_35) q) ?_
            by_cases c99 : (57 : Int32) < p1
            ·
              refine own_d2 42 (fun _ q => XS.icmpYes X0.here hx rfl (pc0 := 37) (pc' := 42) rfl (hb hby d14_37) rfl (tlt c99).2.2.1 (by decide) (by decide) q) ?_
              refine own_tp (.int p1) 43 (fun _ q => XS.iloadN X0.here hx rfl (hb hby d14_42) rfl q) ?_
              refine own_tp (.int (46 : Int32)) 45 (fun _ q => XS.bipush X0.here hx rfl (hb hby d14_43) q) ?_
              by_cases c100 : p1 = (46 : Int32)
              ·
                refine own_d2 72 (fun _ q => XS.icmpYes X0.here hx rfl (pc0 := 45) (pc' := 72) rfl (hb hby d14_45) rfl (teq c100).1 (by decide) (by decide) q) ?_
                refine own_tp (.int (1 : Int32)) 73 (fun _ q => XS.iconst X0.here hx rfl (hb hby d14_72) q) ?_
                exact own_retN (t := .boolean) X0 hx hrt (hb hby d14_73) (by simp) hlk (by decide) (by decide) e0 (⟨by have hv : own_exp p1 = (1 : Int32) := (by first | (simp only [own_exp, c51, c78, c79, c92, c93, c99, c100, ↓reduceIte]; done) | (simp [own_exp, own_e2, own_e3, c51, c78, c79, c92, c93, c99, c100]; done)); rw [hv] <;> rfl, N0, rfl⟩)
              ·
                refine own_d2 48 (fun _ q => XS.icmpNo X0.here hx rfl (hb hby d14_45) rfl (feq c100).1 q) ?_
                refine own_tp (.int p1) 49 (fun _ q => XS.iloadN X0.here hx rfl (hb hby d14_48) rfl q) ?_
                refine own_tp (.int (95 : Int32)) 51 (fun _ q => XS.bipush X0.here hx rfl (hb hby d14_49) q) ?_
                by_cases c101 : p1 = (95 : Int32)
                ·
                  refine own_d2 72 (fun _ q => XS.icmpYes X0.here hx rfl (pc0 := 51) (pc' := 72) rfl (hb hby d14_51) rfl (teq c101).1 (by decide) (by decide) q) ?_
                  refine own_tp (.int (1 : Int32)) 73 (fun _ q => XS.iconst X0.here hx rfl (hb hby d14_72) q) ?_
                  exact own_retN (t := .boolean) X0 hx hrt (hb hby d14_73) (by simp) hlk (by decide) (by decide) e0 (⟨by have hv : own_exp p1 = (1 : Int32) := (by first | (simp only [own_exp, c51, c78, c79, c92, c93, c99, c100, c101, ↓reduceIte]; done) | (simp [own_exp, own_e2, own_e3, c51, c78, c79, c92, c93, c99, c100, c101]; done)); rw [hv] <;> rfl, N0, rfl⟩)
                ·
                  refine own_d2 54 (fun _ q => XS.icmpNo X0.here hx rfl (hb hby d14_51) rfl (feq c101).1 q) ?_
                  refine own_tp (.int p1) 55 (fun _ q => XS.iloadN X0.here hx rfl (hb hby d14_54) rfl q) ?_
                  refine own_tp (.int (37 : Int32)) 57 (fun _ q => XS.bipush X0.here hx rfl (hb hby d14_55) q) ?_
                  by_cases c102 : p1 = (37 : Int32)
                  ·
                    refine own_d2 72 (fun _ q => XS.icmpYes X0.here hx rfl (pc0 := 57) (pc' := 72) rfl (hb hby d14_57) rfl (teq c102).1 (by decide) (by decide) q) ?_
                    refine own_tp (.int (1 : Int32)) 73 (fun _ q => XS.iconst X0.here hx rfl (hb hby d14_72) q) ?_
                    exact own_retN (t := .boolean) X0 hx hrt (hb hby d14_73) (by simp) hlk (by decide) (by decide) e0 (⟨by have hv : own_exp p1 = (1 : Int32) := (by first | (simp only [own_exp, c51, c78, c79, c92, c93, c99, c100, c101, c102, ↓reduceIte]; done) | (simp [own_exp, own_e2, own_e3, c51, c78, c79, c92, c93, c99, c100, c101, c102]; done)); rw [hv] <;> rfl, N0, rfl⟩)
                  ·
                    refine own_d2 60 (fun _ q => XS.icmpNo X0.here hx rfl (hb hby d14_57) rfl (feq c102).1 q) ?_
                    refine own_tp (.int p1) 61 (fun _ q => XS.iloadN X0.here hx rfl (hb hby d14_60) rfl q) ?_
                    refine own_tp (.int (43 : Int32)) 63 (fun _ q => XS.bipush X0.here hx rfl (hb hby d14_61) q) ?_
                    by_cases c103 : p1 = (43 : Int32)
                    ·
                      refine own_d2 72 (fun _ q => XS.icmpYes X0.here hx rfl (pc0 := 63) (pc' := 72) rfl (hb hby d14_63) rfl (teq c103).1 (by decide) (by decide) q) ?_
                      refine own_tp (.int (1 : Int32)) 73 (fun _ q => XS.iconst X0.here hx rfl (hb hby d14_72) q) ?_
                      exact own_retN (t := .boolean) X0 hx hrt (hb hby d14_73) (by simp) hlk (by decide) (by decide) e0 (⟨by have hv : own_exp p1 = (1 : Int32) := (by first | (simp only [own_exp, c51, c78, c79, c92, c93, c99, c100, c101, c102, c103, ↓reduceIte]; done) | (simp [own_exp, own_e2, own_e3, c51, c78, c79, c92, c93, c99, c100, c101, c102, c103]; done)); rw [hv] <;> rfl, N0, rfl⟩)
                    ·
                      refine own_d2 66 (fun _ q => XS.icmpNo X0.here hx rfl (hb hby d14_63) rfl (feq c103).1 q) ?_
                      refine own_tp (.int p1) 67 (fun _ q => XS.iloadN X0.here hx rfl (hb hby d14_66) rfl q) ?_
                      refine own_tp (.int (45 : Int32)) 69 (fun _ q => XS.bipush X0.here hx rfl (hb hby d14_67) q) ?_
                      by_cases c104 : p1 = (45 : Int32)
                      ·
                        refine own_d2 72 (fun _ q => XS.icmpNo X0.here hx rfl (hb hby d14_69) rfl (teq c104).2 q) ?_
                        refine own_tp (.int (1 : Int32)) 73 (fun _ q => XS.iconst X0.here hx rfl (hb hby d14_72) q) ?_
                        exact own_retN (t := .boolean) X0 hx hrt (hb hby d14_73) (by simp) hlk (by decide) (by decide) e0 (⟨by have hv : own_exp p1 = (1 : Int32) := (by first | (simp only [own_exp, c51, c78, c79, c92, c93, c99, c100, c101, c102, c103, c104, ↓reduceIte]; done) | (simp [own_exp, own_e2, own_e3, c51, c78, c79, c92, c93, c99, c100, c101, c102, c103, c104]; done)); rw [hv] <;> rfl, N0, rfl⟩)
                      ·
                        refine own_d2 74 (fun _ q => XS.icmpYes X0.here hx rfl (pc0 := 69) (pc' := 74) rfl (hb hby d14_69) rfl (feq c104).2 (by decide) (by decide) q) ?_
                        refine own_tp (.int (0 : Int32)) 75 (fun _ q => XS.iconst X0.here hx rfl (hb hby d14_74) q) ?_
                        exact own_retN (t := .boolean) X0 hx hrt (hb hby d14_75) (by simp) hlk (by decide) (by decide) e0 (⟨by have hv : own_exp p1 = (0 : Int32) := (by first | (simp only [own_exp, c51, c78, c79, c92, c93, c99, c100, c101, c102, c103, c104, ↓reduceIte]; done) | (simp [own_exp, own_e2, own_e3, c51, c78, c79, c92, c93, c99, c100, c101, c102, c103, c104]; done)); rw [hv] <;> rfl, N0, rfl⟩)
            ·
              refine own_d2 40 (fun _ q => XS.icmpNo X0.here hx rfl (hb hby d14_37) rfl (flt c99).2.2.1 q) ?_
              refine own_tp (.int (1 : Int32)) 41 (fun _ q => XS.iconst X0.here hx rfl (hb hby d14_40) q) ?_
              exact own_retN (t := .boolean) X0 hx hrt (hb hby d14_41) (by simp) hlk (by decide) (by decide) e0 (⟨by have hv : own_exp p1 = (1 : Int32) := (by first | (simp only [own_exp, c51, c78, c79, c92, c93, c99, ↓reduceIte]; done) | (simp [own_exp, own_e2, own_e3, c51, c78, c79, c92, c93, c99]; done)); rw [hv] <;> rfl, N0, rfl⟩)
        ·
          refine own_d2 26 (fun _ q => XS.icmpNo X0.here hx rfl (hb hby d14_23) rfl (flt c92).2.2.1 q) ?_
          refine own_tp (.int (1 : Int32)) 27 (fun _ q => XS.iconst X0.here hx rfl (hb hby d14_26) q) ?_
          exact own_retN (t := .boolean) X0 hx hrt (hb hby d14_27) (by simp) hlk (by decide) (by decide) e0 (⟨by have hv : own_exp p1 = (1 : Int32) := (by first | (simp only [own_exp, c51, c78, c79, c92, ↓reduceIte]; done) | (simp [own_exp, own_e2, own_e3, c51, c78, c79, c92]; done)); rw [hv] <;> rfl, N0, rfl⟩)
    ·
      refine own_d2 12 (fun _ q => XS.icmpNo X0.here hx rfl (hb hby d14_9) rfl (flt c78).2.2.1 q) ?_
      refine own_tp (.int (1 : Int32)) 13 (fun _ q => XS.iconst X0.here hx rfl (hb hby d14_12) q) ?_
      exact own_retN (t := .boolean) X0 hx hrt (hb hby d14_13) (by simp) hlk (by decide) (by decide) e0 (⟨by have hv : own_exp p1 = (1 : Int32) := (by first | (simp only [own_exp, c51, c78, ↓reduceIte]; done) | (simp [own_exp, own_e2, own_e3, c51, c78]; done)); rw [hv] <;> rfl, N0, rfl⟩)

theorem pn0 : plainName "com/example/cited_experts/citedexperts/EmailAddressIsLocalCharPinLaw" = true := by first | (simp [plainName, overriddenIn]; done) | decide +kernel
theorem pd0_0 : parseMethodDescriptor "(I)Z" = some ⟨[.int], some .boolean⟩ := by decide +kernel
theorem ef0 (m : MethodId) (x0 : Int32) (x1 : Int32) : entryFrame m #[(.int x0), (.int x1)] maxLocals = mkF m 0 #[.val (.int x0), .val (.int x1), .unset, .unset] [] := by first | (simp [entryFrame, mkF, argsToLocals, Value.category, maxLocals]; done) | rfl
set_option maxRecDepth 65536 in
set_option maxHeartbeats 40000000 in
theorem rm0 (l : Launch) (Z : State) (a0 : Array Value) (hw : ∀ d ∈ tables_1, d.before a0 Z = true) (ws : List Jvm.Cond) (p0 p1 : Int32) (h0 : Heap) (n0 : Nat) (hE : EW Z a0 own_EL) (G1 : Int32) (P5 : ¬ G1 = (0 : Int32)) (O0 : Old Z n0 h0) (Sc : Sta Z Z.heap "java/lang/String" "COMPACT_STRINGS" "Z" (.int G1)) :
    own_MetW own_EL l x code maxLocals ret ws room_1 Z #[(.int p0), (.int p1)] h0 (Q0 h0 n0) := by
  refine own_enterW #[.val (.int p0), .val (.int p1), .unset, .unset] (plainFor_of_name pn0) (fun m => ef0 m p0 p1) hE ?_
  intro p e s m below meth c s₁ hx hby hml hown hnm hZ hrt hlk X0 e0 Wd0
  have N0 := Fr.nil n0
  have wS := own_wS hw
  refine own_tp (.int p1) 1 (fun _ q => XS.iloadN X0.here hx rfl (hb hby at_0) rfl q) ?_
  refine own_tp (.int (3 : Int32)) 2 (fun _ q => XS.iconst X0.here hx rfl (hb hby at_1) q) ?_
  refine own_t2 (.int (p1 &&& (3 : Int32))) 3 (fun _ q => XS.iand X0.here hx rfl (hb hby at_2) rfl q) ?_
  refine own_ls #[.val (.int p0), .val (.int p1), .val (.int (p1 &&& (3 : Int32))), .unset] 4 (fun _ q => XS.istoreN X0.here hx rfl (hb hby at_3) rfl (l' := #[.val (.int p0), .val (.int p1), .val (.int (p1 &&& (3 : Int32))), .unset]) rfl q) ?_
  refine own_tp (.int (p1 &&& (3 : Int32))) 5 (fun _ q => XS.iloadN X0.here hx rfl (hb hby at_4) rfl q) ?_
  by_cases c51 : (p1 &&& (3 : Int32)) = (0 : Int32)
  ·
    refine own_d1 8 (fun _ q => XS.ifNo X0.here hx rfl (hb hby at_5) rfl ((if0 _ _).trans (teq c51).2) q) ?_
    refine own_tp (.int p0) 9 (fun _ q => XS.iloadN X0.here hx rfl (hb hby at_8) rfl q) ?_
    refine own_ls #[.val (.int p0), .val (.int p1), .val (.int (p1 &&& (3 : Int32))), .val (.int p0)] 10 (fun _ q => XS.istoreN X0.here hx rfl (hb hby at_9) rfl (l' := #[.val (.int p0), .val (.int p1), .val (.int (p1 &&& (3 : Int32))), .val (.int p0)]) rfl q) ?_
    refine own_d0 45 (fun _ q => XS.goto X0.here hx rfl (pc0 := 10) (pc' := 45) rfl (hb hby at_10) (by decide) (by decide) q) ?_
    refine own_tp (.int p0) 46 (fun _ q => XS.iloadN X0.here hx rfl (hb hby at_45) rfl q) ?_
    obtain ⟨_, _, ⟨T52, L52, k52, n52⟩, -, X52, hS52, -, ⟨Lc52, hQ52, l52, y52, z52, Ch52⟩, st52⟩ := callSS X0 hx (y := (⟨"com/example/cited_experts/citedexperts/EmailAddress", "isLocalChar", "(I)Z"⟩ : MethodName)) hown (mvT hZ (hw _ (List.mem_of_getElem? (i := 1) rfl))) (mvT hZ (hw _ (List.mem_of_getElem? (i := 2) rfl))) (mvT hZ (hw _ (List.mem_of_getElem? (i := 3) rfl))) (mvT hZ (hw _ (List.mem_of_getElem? (i := 4) rfl))) (by decide) (backOfSH (W := 0) (rm13 l Z a0 hw [] p0 h0 n0 hE G1 P5 O0 Sc) hZ (hw _ (List.mem_of_getElem? (i := 4) rfl)) (hw _ (List.mem_of_getElem? (i := 3) rfl)) (by decide) (by decide) Wd0.hE Wd0.chv) (g := (mkF m 46 #[.val (.int p0), .val (.int p1), .val (.int (p1 &&& (3 : Int32))), .val (.int p0)] [(.int p0)])) rfl (by rw [hml]; rfl) (argsL := [(.int p0)]) (rest := []) (lenOf pd0_0 rfl) rfl (by show 2 * 0 + _ ≤ _; exact Nat.le_of_eq rfl) (hb hby at_46) (fun _ _ => ⟨rfl, e0, (by decide : 0 + 2 ≤ _), (by decide : 0 + 24 ≤ _)⟩)
    dsimp only [Pt.U, Pt.locs, Pt.cells, Pt.slots] at X52 l52 y52 z52 st52 hQ52 hS52 Ch52
    subst l52 y52 z52
    have Wd52 := own_Wd.call Wd0 hS52 Ch52
    have hZ52 : Z.Warmed39 (s.setVm T52.vm).vm := Wd52.hZ
    have hown52 : (s.setVm T52.vm).vm.findClass "com/example/cited_experts/citedexperts/EmailAddressIsLocalCharPinLaw" = some m.cls := own_since_own hS52 hown
    have Y52 : Stand p l e room_1 (s.setVm T52.vm) m #[(.int p0), (.int p1)] below meth c T52 _ _ _ := X52
    obtain ⟨rfl, Nq52⟩ := hQ52
    have N52 := Fr.app N0 Nq52
    refine own_csR [(.int (own_loc p0))] 49 st52 ?_
    refine own_tp (.int p0) 50 (fun _ q => XS.iloadN Y52.here hx rfl (hb hby at_49) rfl q) ?_
    obtain ⟨_, _, ⟨T53, L53, k53, n53⟩, -, X53, ⟨Lc53, hQ53, l53, y53, z53⟩, st53⟩ := Jvm.LawKit.callS Y52 hx (y := (⟨"com/example/cited_experts/citedexperts/EmailAddressIsLocalCharPinLaw", "expected", "(I)Z"⟩ : MethodName)) hown52 (mvT hZ52 (hw _ (List.mem_of_getElem? (i := 64) rfl))) (mvT hZ52 (hw _ (List.mem_of_getElem? (i := 65) rfl))) (mvT hZ52 (hw _ (List.mem_of_getElem? (i := 66) rfl))) (mvT hZ52 (hw _ (List.mem_of_getElem? (i := 67) rfl))) (by decide) (backOf (W := 1) (rm14 l Z a0 hw [] p0 T52.heap n0 ) hZ52 (hw _ (List.mem_of_getElem? (i := 67) rfl)) (hw _ (List.mem_of_getElem? (i := 66) rfl)) (by decide) (by decide)) (g := (mkF m 50 #[.val (.int p0), .val (.int p1), .val (.int (p1 &&& (3 : Int32))), .val (.int p0)] [(.int p0), (.int (own_loc p0))])) rfl (by rw [hml]; rfl) (argsL := [(.int p0)]) (rest := [(.int (own_loc p0))]) (lenOf pd0_0 rfl) rfl (by show 2 * 0 + _ ≤ _; exact Nat.le_of_eq rfl) (hb hby at_50) (fun _ _ => ⟨rfl, rfl, (by decide : 2 + 0 ≤ _), (by decide : 24 + 0 ≤ _)⟩)
    dsimp only [Pt.U, Pt.locs, Pt.cells, Pt.slots] at X53 l53 y53 z53 st53 hQ53
    subst l53 y53 z53
    obtain ⟨rfl, Nq53, eq53⟩ := hQ53
    have N53 := Fr.app N52 Nq53
    refine own_t1 (.int (own_exp p0)) 53 st53 ?_
    refine own_d2 56 (fun _ q => XS.icmpNo X53.here hx rfl (hb hby at_53) rfl (teq (own_eq _)).2 q) ?_
    refine own_tp (.int (1 : Int32)) 57 (fun _ q => XS.iconst X53.here hx rfl (hb hby at_56) q) ?_
    refine own_d0 61 (fun _ q => XS.goto X53.here hx rfl (pc0 := 57) (pc' := 61) rfl (hb hby at_57) (by decide) (by decide) q) ?_
    exact own_retNW (t := .boolean) X53 hx hrt (hb hby at_61) (by simp) hlk (by decide) (by decide) eq53 Wd52 (⟨rfl, N53⟩)
  ·
    refine own_d1 13 (fun _ q => XS.ifYes X0.here hx rfl (pc0 := 5) (pc' := 13) rfl (hb hby at_5) rfl ((if0 _ _).trans (feq c51).2) (by decide) (by decide) q) ?_
    refine own_tp (.int (p1 &&& (3 : Int32))) 14 (fun _ q => XS.iloadN X0.here hx rfl (hb hby at_13) rfl q) ?_
    refine own_tp (.int (1 : Int32)) 15 (fun _ q => XS.iconst X0.here hx rfl (hb hby at_14) q) ?_
    by_cases c54 : (p1 &&& (3 : Int32)) = (1 : Int32)
    ·
      refine own_d2 18 (fun _ q => XS.icmpNo X0.here hx rfl (hb hby at_15) rfl (teq c54).2 q) ?_
      refine own_tp (.int p0) 19 (fun _ q => XS.iloadN X0.here hx rfl (hb hby at_18) rfl q) ?_
      refine own_tp (.int (127 : Int32)) 21 (fun _ q => XS.bipush X0.here hx rfl (hb hby at_19) q) ?_
      refine own_t2 (.int (p0 &&& (127 : Int32))) 22 (fun _ q => XS.iand X0.here hx rfl (hb hby at_21) rfl q) ?_
      refine own_ls #[.val (.int p0), .val (.int p1), .val (.int (p1 &&& (3 : Int32))), .val (.int (p0 &&& (127 : Int32)))] 23 (fun _ q => XS.istoreN X0.here hx rfl (hb hby at_22) rfl (l' := #[.val (.int p0), .val (.int p1), .val (.int (p1 &&& (3 : Int32))), .val (.int (p0 &&& (127 : Int32)))]) rfl q) ?_
      refine own_d0 45 (fun _ q => XS.goto X0.here hx rfl (pc0 := 23) (pc' := 45) rfl (hb hby at_23) (by decide) (by decide) q) ?_
      refine own_tp (.int (p0 &&& (127 : Int32))) 46 (fun _ q => XS.iloadN X0.here hx rfl (hb hby at_45) rfl q) ?_
      obtain ⟨_, _, ⟨T55, L55, k55, n55⟩, -, X55, hS55, -, ⟨Lc55, hQ55, l55, y55, z55, Ch55⟩, st55⟩ := callSS X0 hx (y := (⟨"com/example/cited_experts/citedexperts/EmailAddress", "isLocalChar", "(I)Z"⟩ : MethodName)) hown (mvT hZ (hw _ (List.mem_of_getElem? (i := 1) rfl))) (mvT hZ (hw _ (List.mem_of_getElem? (i := 2) rfl))) (mvT hZ (hw _ (List.mem_of_getElem? (i := 3) rfl))) (mvT hZ (hw _ (List.mem_of_getElem? (i := 4) rfl))) (by decide) (backOfSH (W := 0) (rm13 l Z a0 hw [] (p0 &&& (127 : Int32)) h0 n0 hE G1 P5 O0 Sc) hZ (hw _ (List.mem_of_getElem? (i := 4) rfl)) (hw _ (List.mem_of_getElem? (i := 3) rfl)) (by decide) (by decide) Wd0.hE Wd0.chv) (g := (mkF m 46 #[.val (.int p0), .val (.int p1), .val (.int (p1 &&& (3 : Int32))), .val (.int (p0 &&& (127 : Int32)))] [(.int (p0 &&& (127 : Int32)))])) rfl (by rw [hml]; rfl) (argsL := [(.int (p0 &&& (127 : Int32)))]) (rest := []) (lenOf pd0_0 rfl) rfl (by show 2 * 0 + _ ≤ _; exact Nat.le_of_eq rfl) (hb hby at_46) (fun _ _ => ⟨rfl, e0, (by decide : 0 + 2 ≤ _), (by decide : 0 + 24 ≤ _)⟩)
      dsimp only [Pt.U, Pt.locs, Pt.cells, Pt.slots] at X55 l55 y55 z55 st55 hQ55 hS55 Ch55
      subst l55 y55 z55
      have Wd55 := own_Wd.call Wd0 hS55 Ch55
      have hZ55 : Z.Warmed39 (s.setVm T55.vm).vm := Wd55.hZ
      have hown55 : (s.setVm T55.vm).vm.findClass "com/example/cited_experts/citedexperts/EmailAddressIsLocalCharPinLaw" = some m.cls := own_since_own hS55 hown
      have Y55 : Stand p l e room_1 (s.setVm T55.vm) m #[(.int p0), (.int p1)] below meth c T55 _ _ _ := X55
      obtain ⟨rfl, Nq55⟩ := hQ55
      have N55 := Fr.app N0 Nq55
      refine own_csR [(.int (own_loc (p0 &&& (127 : Int32))))] 49 st55 ?_
      refine own_tp (.int (p0 &&& (127 : Int32))) 50 (fun _ q => XS.iloadN Y55.here hx rfl (hb hby at_49) rfl q) ?_
      obtain ⟨_, _, ⟨T56, L56, k56, n56⟩, -, X56, ⟨Lc56, hQ56, l56, y56, z56⟩, st56⟩ := Jvm.LawKit.callS Y55 hx (y := (⟨"com/example/cited_experts/citedexperts/EmailAddressIsLocalCharPinLaw", "expected", "(I)Z"⟩ : MethodName)) hown55 (mvT hZ55 (hw _ (List.mem_of_getElem? (i := 64) rfl))) (mvT hZ55 (hw _ (List.mem_of_getElem? (i := 65) rfl))) (mvT hZ55 (hw _ (List.mem_of_getElem? (i := 66) rfl))) (mvT hZ55 (hw _ (List.mem_of_getElem? (i := 67) rfl))) (by decide) (backOf (W := 1) (rm14 l Z a0 hw [] (p0 &&& (127 : Int32)) T55.heap n0 ) hZ55 (hw _ (List.mem_of_getElem? (i := 67) rfl)) (hw _ (List.mem_of_getElem? (i := 66) rfl)) (by decide) (by decide)) (g := (mkF m 50 #[.val (.int p0), .val (.int p1), .val (.int (p1 &&& (3 : Int32))), .val (.int (p0 &&& (127 : Int32)))] [(.int (p0 &&& (127 : Int32))), (.int (own_loc (p0 &&& (127 : Int32))))])) rfl (by rw [hml]; rfl) (argsL := [(.int (p0 &&& (127 : Int32)))]) (rest := [(.int (own_loc (p0 &&& (127 : Int32))))]) (lenOf pd0_0 rfl) rfl (by show 2 * 0 + _ ≤ _; exact Nat.le_of_eq rfl) (hb hby at_50) (fun _ _ => ⟨rfl, rfl, (by decide : 2 + 0 ≤ _), (by decide : 24 + 0 ≤ _)⟩)
      dsimp only [Pt.U, Pt.locs, Pt.cells, Pt.slots] at X56 l56 y56 z56 st56 hQ56
      subst l56 y56 z56
      obtain ⟨rfl, Nq56, eq56⟩ := hQ56
      have N56 := Fr.app N55 Nq56
      refine own_t1 (.int (own_exp (p0 &&& (127 : Int32)))) 53 st56 ?_
      refine own_d2 56 (fun _ q => XS.icmpNo X56.here hx rfl (hb hby at_53) rfl (teq (own_eq _)).2 q) ?_
      refine own_tp (.int (1 : Int32)) 57 (fun _ q => XS.iconst X56.here hx rfl (hb hby at_56) q) ?_
      refine own_d0 61 (fun _ q => XS.goto X56.here hx rfl (pc0 := 57) (pc' := 61) rfl (hb hby at_57) (by decide) (by decide) q) ?_
      exact own_retNW (t := .boolean) X56 hx hrt (hb hby at_61) (by simp) hlk (by decide) (by decide) eq56 Wd55 (⟨rfl, N56⟩)
    ·
      refine own_d2 26 (fun _ q => XS.icmpYes X0.here hx rfl (pc0 := 15) (pc' := 26) rfl (hb hby at_15) rfl (feq c54).2 (by decide) (by decide) q) ?_
      refine own_tp (.int (p1 &&& (3 : Int32))) 27 (fun _ q => XS.iloadN X0.here hx rfl (hb hby at_26) rfl q) ?_
      refine own_tp (.int (2 : Int32)) 28 (fun _ q => XS.iconst X0.here hx rfl (hb hby at_27) q) ?_
      by_cases c57 : (p1 &&& (3 : Int32)) = (2 : Int32)
      ·
        refine own_d2 31 (fun _ q => XS.icmpNo X0.here hx rfl (hb hby at_28) rfl (teq c57).2 q) ?_
        refine own_tp (.int p0) 32 (fun _ q => XS.iloadN X0.here hx rfl (hb hby at_31) rfl q) ?_
        refine own_tp (.int (255 : Int32)) 35 (fun _ q => XS.sipush X0.here hx rfl (hb hby at_32) q) ?_
        refine own_t2 (.int (p0 &&& (255 : Int32))) 36 (fun _ q => XS.iand X0.here hx rfl (hb hby at_35) rfl q) ?_
        refine own_ls #[.val (.int p0), .val (.int p1), .val (.int (p1 &&& (3 : Int32))), .val (.int (p0 &&& (255 : Int32)))] 37 (fun _ q => XS.istoreN X0.here hx rfl (hb hby at_36) rfl (l' := #[.val (.int p0), .val (.int p1), .val (.int (p1 &&& (3 : Int32))), .val (.int (p0 &&& (255 : Int32)))]) rfl q) ?_
        refine own_d0 45 (fun _ q => XS.goto X0.here hx rfl (pc0 := 37) (pc' := 45) rfl (hb hby at_37) (by decide) (by decide) q) ?_
        refine own_tp (.int (p0 &&& (255 : Int32))) 46 (fun _ q => XS.iloadN X0.here hx rfl (hb hby at_45) rfl q) ?_
        obtain ⟨_, _, ⟨T58, L58, k58, n58⟩, -, X58, hS58, -, ⟨Lc58, hQ58, l58, y58, z58, Ch58⟩, st58⟩ := callSS X0 hx (y := (⟨"com/example/cited_experts/citedexperts/EmailAddress", "isLocalChar", "(I)Z"⟩ : MethodName)) hown (mvT hZ (hw _ (List.mem_of_getElem? (i := 1) rfl))) (mvT hZ (hw _ (List.mem_of_getElem? (i := 2) rfl))) (mvT hZ (hw _ (List.mem_of_getElem? (i := 3) rfl))) (mvT hZ (hw _ (List.mem_of_getElem? (i := 4) rfl))) (by decide) (backOfSH (W := 0) (rm13 l Z a0 hw [] (p0 &&& (255 : Int32)) h0 n0 hE G1 P5 O0 Sc) hZ (hw _ (List.mem_of_getElem? (i := 4) rfl)) (hw _ (List.mem_of_getElem? (i := 3) rfl)) (by decide) (by decide) Wd0.hE Wd0.chv) (g := (mkF m 46 #[.val (.int p0), .val (.int p1), .val (.int (p1 &&& (3 : Int32))), .val (.int (p0 &&& (255 : Int32)))] [(.int (p0 &&& (255 : Int32)))])) rfl (by rw [hml]; rfl) (argsL := [(.int (p0 &&& (255 : Int32)))]) (rest := []) (lenOf pd0_0 rfl) rfl (by show 2 * 0 + _ ≤ _; exact Nat.le_of_eq rfl) (hb hby at_46) (fun _ _ => ⟨rfl, e0, (by decide : 0 + 2 ≤ _), (by decide : 0 + 24 ≤ _)⟩)
        dsimp only [Pt.U, Pt.locs, Pt.cells, Pt.slots] at X58 l58 y58 z58 st58 hQ58 hS58 Ch58
        subst l58 y58 z58
        have Wd58 := own_Wd.call Wd0 hS58 Ch58
        have hZ58 : Z.Warmed39 (s.setVm T58.vm).vm := Wd58.hZ
        have hown58 : (s.setVm T58.vm).vm.findClass "com/example/cited_experts/citedexperts/EmailAddressIsLocalCharPinLaw" = some m.cls := own_since_own hS58 hown
        have Y58 : Stand p l e room_1 (s.setVm T58.vm) m #[(.int p0), (.int p1)] below meth c T58 _ _ _ := X58
        obtain ⟨rfl, Nq58⟩ := hQ58
        have N58 := Fr.app N0 Nq58
        refine own_csR [(.int (own_loc (p0 &&& (255 : Int32))))] 49 st58 ?_
        refine own_tp (.int (p0 &&& (255 : Int32))) 50 (fun _ q => XS.iloadN Y58.here hx rfl (hb hby at_49) rfl q) ?_
        obtain ⟨_, _, ⟨T59, L59, k59, n59⟩, -, X59, ⟨Lc59, hQ59, l59, y59, z59⟩, st59⟩ := Jvm.LawKit.callS Y58 hx (y := (⟨"com/example/cited_experts/citedexperts/EmailAddressIsLocalCharPinLaw", "expected", "(I)Z"⟩ : MethodName)) hown58 (mvT hZ58 (hw _ (List.mem_of_getElem? (i := 64) rfl))) (mvT hZ58 (hw _ (List.mem_of_getElem? (i := 65) rfl))) (mvT hZ58 (hw _ (List.mem_of_getElem? (i := 66) rfl))) (mvT hZ58 (hw _ (List.mem_of_getElem? (i := 67) rfl))) (by decide) (backOf (W := 1) (rm14 l Z a0 hw [] (p0 &&& (255 : Int32)) T58.heap n0 ) hZ58 (hw _ (List.mem_of_getElem? (i := 67) rfl)) (hw _ (List.mem_of_getElem? (i := 66) rfl)) (by decide) (by decide)) (g := (mkF m 50 #[.val (.int p0), .val (.int p1), .val (.int (p1 &&& (3 : Int32))), .val (.int (p0 &&& (255 : Int32)))] [(.int (p0 &&& (255 : Int32))), (.int (own_loc (p0 &&& (255 : Int32))))])) rfl (by rw [hml]; rfl) (argsL := [(.int (p0 &&& (255 : Int32)))]) (rest := [(.int (own_loc (p0 &&& (255 : Int32))))]) (lenOf pd0_0 rfl) rfl (by show 2 * 0 + _ ≤ _; exact Nat.le_of_eq rfl) (hb hby at_50) (fun _ _ => ⟨rfl, rfl, (by decide : 2 + 0 ≤ _), (by decide : 24 + 0 ≤ _)⟩)
        dsimp only [Pt.U, Pt.locs, Pt.cells, Pt.slots] at X59 l59 y59 z59 st59 hQ59
        subst l59 y59 z59
        obtain ⟨rfl, Nq59, eq59⟩ := hQ59
        have N59 := Fr.app N58 Nq59
        refine own_t1 (.int (own_exp (p0 &&& (255 : Int32)))) 53 st59 ?_
        refine own_d2 56 (fun _ q => XS.icmpNo X59.here hx rfl (hb hby at_53) rfl (teq (own_eq _)).2 q) ?_
        refine own_tp (.int (1 : Int32)) 57 (fun _ q => XS.iconst X59.here hx rfl (hb hby at_56) q) ?_
        refine own_d0 61 (fun _ q => XS.goto X59.here hx rfl (pc0 := 57) (pc' := 61) rfl (hb hby at_57) (by decide) (by decide) q) ?_
        exact own_retNW (t := .boolean) X59 hx hrt (hb hby at_61) (by simp) hlk (by decide) (by decide) eq59 Wd58 (⟨rfl, N59⟩)
      ·
        refine own_d2 40 (fun _ q => XS.icmpYes X0.here hx rfl (pc0 := 28) (pc' := 40) rfl (hb hby at_28) rfl (feq c57).2 (by decide) (by decide) q) ?_
        refine own_tp (.int p0) 41 (fun _ q => XS.iloadN X0.here hx rfl (hb hby at_40) rfl q) ?_
        refine own_tp (.int (131071 : Int32)) 43 (fun _ q => X0.ldcInt hx hown (mvT hZ (hw _ (List.mem_of_getElem? (i := 0) rfl))) (g := (mkF m 41 #[.val (.int p0), .val (.int p1), .val (.int (p1 &&& (3 : Int32))), .unset] [(.int p0)])) rfl (hb hby at_41) _ q) ?_
        refine own_t2 (.int (p0 &&& (131071 : Int32))) 44 (fun _ q => XS.iand X0.here hx rfl (hb hby at_43) rfl q) ?_
        refine own_ls #[.val (.int p0), .val (.int p1), .val (.int (p1 &&& (3 : Int32))), .val (.int (p0 &&& (131071 : Int32)))] 45 (fun _ q => XS.istoreN X0.here hx rfl (hb hby at_44) rfl (l' := #[.val (.int p0), .val (.int p1), .val (.int (p1 &&& (3 : Int32))), .val (.int (p0 &&& (131071 : Int32)))]) rfl q) ?_
        refine own_tp (.int (p0 &&& (131071 : Int32))) 46 (fun _ q => XS.iloadN X0.here hx rfl (hb hby at_45) rfl q) ?_
        obtain ⟨_, _, ⟨T60, L60, k60, n60⟩, -, X60, hS60, -, ⟨Lc60, hQ60, l60, y60, z60, Ch60⟩, st60⟩ := callSS X0 hx (y := (⟨"com/example/cited_experts/citedexperts/EmailAddress", "isLocalChar", "(I)Z"⟩ : MethodName)) hown (mvT hZ (hw _ (List.mem_of_getElem? (i := 1) rfl))) (mvT hZ (hw _ (List.mem_of_getElem? (i := 2) rfl))) (mvT hZ (hw _ (List.mem_of_getElem? (i := 3) rfl))) (mvT hZ (hw _ (List.mem_of_getElem? (i := 4) rfl))) (by decide) (backOfSH (W := 0) (rm13 l Z a0 hw [] (p0 &&& (131071 : Int32)) h0 n0 hE G1 P5 O0 Sc) hZ (hw _ (List.mem_of_getElem? (i := 4) rfl)) (hw _ (List.mem_of_getElem? (i := 3) rfl)) (by decide) (by decide) Wd0.hE Wd0.chv) (g := (mkF m 46 #[.val (.int p0), .val (.int p1), .val (.int (p1 &&& (3 : Int32))), .val (.int (p0 &&& (131071 : Int32)))] [(.int (p0 &&& (131071 : Int32)))])) rfl (by rw [hml]; rfl) (argsL := [(.int (p0 &&& (131071 : Int32)))]) (rest := []) (lenOf pd0_0 rfl) rfl (by show 2 * 0 + _ ≤ _; exact Nat.le_of_eq rfl) (hb hby at_46) (fun _ _ => ⟨rfl, e0, (by decide : 0 + 2 ≤ _), (by decide : 0 + 24 ≤ _)⟩)
        dsimp only [Pt.U, Pt.locs, Pt.cells, Pt.slots] at X60 l60 y60 z60 st60 hQ60 hS60 Ch60
        subst l60 y60 z60
        have Wd60 := own_Wd.call Wd0 hS60 Ch60
        have hZ60 : Z.Warmed39 (s.setVm T60.vm).vm := Wd60.hZ
        have hown60 : (s.setVm T60.vm).vm.findClass "com/example/cited_experts/citedexperts/EmailAddressIsLocalCharPinLaw" = some m.cls := own_since_own hS60 hown
        have Y60 : Stand p l e room_1 (s.setVm T60.vm) m #[(.int p0), (.int p1)] below meth c T60 _ _ _ := X60
        obtain ⟨rfl, Nq60⟩ := hQ60
        have N60 := Fr.app N0 Nq60
        refine own_csR [(.int (own_loc (p0 &&& (131071 : Int32))))] 49 st60 ?_
        refine own_tp (.int (p0 &&& (131071 : Int32))) 50 (fun _ q => XS.iloadN Y60.here hx rfl (hb hby at_49) rfl q) ?_
        obtain ⟨_, _, ⟨T61, L61, k61, n61⟩, -, X61, ⟨Lc61, hQ61, l61, y61, z61⟩, st61⟩ := Jvm.LawKit.callS Y60 hx (y := (⟨"com/example/cited_experts/citedexperts/EmailAddressIsLocalCharPinLaw", "expected", "(I)Z"⟩ : MethodName)) hown60 (mvT hZ60 (hw _ (List.mem_of_getElem? (i := 64) rfl))) (mvT hZ60 (hw _ (List.mem_of_getElem? (i := 65) rfl))) (mvT hZ60 (hw _ (List.mem_of_getElem? (i := 66) rfl))) (mvT hZ60 (hw _ (List.mem_of_getElem? (i := 67) rfl))) (by decide) (backOf (W := 1) (rm14 l Z a0 hw [] (p0 &&& (131071 : Int32)) T60.heap n0 ) hZ60 (hw _ (List.mem_of_getElem? (i := 67) rfl)) (hw _ (List.mem_of_getElem? (i := 66) rfl)) (by decide) (by decide)) (g := (mkF m 50 #[.val (.int p0), .val (.int p1), .val (.int (p1 &&& (3 : Int32))), .val (.int (p0 &&& (131071 : Int32)))] [(.int (p0 &&& (131071 : Int32))), (.int (own_loc (p0 &&& (131071 : Int32))))])) rfl (by rw [hml]; rfl) (argsL := [(.int (p0 &&& (131071 : Int32)))]) (rest := [(.int (own_loc (p0 &&& (131071 : Int32))))]) (lenOf pd0_0 rfl) rfl (by show 2 * 0 + _ ≤ _; exact Nat.le_of_eq rfl) (hb hby at_50) (fun _ _ => ⟨rfl, rfl, (by decide : 2 + 0 ≤ _), (by decide : 24 + 0 ≤ _)⟩)
        dsimp only [Pt.U, Pt.locs, Pt.cells, Pt.slots] at X61 l61 y61 z61 st61 hQ61
        subst l61 y61 z61
        obtain ⟨rfl, Nq61, eq61⟩ := hQ61
        have N61 := Fr.app N60 Nq61
        refine own_t1 (.int (own_exp (p0 &&& (131071 : Int32)))) 53 st61 ?_
        refine own_d2 56 (fun _ q => XS.icmpNo X61.here hx rfl (hb hby at_53) rfl (teq (own_eq _)).2 q) ?_
        refine own_tp (.int (1 : Int32)) 57 (fun _ q => XS.iconst X61.here hx rfl (hb hby at_56) q) ?_
        refine own_d0 61 (fun _ q => XS.goto X61.here hx rfl (pc0 := 57) (pc' := 61) rfl (hb hby at_57) (by decide) (by decide) q) ?_
        exact own_retNW (t := .boolean) X61 hx hrt (hb hby at_61) (by simp) hlk (by decide) (by decide) eq61 Wd60 (⟨rfl, N61⟩)

set_option maxRecDepth 65536 in
set_option maxHeartbeats 40000000 in
theorem comes_1 {Post : Tables → Env → Array Value → State → Outcome → State → Prop} (hpost : ∀ tb e args s v u, (limb_1_1.after args s (.returned v) u = true ∧ limb_1_2.after args s (.returned v) u = true ∧ True) → ReturnedEndW s (.returned v) u (Jvm.fieldLocs frame_1_writes args s ++ Jvm.arrayLocs frame_1_arrays args s ++ Jvm.staticLocs frame_1_statics s) 8 1088 → Post tb e args s (.returned v) u) :
    ArmFor flags0 classFile x code maxLocals ret World_1 tables_1 room_1 Calls_1 rest_1 Pre_1 Post := by
  intro l hfl _ _ p e ha hc hk s m args below hf hA hF happ hP
  obtain ⟨hcalls, hrest, hpre⟩ := hP
  obtain ⟨-, -, -, hnamed, -, -, -, hat⟩ := (Spec.applies_iff hf).mp happ
  obtain ⟨hg, hn⟩ := and_e (Cond.before_iff.mp (show (Jvm.Cond.and given_1 narrow_1).before args s = true from hpre))
  obtain ⟨hcount, hg0⟩ := and_e hg
  obtain ⟨hv0, hg1⟩ := and_e hg0
  obtain ⟨w0, w1, rfl⟩ : ∃ w0 w1 : Value, args = #[w0, w1] := by
    have hs : args.size = 2 := by simpa [Cond.value, given_1] using hcount
    obtain ⟨L⟩ := args
    match L, hs with
    | [w0, w1], _ => exact ⟨w0, w1, rfl⟩
  have hw := fun d (hd : d ∈ tables_1) => atoms_spec (ws := Jvm.Cond.code x code maxLocals ret :: tables_1) hat d (List.mem_cons_of_mem _ hd)
  have hfit : Fit s := fun {y c} hc i hi => by
    obtain ⟨ha, rfl⟩ := Array.getElem?_eq_some_iff.mp hc
    have q := List.all_eq_true.mp ((Array.all_eq_true_iff_forall_mem.mp hF) _ (Array.getElem_mem ha)) i (List.mem_range.mpr hi)
    simpa [Array.getElem?_eq_getElem hi] using q
  obtain ⟨i0, ei0⟩ := is_v hv0
  obtain rfl : w0 = (.int i0) := Option.some.inj ei0
  obtain ⟨i1, ei1⟩ := is_v hg1
  obtain rfl : w1 = (.int i1) := Option.some.inj ei1
  obtain ⟨hsets, hown0⟩ := atoms_of _ (rest_1_c_eq ▸ (show rest_1_c.before _ s = true from hrest))
  obtain ⟨G1, eG1⟩ := is_v (Cond.before_iff.mp (hsets _ (List.mem_of_getElem? (i := 1) rfl)))
  have Sc : Sta s s.heap "java/lang/String" "COMPACT_STRINGS" "Z" (.int G1) := Sta.start eG1 (Or.inl (hsets _ (List.mem_of_getElem? (i := 0) rfl)))
  have P5 : ¬ (G1 = (0 : Int32)) := gotF (Cond.eq_ints eG1 (Term.int_eval (0))) (not_v (Cond.before_iff.mp (hsets _ (List.mem_of_getElem? (i := 2) rfl))))
  have hE : EW s _ own_EL := EW.cons (hw _ (List.mem_of_getElem? (i := 11) rfl)) (by decide) (EW.nil)
  have hC : CHv s own_EL s.vm s.heap := CHv.start hE (fun p hp => hcalls.1 p hp) (hsets _ (List.mem_of_getElem? (i := 2) rfl)) (hw _ (List.mem_of_getElem? (i := 14) rfl)) (hw _ (List.mem_of_getElem? (i := 13) rfl))
  obtain ⟨n, o, h1, h2, h3, _, L, rfl, ⟨rfl, N⟩, -, hq⟩ := rm0 l s _ hw tables_1 i0 i1 s.heap s.heap.size hE G1 P5 (Old.start s) Sc p e ha hc hk s m _ below hf ((Spec.applies_iff_loose hf).mp happ).1 ⟨rfl, State.Warmed39.refl s, rfl, hC⟩ trivial
  refine ⟨n, _, h1, h2, h3, hpost _ _ _ _ _ _ ⟨Cond.after_iff.mpr rfl, Cond.after_iff.mpr (eq_i res_at (Term.int_eval (1)) rfl), trivial⟩ ⟨hq.1, hq.2.1, hq.2.2.1, (hq.2.2.2.sift fun y hy => Or.inr (N y hy)).mono (by decide) (by decide)⟩⟩
theorem main_1_1 : Claimed_1_1 := comes_1 fun _ _ _ _ _ _ h hF => ⟨h.1, hF⟩
theorem main_1_2 : Claimed_1_2 := comes_1 fun _ _ _ _ _ _ h hF => ⟨h.2.1, hF⟩
end Jvm.Pilot.@@N@@
namespace Jvm.Pilot.@@N@@
open Jvm Jvm.ClassFile Sem Op Lib Jvm.Free Jvm.Stand Jvm.Pilot.@@N@@.Jvm.D
/-! MADE BY PROGRAM (witnessworld.py) out of the Statement's table words and the real class files: 18 classes; the members and pool entries that the words name. The judged class is class 1, her method 2. -/
namespace start1
open Jvm.ClassFile
def u (s : String) : CpInfo := .utf8 (stringToUtf16 s)
/-- a pool by its gaps: so many unusable entries, then the entry; so many at the end -/
def gap : Nat → List CpInfo → List CpInfo
  | 0, r => r
  | n + 1, r => .unusable :: gap n r
def poolList (es : List (Nat × CpInfo)) (last : Nat) : List CpInfo := es.foldr (fun e r => gap e.1 (e.2 :: r)) (gap last [])
def pool (es : List (Nat × CpInfo)) (last : Nat) : Array CpInfo := ⟨poolList es last⟩
def fileOf (pool : Array CpInfo) (this : Nat) (attrs : Array Attribute := #[]) (ms : Array MethodInfo := #[]) (fl : Nat := 33) (sup : Nat := 0) (ifs : Array Nat := #[]) (fds : Array FieldInfo := #[]) : ClassFile where
  minorVersion := 0
  majorVersion := 65
  constantPool := pool
  accessFlags := fl
  thisClass := this
  superClass := sup
  interfaces := ifs
  fields := fds
  methods := ms
  attributes := attrs
def plain (name : String) (sup : Option ClassId) : Class where
  name := name
  kind := .ordinary
  loader := none
  accessFlags := 33
  super := sup
  interfaces := #[]
  cf := none
  fields := #[]
  methods := #[]
  instanceTypes := #[]
  staticTypes := #[]
  resolved := #[]
  callSites := []
  init := .initialized
  statics := none
  mirror := none

def pool0 : Array CpInfo := pool [(5, u "<init>"), (0, u "()V"), (1, .class_ 10), (1, u "java/lang/Object")] 113

def k0m0 : Method := { name := "<init>", desc := "()V", sig := { parameters := [], returnType := none }, accessFlags := 1, code := none }
/-- java/lang/Object -/
def k0 : Class := { plain "java/lang/Object" none with
  accessFlags := 33
  interfaces := #[]
  cf := some (fileOf pool0 8 #[] #[{ accessFlags := 1, nameIndex := 5, descriptorIndex := 6, attributes := #[] }] 33 0 #[] #[])
  fields := #[]
  methods := #[k0m0]
  instanceTypes := #[]
  staticTypes := #[]
  resolved := Array.replicate 124 none
  statics := none }

def pool1 : Array CpInfo := pool [(2, .class_ 4), (1, u "java/lang/Object"), (0, u "<init>"), (0, u "()V"), (0, .integer 131071), (0, .methodref 9 10), (0, .class_ 11), (0, .nameAndType 12 13), (0, u "com/example/cited_experts/citedexperts/EmailAddress"), (0, u "isLocalChar"), (0, u "(I)Z"), (0, .methodref 15 16), (0, .class_ 17), (0, .nameAndType 18 13), (0, u "com/example/cited_experts/citedexperts/EmailAddressIsLocalCharPinLaw"), (0, u "expected"), (3, u "law"), (0, u "(II)Z")] 2

def k1m0 : Method := { name := "<init>", desc := "()V", sig := { parameters := [], returnType := none }, accessFlags := 2, code := none }
def k1c1 : Code := { maxStack := 2, maxLocals := 1, code := method_2_code, exceptionTable := #[], attributes := #[] }
def k1m1 : Method := { name := "expected", desc := "(I)Z", sig := { parameters := [.int], returnType := some .boolean }, accessFlags := 10, code := some k1c1 }
def k1c2 : Code := { maxStack := 2, maxLocals := 4, code := code, exceptionTable := #[], attributes := #[] }
def k1m2 : Method := { name := "law", desc := "(II)Z", sig := { parameters := [.int, .int], returnType := some .boolean }, accessFlags := 9, code := some k1c2 }
/-- com/example/cited_experts/citedexperts/EmailAddressIsLocalCharPinLaw -/
def k1 : Class := { plain "com/example/cited_experts/citedexperts/EmailAddressIsLocalCharPinLaw" (some 0) with
  accessFlags := 49
  interfaces := #[]
  cf := some (fileOf pool1 15 #[] #[{ accessFlags := 2, nameIndex := 5, descriptorIndex := 6, attributes := #[] }, { accessFlags := 10, nameIndex := 18, descriptorIndex := 13, attributes := #[] }, { accessFlags := 9, nameIndex := 22, descriptorIndex := 23, attributes := #[] }] 49 2 #[] #[])
  fields := #[]
  methods := #[k1m0, k1m1, k1m2]
  instanceTypes := #[]
  staticTypes := #[]
  resolved := Array.replicate 26 none
  statics := none }

def pool2 : Array CpInfo := pool [(1, .class_ 2), (0, u "java/lang/Comparable"), (0, .class_ 4), (0, u "java/lang/Object")] 7

/-- java/lang/Comparable -/
def k2 : Class := { plain "java/lang/Comparable" (some 0) with
  accessFlags := 1537
  interfaces := #[]
  cf := some (fileOf pool2 1 #[] #[] 1537 3 #[] #[])
  fields := #[]
  methods := #[]
  instanceTypes := #[]
  staticTypes := #[]
  resolved := Array.replicate 12 none
  statics := none }

def pool3 : Array CpInfo := pool [(2, .class_ 4), (1, u "java/lang/Object"), (3, .class_ 10), (1, u "com/example/cited_experts/citedexperts/EmailAddress"), (0, u "address"), (0, u "Ljava/lang/String;"), (0, .methodref 14 15), (0, .class_ 16), (0, .nameAndType 17 18), (0, u "java/lang/String"), (0, u "indexOf"), (0, u "(I)I"), (49, .methodref 8 69), (0, .nameAndType 70 71), (0, u "isAsciiLetterOrDigit"), (0, u "(I)Z"), (0, .string 73), (0, u ".%_+-"), (7, .methodref 8 82), (0, .nameAndType 83 71), (0, u "isAsciiLetter"), (14, .class_ 99), (0, u "java/lang/Comparable"), (0, u "MAX_LENGTH"), (0, u "I"), (9, u "isLocalChar")] 25

def k3c0 : Code := { maxStack := 2, maxLocals := 1, code := prog_10_method_3_code, exceptionTable := #[], attributes := #[] }
def k3m0 : Method := { name := "isLocalChar", desc := "(I)Z", sig := { parameters := [.int], returnType := some .boolean }, accessFlags := 8, code := some k3c0 }
def k3c1 : Code := { maxStack := 2, maxLocals := 1, code := prog_10_method_5_code, exceptionTable := #[], attributes := #[] }
def k3m1 : Method := { name := "isAsciiLetter", desc := "(I)Z", sig := { parameters := [.int], returnType := some .boolean }, accessFlags := 10, code := some k3c1 }
def k3c2 : Code := { maxStack := 2, maxLocals := 1, code := prog_10_method_6_code, exceptionTable := #[], attributes := #[] }
def k3m2 : Method := { name := "isAsciiLetterOrDigit", desc := "(I)Z", sig := { parameters := [.int], returnType := some .boolean }, accessFlags := 10, code := some k3c2 }
/-- com/example/cited_experts/citedexperts/EmailAddress -/
def k3 : Class := { plain "com/example/cited_experts/citedexperts/EmailAddress" (some 0) with
  accessFlags := 49
  interfaces := #[2]
  cf := some (fileOf pool3 8 #[] #[{ accessFlags := 8, nameIndex := 111, descriptorIndex := 71, attributes := #[] }, { accessFlags := 10, nameIndex := 83, descriptorIndex := 71, attributes := #[] }, { accessFlags := 10, nameIndex := 70, descriptorIndex := 71, attributes := #[] }] 49 2 #[98] #[{ accessFlags := 25, nameIndex := 100, descriptorIndex := 101, attributes := #[] }, { accessFlags := 18, nameIndex := 11, descriptorIndex := 12, attributes := #[] }])
  fields := #[{ name := "MAX_LENGTH", type := .int, accessFlags := 25, slot := 0, constantValue := 0 }, { name := "address", type := (.object "java/lang/String"), accessFlags := 18, slot := 0, constantValue := 0 }]
  methods := #[k3m0, k3m1, k3m2]
  instanceTypes := #[(.object "java/lang/String")]
  staticTypes := #[.int]
  resolved := Array.replicate 137 none
  statics := none }

def pool4 : Array CpInfo := pool [(1, .class_ 2), (0, u "java/io/Serializable"), (0, .class_ 4), (0, u "java/lang/Object")] 2

/-- java/io/Serializable -/
def k4 : Class := { plain "java/io/Serializable" (some 0) with
  accessFlags := 1537
  interfaces := #[]
  cf := some (fileOf pool4 1 #[] #[] 1537 3 #[] #[])
  fields := #[]
  methods := #[]
  instanceTypes := #[]
  staticTypes := #[]
  resolved := Array.replicate 7 none
  statics := none }

def pool5 : Array CpInfo := pool [(2, .class_ 4), (1, u "java/lang/CharSequence"), (42, .class_ 48), (0, u "java/lang/CharSequence$1CodePointIterator"), (10, .class_ 60), (0, u "java/lang/CharSequence$1CharIterator"), (5, .class_ 67), (0, u "java/lang/Object")] 63

/-- java/lang/CharSequence -/
def k5 : Class := { plain "java/lang/CharSequence" (some 0) with
  accessFlags := 1537
  interfaces := #[]
  cf := some (fileOf pool5 2 #[.nestMembers #[47, 59]] #[] 1537 66 #[] #[])
  fields := #[]
  methods := #[]
  instanceTypes := #[]
  staticTypes := #[]
  resolved := Array.replicate 131 none
  statics := none }

def pool6 : Array CpInfo := pool [(1, .class_ 2), (0, u "java/lang/constant/Constable"), (0, .class_ 4), (0, u "java/lang/Object")] 6

/-- java/lang/constant/Constable -/
def k6 : Class := { plain "java/lang/constant/Constable" (some 0) with
  accessFlags := 1537
  interfaces := #[]
  cf := some (fileOf pool6 1 #[] #[] 1537 3 #[] #[])
  fields := #[]
  methods := #[]
  instanceTypes := #[]
  staticTypes := #[]
  resolved := Array.replicate 11 none
  statics := none }

def pool7 : Array CpInfo := pool [(1, .class_ 2), (0, u "java/lang/constant/ConstantDesc"), (0, .class_ 4), (0, u "java/lang/Object")] 32

/-- java/lang/constant/ConstantDesc -/
def k7 : Class := { plain "java/lang/constant/ConstantDesc" (some 0) with
  accessFlags := 1537
  interfaces := #[]
  cf := some (fileOf pool7 1 #[] #[] 1537 3 #[] #[])
  fields := #[]
  methods := #[]
  instanceTypes := #[]
  staticTypes := #[]
  resolved := Array.replicate 37 none
  statics := none }

def pool8 : Array CpInfo := pool [(2, .class_ 4), (1, u "java/lang/Object"), (0, u "<init>"), (0, u "()V"), (2, .fieldref 10 11), (0, .class_ 12), (0, .nameAndType 13 14), (0, u "java/lang/String"), (0, u "value"), (0, u "[B"), (0, .fieldref 10 16), (0, .nameAndType 17 18), (0, u "coder"), (0, u "B"), (2, u "hash"), (0, u "I"), (2, u "hashIsZero"), (0, u "Z"), (11, .fieldref 10 39), (0, .nameAndType 40 26), (0, u "COMPACT_STRINGS"), (66, .class_ 109), (1, u "java/lang/StringLatin1"), (32, u "()Z"), (191, u "()I"), (0, .methodref 10 336), (0, .nameAndType 17 337), (0, u "()B"), (154, .methodref 10 493), (0, .nameAndType 494 142), (0, u "isLatin1"), (10, .methodref 10 506), (0, .nameAndType 507 334), (0, u "length"), (67, .class_ 576), (0, u "java/lang/CharSequence"), (22, u "CASE_INSENSITIVE_ORDER"), (0, u "Ljava/util/Comparator;"), (32, .methodref 10 634), (0, .nameAndType 635 636), (0, u "indexOf"), (0, u "(II)I"), (0, .methodref 107 638), (0, .nameAndType 635 639), (0, u "([BIII)I"), (125, u "(I)I"), (335, u "serialPersistentFields"), (0, u "[Ljava/io/ObjectStreamField;"), (0, .class_ 1104), (0, u "java/lang/String$CaseInsensitiveComparator"), (1, .class_ 1107), (0, u "java/io/Serializable"), (0, .class_ 1109), (0, u "java/lang/Comparable"), (0, .class_ 1111), (0, u "java/lang/constant/Constable"), (0, .class_ 1113), (0, u "java/lang/constant/ConstantDesc"), (2, u "serialVersionUID"), (0, u "J"), (3, u "REPL"), (0, u "C"), (2, u "LATIN1"), (1, u "UTF16")] 323

def k8m0 : Method := { name := "<init>", desc := "()V", sig := { parameters := [], returnType := none }, accessFlags := 1, code := none }
def k8c1 : Code := { maxStack := 2, maxLocals := 1, code := jdk_42_method_54_code, exceptionTable := #[], attributes := #[] }
def k8m1 : Method := { name := "length", desc := "()I", sig := { parameters := [], returnType := some .int }, accessFlags := 1, code := some k8c1 }
def k8c2 : Code := { maxStack := 3, maxLocals := 2, code := jdk_42_method_79_code, exceptionTable := #[], attributes := #[] }
def k8m2 : Method := { name := "indexOf", desc := "(I)I", sig := { parameters := [.int], returnType := some .int }, accessFlags := 1, code := some k8c2 }
def k8c3 : Code := { maxStack := 4, maxLocals := 3, code := jdk_42_method_80_code, exceptionTable := #[], attributes := #[] }
def k8m3 : Method := { name := "indexOf", desc := "(II)I", sig := { parameters := [.int, .int], returnType := some .int }, accessFlags := 1, code := some k8c3 }
def k8c4 : Code := { maxStack := 1, maxLocals := 1, code := jdk_42_method_152_code, exceptionTable := #[], attributes := #[] }
def k8m4 : Method := { name := "coder", desc := "()B", sig := { parameters := [], returnType := some .byte }, accessFlags := 0, code := some k8c4 }
def k8c5 : Code := { maxStack := 1, maxLocals := 1, code := jdk_42_method_154_code, exceptionTable := #[], attributes := #[] }
def k8m5 : Method := { name := "isLatin1", desc := "()Z", sig := { parameters := [], returnType := some .boolean }, accessFlags := 0, code := some k8c5 }
/-- java/lang/String -/
def k8 : Class := { plain "java/lang/String" (some 0) with
  accessFlags := 49
  interfaces := #[4, 2, 5, 6, 7]
  cf := some (fileOf pool8 10 #[.nestMembers #[1103]] #[{ accessFlags := 1, nameIndex := 5, descriptorIndex := 6, attributes := #[] }, { accessFlags := 1, nameIndex := 507, descriptorIndex := 334, attributes := #[] }, { accessFlags := 1, nameIndex := 635, descriptorIndex := 765, attributes := #[] }, { accessFlags := 1, nameIndex := 635, descriptorIndex := 636, attributes := #[] }, { accessFlags := 0, nameIndex := 17, descriptorIndex := 337, attributes := #[] }, { accessFlags := 0, nameIndex := 494, descriptorIndex := 142, attributes := #[] }] 49 2 #[1106, 1108, 575, 1110, 1112] #[{ accessFlags := 18, nameIndex := 13, descriptorIndex := 14, attributes := #[] }, { accessFlags := 18, nameIndex := 17, descriptorIndex := 18, attributes := #[] }, { accessFlags := 2, nameIndex := 21, descriptorIndex := 22, attributes := #[] }, { accessFlags := 2, nameIndex := 25, descriptorIndex := 26, attributes := #[] }, { accessFlags := 26, nameIndex := 1116, descriptorIndex := 1117, attributes := #[] }, { accessFlags := 24, nameIndex := 40, descriptorIndex := 26, attributes := #[] }, { accessFlags := 26, nameIndex := 1101, descriptorIndex := 1102, attributes := #[] }, { accessFlags := 26, nameIndex := 1121, descriptorIndex := 1122, attributes := #[] }, { accessFlags := 25, nameIndex := 599, descriptorIndex := 600, attributes := #[] }, { accessFlags := 24, nameIndex := 1125, descriptorIndex := 18, attributes := #[] }, { accessFlags := 24, nameIndex := 1127, descriptorIndex := 18, attributes := #[] }])
  fields := #[{ name := "value", type := (.array .byte), accessFlags := 18, slot := 0, constantValue := 0 }, { name := "coder", type := .byte, accessFlags := 18, slot := 1, constantValue := 0 }, { name := "hash", type := .int, accessFlags := 2, slot := 2, constantValue := 0 }, { name := "hashIsZero", type := .boolean, accessFlags := 2, slot := 3, constantValue := 0 }, { name := "serialVersionUID", type := .long, accessFlags := 26, slot := 0, constantValue := 0 }, { name := "COMPACT_STRINGS", type := .boolean, accessFlags := 24, slot := 1, constantValue := 0 }, { name := "serialPersistentFields", type := (.array (.object "java/io/ObjectStreamField")), accessFlags := 26, slot := 2, constantValue := 0 }, { name := "REPL", type := .char, accessFlags := 26, slot := 3, constantValue := 0 }, { name := "CASE_INSENSITIVE_ORDER", type := (.object "java/util/Comparator"), accessFlags := 25, slot := 4, constantValue := 0 }, { name := "LATIN1", type := .byte, accessFlags := 24, slot := 5, constantValue := 0 }, { name := "UTF16", type := .byte, accessFlags := 24, slot := 6, constantValue := 0 }]
  methods := #[k8m0, k8m1, k8m2, k8m3, k8m4, k8m5]
  instanceTypes := #[(.array .byte), .byte, .int, .boolean]
  staticTypes := #[.long, .boolean, (.array (.object "java/io/ObjectStreamField")), .char, (.object "java/util/Comparator"), .byte, .byte]
  resolved := Array.replicate 1451 none
  statics := some 0 }

def pool9 : Array CpInfo := pool [(4, .class_ 6), (1, u "java/lang/Object"), (0, u "<init>"), (0, u "()V"), (5, .class_ 16), (1, u "java/lang/StringLatin1"), (21, .methodref 39 40), (0, .class_ 41), (0, .nameAndType 42 43), (0, u "java/lang/Math"), (0, u "min"), (0, u "(II)I"), (44, .methodref 14 89), (0, .nameAndType 90 91), (0, u "canEncode"), (0, u "(I)Z"), (0, .methodref 39 93), (0, .nameAndType 94 43), (0, u "max"), (0, .methodref 14 96), (0, .nameAndType 97 98), (0, u "indexOfChar"), (0, u "([BIII)I"), (2, u "indexOf"), (19, u "$assertionsDisabled"), (0, u "Z"), (98, .class_ 223), (1, u "java/lang/StringLatin1$LinesSpliterator"), (166, .class_ 391), (0, u "java/lang/StringLatin1$CharsSpliterator")] 3

def k9m0 : Method := { name := "<init>", desc := "()V", sig := { parameters := [], returnType := none }, accessFlags := 0, code := none }
def k9c1 : Code := { maxStack := 2, maxLocals := 1, code := jdk_43_method_4_code, exceptionTable := #[], attributes := #[] }
def k9m1 : Method := { name := "canEncode", desc := "(I)Z", sig := { parameters := [.int], returnType := some .boolean }, accessFlags := 9, code := some k9c1 }
def k9c2 : Code := { maxStack := 4, maxLocals := 4, code := jdk_43_method_22_code, exceptionTable := #[], attributes := #[] }
def k9m2 : Method := { name := "indexOf", desc := "([BIII)I", sig := { parameters := [(.array .byte), .int, .int, .int], returnType := some .int }, accessFlags := 9, code := some k9c2 }
def k9c3 : Code := { maxStack := 2, maxLocals := 6, code := jdk_43_method_23_code, exceptionTable := #[], attributes := #[] }
def k9m3 : Method := { name := "indexOfChar", desc := "([BIII)I", sig := { parameters := [(.array .byte), .int, .int, .int], returnType := some .int }, accessFlags := 10, code := some k9c3 }
/-- java/lang/StringLatin1 -/
def k9 : Class := { plain "java/lang/StringLatin1" (some 0) with
  accessFlags := 48
  interfaces := #[]
  cf := some (fileOf pool9 14 #[.nestMembers #[390, 221]] #[{ accessFlags := 0, nameIndex := 7, descriptorIndex := 8, attributes := #[] }, { accessFlags := 9, nameIndex := 90, descriptorIndex := 91, attributes := #[] }, { accessFlags := 9, nameIndex := 101, descriptorIndex := 98, attributes := #[] }, { accessFlags := 10, nameIndex := 97, descriptorIndex := 98, attributes := #[] }] 48 4 #[] #[{ accessFlags := 4120, nameIndex := 121, descriptorIndex := 122, attributes := #[] }])
  fields := #[{ name := "$assertionsDisabled", type := .boolean, accessFlags := 4120, slot := 0, constantValue := 0 }]
  methods := #[k9m0, k9m1, k9m2, k9m3]
  instanceTypes := #[]
  staticTypes := #[.boolean]
  resolved := Array.replicate 395 none
  statics := none }

def pool10 : Array CpInfo := pool [(1, .class_ 2), (0, u "java/lang/Math"), (1, .class_ 6), (1, u "java/lang/Object"), (0, u "<init>"), (0, u "()V"), (89, .class_ 100), (1, u "java/lang/Math$RandomNumberGeneratorHolder"), (71, u "negativeZeroFloatBits"), (0, u "J"), (2, u "negativeZeroDoubleBits"), (21, u "max"), (2, u "min"), (43, u "$assertionsDisabled"), (0, u "Z"), (88, u "(II)I"), (2, u "twoToTheDoubleScaleDown"), (0, u "D"), (4, u "twoToTheDoubleScaleUp"), (9, u "E"), (3, u "PI"), (2, u "TAU"), (2, u "DEGREES_TO_RADIANS"), (0, u "RADIANS_TO_DEGREES")] 94

def k10m0 : Method := { name := "<init>", desc := "()V", sig := { parameters := [], returnType := none }, accessFlags := 2, code := none }
def k10c1 : Code := { maxStack := 2, maxLocals := 2, code := jdk_29_method_65_code, exceptionTable := #[], attributes := #[] }
def k10m1 : Method := { name := "max", desc := "(II)I", sig := { parameters := [.int, .int], returnType := some .int }, accessFlags := 9, code := some k10c1 }
def k10c2 : Code := { maxStack := 2, maxLocals := 2, code := jdk_29_method_69_code, exceptionTable := #[], attributes := #[] }
def k10m2 : Method := { name := "min", desc := "(II)I", sig := { parameters := [.int, .int], returnType := some .int }, accessFlags := 9, code := some k10c2 }
/-- java/lang/Math -/
def k10 : Class := { plain "java/lang/Math" (some 0) with
  accessFlags := 49
  interfaces := #[]
  cf := some (fileOf pool10 1 #[.nestMembers #[98]] #[{ accessFlags := 2, nameIndex := 7, descriptorIndex := 8, attributes := #[] }, { accessFlags := 9, nameIndex := 198, descriptorIndex := 335, attributes := #[] }, { accessFlags := 9, nameIndex := 201, descriptorIndex := 335, attributes := #[] }] 49 4 #[] #[{ accessFlags := 25, nameIndex := 354, descriptorIndex := 339, attributes := #[] }, { accessFlags := 25, nameIndex := 358, descriptorIndex := 339, attributes := #[] }, { accessFlags := 25, nameIndex := 361, descriptorIndex := 339, attributes := #[] }, { accessFlags := 26, nameIndex := 364, descriptorIndex := 339, attributes := #[] }, { accessFlags := 26, nameIndex := 365, descriptorIndex := 339, attributes := #[] }, { accessFlags := 26, nameIndex := 172, descriptorIndex := 173, attributes := #[] }, { accessFlags := 26, nameIndex := 176, descriptorIndex := 173, attributes := #[] }, { accessFlags := 8, nameIndex := 344, descriptorIndex := 339, attributes := #[] }, { accessFlags := 8, nameIndex := 338, descriptorIndex := 339, attributes := #[] }, { accessFlags := 4120, nameIndex := 245, descriptorIndex := 246, attributes := #[] }])
  fields := #[{ name := "E", type := .double, accessFlags := 25, slot := 0, constantValue := 0 }, { name := "PI", type := .double, accessFlags := 25, slot := 1, constantValue := 0 }, { name := "TAU", type := .double, accessFlags := 25, slot := 2, constantValue := 0 }, { name := "DEGREES_TO_RADIANS", type := .double, accessFlags := 26, slot := 3, constantValue := 0 }, { name := "RADIANS_TO_DEGREES", type := .double, accessFlags := 26, slot := 4, constantValue := 0 }, { name := "negativeZeroFloatBits", type := .long, accessFlags := 26, slot := 5, constantValue := 0 }, { name := "negativeZeroDoubleBits", type := .long, accessFlags := 26, slot := 6, constantValue := 0 }, { name := "twoToTheDoubleScaleUp", type := .double, accessFlags := 8, slot := 7, constantValue := 0 }, { name := "twoToTheDoubleScaleDown", type := .double, accessFlags := 8, slot := 8, constantValue := 0 }, { name := "$assertionsDisabled", type := .boolean, accessFlags := 4120, slot := 9, constantValue := 0 }]
  methods := #[k10m0, k10m1, k10m2]
  instanceTypes := #[]
  staticTypes := #[.double, .double, .double, .double, .double, .long, .long, .double, .double, .boolean]
  resolved := Array.replicate 460 none
  statics := none }

def pool11 : Array CpInfo := pool [(2, .class_ 4), (1, u "java/lang/Object"), (0, u "<init>"), (0, u "()V"), (17, .class_ 26), (1, u "jdk/internal/util/Preconditions"), (28, .class_ 56), (0, u "jdk/internal/util/Preconditions$4"), (57, .class_ 115), (0, u "jdk/internal/util/Preconditions$1"), (7, u "SIOOBE_FORMATTER"), (0, u "Ljava/util/function/BiFunction;"), (0, .class_ 126), (0, u "jdk/internal/util/Preconditions$2"), (3, u "AIOOBE_FORMATTER"), (0, .class_ 132), (0, u "jdk/internal/util/Preconditions$3"), (3, u "IOOBE_FORMATTER")] 57

def k11m0 : Method := { name := "<init>", desc := "()V", sig := { parameters := [], returnType := none }, accessFlags := 1, code := none }
/-- jdk/internal/util/Preconditions -/
def k11 : Class := { plain "jdk/internal/util/Preconditions" (some 0) with
  accessFlags := 33
  interfaces := #[]
  cf := some (fileOf pool11 24 #[.nestMembers #[55, 131, 125, 114]] #[{ accessFlags := 1, nameIndex := 5, descriptorIndex := 6, attributes := #[] }] 33 2 #[] #[{ accessFlags := 25, nameIndex := 123, descriptorIndex := 124, attributes := #[] }, { accessFlags := 25, nameIndex := 130, descriptorIndex := 124, attributes := #[] }, { accessFlags := 25, nameIndex := 136, descriptorIndex := 124, attributes := #[] }])
  fields := #[{ name := "SIOOBE_FORMATTER", type := (.object "java/util/function/BiFunction"), accessFlags := 25, slot := 0, constantValue := 0 }, { name := "AIOOBE_FORMATTER", type := (.object "java/util/function/BiFunction"), accessFlags := 25, slot := 1, constantValue := 0 }, { name := "IOOBE_FORMATTER", type := (.object "java/util/function/BiFunction"), accessFlags := 25, slot := 2, constantValue := 0 }]
  methods := #[k11m0]
  instanceTypes := #[]
  staticTypes := #[(.object "java/util/function/BiFunction"), (.object "java/util/function/BiFunction"), (.object "java/util/function/BiFunction")]
  resolved := Array.replicate 194 none
  statics := some 1 }

def pool12 : Array CpInfo := pool [(9, u "<init>"), (6, .class_ 18), (1, u "java/lang/Object"), (0, u "()V"), (1, .class_ 23), (1, u "jdk/internal/util/ArraysSupport"), (0, u "LOG2_ARRAY_LONG_INDEX_SCALE"), (0, u "I"), (2, u "U"), (0, u "Ljdk/internal/misc/Unsafe;"), (8, u "BIG_ENDIAN"), (0, u "Z"), (8, u "LOG2_BYTE_BIT_SIZE"), (4, u "LOG2_ARRAY_INT_INDEX_SCALE"), (54, u "JLA"), (0, u "Ljdk/internal/access/JavaLangAccess;"), (11, u "LOG2_ARRAY_BOOLEAN_INDEX_SCALE"), (9, u "LOG2_ARRAY_BYTE_INDEX_SCALE"), (5, u "LOG2_ARRAY_CHAR_INDEX_SCALE"), (5, u "LOG2_ARRAY_SHORT_INDEX_SCALE"), (18, u "LOG2_ARRAY_FLOAT_INDEX_SCALE"), (24, u "LOG2_ARRAY_DOUBLE_INDEX_SCALE"), (89, u "T_BOOLEAN"), (2, u "T_CHAR"), (1, u "T_FLOAT"), (1, u "T_DOUBLE"), (1, u "T_BYTE"), (1, u "T_SHORT"), (1, u "T_INT"), (1, u "T_LONG"), (1, u "SOFT_MAX_ARRAY_LENGTH")] 83

def k12m0 : Method := { name := "<init>", desc := "()V", sig := { parameters := [], returnType := none }, accessFlags := 2, code := none }
/-- jdk/internal/util/ArraysSupport -/
def k12 : Class := { plain "jdk/internal/util/ArraysSupport" (some 0) with
  accessFlags := 33
  interfaces := #[]
  cf := some (fileOf pool12 21 #[] #[{ accessFlags := 2, nameIndex := 9, descriptorIndex := 19, attributes := #[] }] 33 16 #[] #[{ accessFlags := 24, nameIndex := 28, descriptorIndex := 29, attributes := #[] }, { accessFlags := 26, nameIndex := 38, descriptorIndex := 39, attributes := #[] }, { accessFlags := 25, nameIndex := 121, descriptorIndex := 25, attributes := #[] }, { accessFlags := 25, nameIndex := 131, descriptorIndex := 25, attributes := #[] }, { accessFlags := 25, nameIndex := 137, descriptorIndex := 25, attributes := #[] }, { accessFlags := 25, nameIndex := 143, descriptorIndex := 25, attributes := #[] }, { accessFlags := 25, nameIndex := 53, descriptorIndex := 25, attributes := #[] }, { accessFlags := 25, nameIndex := 24, descriptorIndex := 25, attributes := #[] }, { accessFlags := 25, nameIndex := 162, descriptorIndex := 25, attributes := #[] }, { accessFlags := 25, nameIndex := 187, descriptorIndex := 25, attributes := #[] }, { accessFlags := 26, nameIndex := 48, descriptorIndex := 25, attributes := #[] }, { accessFlags := 25, nameIndex := 277, descriptorIndex := 25, attributes := #[] }, { accessFlags := 25, nameIndex := 280, descriptorIndex := 25, attributes := #[] }, { accessFlags := 25, nameIndex := 282, descriptorIndex := 25, attributes := #[] }, { accessFlags := 25, nameIndex := 284, descriptorIndex := 25, attributes := #[] }, { accessFlags := 25, nameIndex := 286, descriptorIndex := 25, attributes := #[] }, { accessFlags := 25, nameIndex := 288, descriptorIndex := 25, attributes := #[] }, { accessFlags := 25, nameIndex := 290, descriptorIndex := 25, attributes := #[] }, { accessFlags := 25, nameIndex := 292, descriptorIndex := 25, attributes := #[] }, { accessFlags := 26, nameIndex := 108, descriptorIndex := 109, attributes := #[] }, { accessFlags := 25, nameIndex := 294, descriptorIndex := 25, attributes := #[] }])
  fields := #[{ name := "U", type := (.object "jdk/internal/misc/Unsafe"), accessFlags := 24, slot := 0, constantValue := 0 }, { name := "BIG_ENDIAN", type := .boolean, accessFlags := 26, slot := 1, constantValue := 0 }, { name := "LOG2_ARRAY_BOOLEAN_INDEX_SCALE", type := .int, accessFlags := 25, slot := 2, constantValue := 0 }, { name := "LOG2_ARRAY_BYTE_INDEX_SCALE", type := .int, accessFlags := 25, slot := 3, constantValue := 0 }, { name := "LOG2_ARRAY_CHAR_INDEX_SCALE", type := .int, accessFlags := 25, slot := 4, constantValue := 0 }, { name := "LOG2_ARRAY_SHORT_INDEX_SCALE", type := .int, accessFlags := 25, slot := 5, constantValue := 0 }, { name := "LOG2_ARRAY_INT_INDEX_SCALE", type := .int, accessFlags := 25, slot := 6, constantValue := 0 }, { name := "LOG2_ARRAY_LONG_INDEX_SCALE", type := .int, accessFlags := 25, slot := 7, constantValue := 0 }, { name := "LOG2_ARRAY_FLOAT_INDEX_SCALE", type := .int, accessFlags := 25, slot := 8, constantValue := 0 }, { name := "LOG2_ARRAY_DOUBLE_INDEX_SCALE", type := .int, accessFlags := 25, slot := 9, constantValue := 0 }, { name := "LOG2_BYTE_BIT_SIZE", type := .int, accessFlags := 26, slot := 10, constantValue := 0 }, { name := "T_BOOLEAN", type := .int, accessFlags := 25, slot := 11, constantValue := 0 }, { name := "T_CHAR", type := .int, accessFlags := 25, slot := 12, constantValue := 0 }, { name := "T_FLOAT", type := .int, accessFlags := 25, slot := 13, constantValue := 0 }, { name := "T_DOUBLE", type := .int, accessFlags := 25, slot := 14, constantValue := 0 }, { name := "T_BYTE", type := .int, accessFlags := 25, slot := 15, constantValue := 0 }, { name := "T_SHORT", type := .int, accessFlags := 25, slot := 16, constantValue := 0 }, { name := "T_INT", type := .int, accessFlags := 25, slot := 17, constantValue := 0 }, { name := "T_LONG", type := .int, accessFlags := 25, slot := 18, constantValue := 0 }, { name := "JLA", type := (.object "jdk/internal/access/JavaLangAccess"), accessFlags := 26, slot := 19, constantValue := 0 }, { name := "SOFT_MAX_ARRAY_LENGTH", type := .int, accessFlags := 25, slot := 20, constantValue := 0 }]
  methods := #[k12m0]
  instanceTypes := #[]
  staticTypes := #[(.object "jdk/internal/misc/Unsafe"), .boolean, .int, .int, .int, .int, .int, .int, .int, .int, .int, .int, .int, .int, .int, .int, .int, .int, .int, (.object "jdk/internal/access/JavaLangAccess"), .int]
  resolved := Array.replicate 378 none
  statics := none }

def pool13 : Array CpInfo := pool [(1, u "java/lang/Cloneable"), (0, .class_ 1), (0, u "java/lang/Object"), (0, .class_ 3)] 3

/-- java/lang/Cloneable -/
def k13 : Class := { plain "java/lang/Cloneable" (some 0) with
  accessFlags := 1537
  interfaces := #[]
  cf := some (fileOf pool13 2 #[] #[] 1537 4 #[] #[])
  fields := #[]
  methods := #[]
  instanceTypes := #[]
  staticTypes := #[]
  resolved := Array.replicate 8 none
  statics := none }

/-- the primitive byte -/
def k14 : Class := { plain "byte" none with kind := .primitive 'B', accessFlags := 0x411 }
/-- [B -/
def k15 : Class := { plain "[B" (some 0) with kind := .array 14 .byte, interfaces := #[13, 4], accessFlags := 1041 }

/-- the primitive int -/
def k16 : Class := { plain "int" none with kind := .primitive 'I', accessFlags := 0x411 }
/-- [I -/
def k17 : Class := { plain "[I" (some 0) with kind := .array 16 .int, interfaces := #[13, 4], accessFlags := 1041 }

def heap : Heap := #[{ cls := 8, slots := #[.long 0, .int 1, .null, .int 0, .null, .int 0, .int 0], vm := .statics 8 },
  { cls := 11, slots := #[.null, .null, .null], vm := .statics 11 }]
def classes : Array Class := #[k0, k1, k2, k3, k4, k5, k6, k7, k8, k9, k10, k11, k12, k13, k14, k15, k16, k17]
def interned : List (Array UInt16 × Addr) := []
def slotsUsed : Nat := 10
def theMethod : MethodId := ⟨1, 2⟩
def args0 : Array Value := #[.int 5, .int 7]
def aboutOver (below : List Frame) : State where
  vm := { classes := classes, interned := interned.toArray }
  heap := heap
  slotsUsed := slotsUsed
  threads := #[{ frames := .invoking theMethod args0 :: below }]
def below0 : List Frame := [.native { method := ⟨0, 0⟩, args := #[] }]
def about1 : State := aboutOver below0
def p0 : Program := .bare "" "" ""
def e0 : Env := launch0.env 0 0 0
theorem w_frames : about1.frames = Frame.invoking theMethod args0 :: below0 := rfl
set_option maxRecDepth 65536 in
theorem w_args : argsFit about1.vm theMethod args0 = true := by decide +kernel
set_option maxRecDepth 65536 in
theorem w_heap : heapFits about1 = true := by decide +kernel
set_option maxRecDepth 65536 in
theorem w_runnable : about1.curStatus? = some .runnable := by decide +kernel
set_option maxRecDepth 65536 in
theorem w_alone : about1.alone = true := by decide +kernel
set_option maxRecDepth 65536 in
theorem w_named : about1.methodNamed? x = some theMethod := by decide +kernel
set_option maxRecDepth 65536 in
theorem w_hears : about1.hears theMethod below0 = true := by decide +kernel
set_option maxRecDepth 65536 in
theorem w_ripe : about1.ripe theMethod args0 below0 = true := by decide +kernel
theorem w_running : about1.status = .running := rfl
set_option maxRecDepth 65536 in
theorem w_room : about1.hasRoom e0.platform room_1 = true :=
  launch0.hasRoom_least _ room_1 (by decide +kernel) (by decide +kernel) (by decide +kernel) (by decide +kernel) (by decide +kernel) (by decide +kernel)
theorem allAtoms_all (ts : List Jvm.Cond) (a : Array Jvm.Value) (st : Jvm.State) : (allAtoms ts).before a st = ts.all (fun c => c.before a st) := by
  induction ts with
  | nil => rfl
  | cons c t ih =>
    show (Jvm.Cond.and c (allAtoms t)).before a st = _
    rw [Jvm.Cond.before_and, ih, List.all_cons]
def words1 : List Jvm.Cond := Jvm.Cond.code x code maxLocals ret :: tables_1
/-- a 'code' word, met by the world's own term for the bytes: nothing is compared byte by byte -/
theorem code_word {y : MethodName} {bytes : ByteArray} {mx : Nat} {rt : Option FieldType} {a : Array Value} {s : State} {m : MethodId} {meth : Method} {c : Code} (h1 : s.methodNamed? y = some m) (h2 : s.vm.method? m = some meth) (h3 : meth.code = some c) (h4 : c.code = bytes)
    (h5 : (c.maxLocals == mx && c.exceptionTable.isEmpty && decide (c.maxStack ≤ mostOperands) && decide (meth.sig.returnType = rt) && !meth.locks && decide (parseMethodDescriptor y.desc = some meth.sig)) = true) : (Jvm.Cond.code y bytes mx rt).before a s = true := by
  simp only [Bool.and_eq_true, beq_iff_eq, Bool.not_eq_true', decide_eq_true_eq] at h5
  obtain ⟨⟨⟨⟨⟨g1, g2⟩, g3⟩, g4⟩, g5⟩, g6⟩ := h5
  simp [Cond.before, Cond.holds, Cond.value, h1, h2, h3, h4, g1, g2, g3, g4, g5, g6]
def isCode : Jvm.Cond → Bool
  | .code _ _ _ _ => true
  | _ => false
theorem all_split {L : List Jvm.Cond} {P : Jvm.Cond → Bool} (h1 : L.all (fun c => isCode c || P c) = true) (h2 : ∀ c ∈ L.filter isCode, P c = true) : L.all P = true := by
  refine List.all_eq_true.mpr fun c hc => ?_
  have h := List.all_eq_true.mp h1 c hc
  rcases Bool.eq_false_or_eq_true (isCode c) with hi | hi
  · exact h2 c (List.mem_filter.mpr ⟨hc, hi⟩)
  · simpa [hi] using h
set_option maxRecDepth 65536 in
theorem w_c0 : (Jvm.Cond.code x code maxLocals ret).before args0 about1 = true := code_word (m := ⟨1, 2⟩) (meth := k1m2) (c := k1c2) (by decide +kernel) rfl rfl rfl (by decide +kernel)
set_option maxRecDepth 65536 in
theorem w_c1 : (Jvm.Cond.code ({ cls := "com/example/cited_experts/citedexperts/EmailAddress", name := "isLocalChar", desc := "(I)Z" } : Jvm.MethodName) prog_10_method_3_code (1 : Nat) (Option.some Jvm.ClassFile.FieldType.boolean)).before args0 about1 = true := code_word (m := ⟨3, 0⟩) (meth := k3m0) (c := k3c0) (by decide +kernel) rfl rfl rfl (by decide +kernel)
set_option maxRecDepth 65536 in
theorem w_c2 : (Jvm.Cond.code ({ cls := "com/example/cited_experts/citedexperts/EmailAddress", name := "isAsciiLetterOrDigit", desc := "(I)Z" } : Jvm.MethodName) prog_10_method_6_code (1 : Nat) (Option.some Jvm.ClassFile.FieldType.boolean)).before args0 about1 = true := code_word (m := ⟨3, 2⟩) (meth := k3m2) (c := k3c2) (by decide +kernel) rfl rfl rfl (by decide +kernel)
set_option maxRecDepth 65536 in
theorem w_c3 : (Jvm.Cond.code ({ cls := "com/example/cited_experts/citedexperts/EmailAddress", name := "isAsciiLetter", desc := "(I)Z" } : Jvm.MethodName) prog_10_method_5_code (1 : Nat) (Option.some Jvm.ClassFile.FieldType.boolean)).before args0 about1 = true := code_word (m := ⟨3, 1⟩) (meth := k3m1) (c := k3c1) (by decide +kernel) rfl rfl rfl (by decide +kernel)
set_option maxRecDepth 65536 in
theorem w_c4 : (Jvm.Cond.code ({ cls := "java/lang/String", name := "indexOf", desc := "(I)I" } : Jvm.MethodName) jdk_42_method_79_code (2 : Nat) (Option.some Jvm.ClassFile.FieldType.int)).before args0 about1 = true := code_word (m := ⟨8, 2⟩) (meth := k8m2) (c := k8c2) (by decide +kernel) rfl rfl rfl (by decide +kernel)
set_option maxRecDepth 65536 in
theorem w_c5 : (Jvm.Cond.code ({ cls := "java/lang/String", name := "indexOf", desc := "(II)I" } : Jvm.MethodName) jdk_42_method_80_code (3 : Nat) (Option.some Jvm.ClassFile.FieldType.int)).before args0 about1 = true := code_word (m := ⟨8, 3⟩) (meth := k8m3) (c := k8c3) (by decide +kernel) rfl rfl rfl (by decide +kernel)
set_option maxRecDepth 65536 in
theorem w_c6 : (Jvm.Cond.code ({ cls := "java/lang/String", name := "isLatin1", desc := "()Z" } : Jvm.MethodName) jdk_42_method_154_code (1 : Nat) (Option.some Jvm.ClassFile.FieldType.boolean)).before args0 about1 = true := code_word (m := ⟨8, 5⟩) (meth := k8m5) (c := k8c5) (by decide +kernel) rfl rfl rfl (by decide +kernel)
set_option maxRecDepth 65536 in
theorem w_c7 : (Jvm.Cond.code ({ cls := "java/lang/String", name := "length", desc := "()I" } : Jvm.MethodName) jdk_42_method_54_code (1 : Nat) (Option.some Jvm.ClassFile.FieldType.int)).before args0 about1 = true := code_word (m := ⟨8, 1⟩) (meth := k8m1) (c := k8c1) (by decide +kernel) rfl rfl rfl (by decide +kernel)
set_option maxRecDepth 65536 in
theorem w_c8 : (Jvm.Cond.code ({ cls := "java/lang/String", name := "coder", desc := "()B" } : Jvm.MethodName) jdk_42_method_152_code (1 : Nat) (Option.some Jvm.ClassFile.FieldType.byte)).before args0 about1 = true := code_word (m := ⟨8, 4⟩) (meth := k8m4) (c := k8c4) (by decide +kernel) rfl rfl rfl (by decide +kernel)
set_option maxRecDepth 65536 in
theorem w_c9 : (Jvm.Cond.code ({ cls := "java/lang/StringLatin1", name := "indexOf", desc := "([BIII)I" } : Jvm.MethodName) jdk_43_method_22_code (4 : Nat) (Option.some Jvm.ClassFile.FieldType.int)).before args0 about1 = true := code_word (m := ⟨9, 2⟩) (meth := k9m2) (c := k9c2) (by decide +kernel) rfl rfl rfl (by decide +kernel)
set_option maxRecDepth 65536 in
theorem w_c10 : (Jvm.Cond.code ({ cls := "java/lang/StringLatin1", name := "canEncode", desc := "(I)Z" } : Jvm.MethodName) jdk_43_method_4_code (1 : Nat) (Option.some Jvm.ClassFile.FieldType.boolean)).before args0 about1 = true := code_word (m := ⟨9, 1⟩) (meth := k9m1) (c := k9c1) (by decide +kernel) rfl rfl rfl (by decide +kernel)
set_option maxRecDepth 65536 in
theorem w_c11 : (Jvm.Cond.code ({ cls := "java/lang/Math", name := "max", desc := "(II)I" } : Jvm.MethodName) jdk_29_method_65_code (2 : Nat) (Option.some Jvm.ClassFile.FieldType.int)).before args0 about1 = true := code_word (m := ⟨10, 1⟩) (meth := k10m1) (c := k10c1) (by decide +kernel) rfl rfl rfl (by decide +kernel)
set_option maxRecDepth 65536 in
theorem w_c12 : (Jvm.Cond.code ({ cls := "java/lang/Math", name := "min", desc := "(II)I" } : Jvm.MethodName) jdk_29_method_69_code (2 : Nat) (Option.some Jvm.ClassFile.FieldType.int)).before args0 about1 = true := code_word (m := ⟨10, 2⟩) (meth := k10m2) (c := k10c2) (by decide +kernel) rfl rfl rfl (by decide +kernel)
set_option maxRecDepth 65536 in
theorem w_c13 : (Jvm.Cond.code ({ cls := "java/lang/StringLatin1", name := "indexOfChar", desc := "([BIII)I" } : Jvm.MethodName) jdk_43_method_23_code (6 : Nat) (Option.some Jvm.ClassFile.FieldType.int)).before args0 about1 = true := code_word (m := ⟨9, 3⟩) (meth := k9m3) (c := k9c3) (by decide +kernel) rfl rfl rfl (by decide +kernel)
set_option maxRecDepth 65536 in
theorem w_c14 : (Jvm.Cond.code ({ cls := "com/example/cited_experts/citedexperts/EmailAddressIsLocalCharPinLaw", name := "expected", desc := "(I)Z" } : Jvm.MethodName) method_2_code (1 : Nat) (Option.some Jvm.ClassFile.FieldType.boolean)).before args0 about1 = true := code_word (m := ⟨1, 1⟩) (meth := k1m1) (c := k1c1) (by decide +kernel) rfl rfl rfl (by decide +kernel)
def codes1 : List Jvm.Cond := [Jvm.Cond.code x code maxLocals ret, Jvm.Cond.code ({ cls := "com/example/cited_experts/citedexperts/EmailAddress", name := "isLocalChar", desc := "(I)Z" } : Jvm.MethodName) prog_10_method_3_code (1 : Nat) (Option.some Jvm.ClassFile.FieldType.boolean), Jvm.Cond.code ({ cls := "com/example/cited_experts/citedexperts/EmailAddress", name := "isAsciiLetterOrDigit", desc := "(I)Z" } : Jvm.MethodName) prog_10_method_6_code (1 : Nat) (Option.some Jvm.ClassFile.FieldType.boolean), Jvm.Cond.code ({ cls := "com/example/cited_experts/citedexperts/EmailAddress", name := "isAsciiLetter", desc := "(I)Z" } : Jvm.MethodName) prog_10_method_5_code (1 : Nat) (Option.some Jvm.ClassFile.FieldType.boolean), Jvm.Cond.code ({ cls := "java/lang/String", name := "indexOf", desc := "(I)I" } : Jvm.MethodName) jdk_42_method_79_code (2 : Nat) (Option.some Jvm.ClassFile.FieldType.int), Jvm.Cond.code ({ cls := "java/lang/String", name := "indexOf", desc := "(II)I" } : Jvm.MethodName) jdk_42_method_80_code (3 : Nat) (Option.some Jvm.ClassFile.FieldType.int), Jvm.Cond.code ({ cls := "java/lang/String", name := "isLatin1", desc := "()Z" } : Jvm.MethodName) jdk_42_method_154_code (1 : Nat) (Option.some Jvm.ClassFile.FieldType.boolean), Jvm.Cond.code ({ cls := "java/lang/String", name := "length", desc := "()I" } : Jvm.MethodName) jdk_42_method_54_code (1 : Nat) (Option.some Jvm.ClassFile.FieldType.int), Jvm.Cond.code ({ cls := "java/lang/String", name := "coder", desc := "()B" } : Jvm.MethodName) jdk_42_method_152_code (1 : Nat) (Option.some Jvm.ClassFile.FieldType.byte), Jvm.Cond.code ({ cls := "java/lang/StringLatin1", name := "indexOf", desc := "([BIII)I" } : Jvm.MethodName) jdk_43_method_22_code (4 : Nat) (Option.some Jvm.ClassFile.FieldType.int), Jvm.Cond.code ({ cls := "java/lang/StringLatin1", name := "canEncode", desc := "(I)Z" } : Jvm.MethodName) jdk_43_method_4_code (1 : Nat) (Option.some Jvm.ClassFile.FieldType.boolean), Jvm.Cond.code ({ cls := "java/lang/Math", name := "max", desc := "(II)I" } : Jvm.MethodName) jdk_29_method_65_code (2 : Nat) (Option.some Jvm.ClassFile.FieldType.int), Jvm.Cond.code ({ cls := "java/lang/Math", name := "min", desc := "(II)I" } : Jvm.MethodName) jdk_29_method_69_code (2 : Nat) (Option.some Jvm.ClassFile.FieldType.int), Jvm.Cond.code ({ cls := "java/lang/StringLatin1", name := "indexOfChar", desc := "([BIII)I" } : Jvm.MethodName) jdk_43_method_23_code (6 : Nat) (Option.some Jvm.ClassFile.FieldType.int), Jvm.Cond.code ({ cls := "com/example/cited_experts/citedexperts/EmailAddressIsLocalCharPinLaw", name := "expected", desc := "(I)Z" } : Jvm.MethodName) method_2_code (1 : Nat) (Option.some Jvm.ClassFile.FieldType.boolean)]
set_option maxRecDepth 65536 in
theorem codes_eq : words1.filter isCode = codes1 := rfl
theorem w_codes : ∀ c ∈ words1.filter isCode, c.before args0 about1 = true := by
  rw [codes_eq]
  intro c hc
  simp only [codes1, List.mem_cons, List.not_mem_nil, or_false] at hc
  rcases hc with rfl | rfl | rfl | rfl | rfl | rfl | rfl | rfl | rfl | rfl | rfl | rfl | rfl | rfl | rfl
  · exact w_c0
  · exact w_c1
  · exact w_c2
  · exact w_c3
  · exact w_c4
  · exact w_c5
  · exact w_c6
  · exact w_c7
  · exact w_c8
  · exact w_c9
  · exact w_c10
  · exact w_c11
  · exact w_c12
  · exact w_c13
  · exact w_c14
set_option maxRecDepth 65536 in
theorem w_t1 : (words1.take 24).all (fun c => isCode c || c.before args0 about1) = true := by decide +kernel
set_option maxRecDepth 65536 in
theorem w_t2 : ((words1.drop 24).take 24).all (fun c => isCode c || c.before args0 about1) = true := by decide +kernel
set_option maxRecDepth 65536 in
theorem w_t3 : ((words1.drop 24).drop 24).all (fun c => isCode c || c.before args0 about1) = true := by decide +kernel
theorem w_tables : (allAtoms (Jvm.Cond.code x code maxLocals ret :: tables_1)).before args0 about1 = true := by
  rw [allAtoms_all]
  show words1.all (fun c => c.before args0 about1) = true
  refine all_split ?_ w_codes
  rw [← List.take_append_drop 24 words1, List.all_append, w_t1, ← List.take_append_drop 24 (words1.drop 24), List.all_append, w_t2, w_t3]
  rfl
set_option maxRecDepth 65536 in
theorem w_rest : rest_1_c.before args0 about1 = true := by decide +kernel
set_option maxRecDepth 65536 in
theorem w_case : (Jvm.Cond.and given_1 narrow_1).before args0 about1 = true := by decide +kernel
set_option maxRecDepth 65536 in
theorem w_consts : constsHeld consts_1 about1 := Jvm.Lit.constsHeldB_iff.mp (by decide +kernel)
theorem w_applies : (headSpec (Jvm.Cond.code x code maxLocals ret :: tables_1) room_1).applies x e0.platform about1 = true :=
  (Spec.applies_iff w_frames).mpr ⟨w_running, w_runnable, w_alone, w_named, w_hears, w_ripe, w_room, w_tables⟩
theorem atStart : AtStart classFile x code maxLocals ret World_1 tables_1 room_1 Calls_1 rest_1 Pre_1 launch0 p0 e0 about1 theMethod args0 below0 :=
  ⟨lists_1, trivial, launch0.admits_env _ _ _, launch0.least_env, fairChoices_fair.cas, fairChoices_fair.clock, w_frames, w_args, w_heap, w_applies, ⟨w_consts, trivial⟩, w_rest, w_case⟩
end start1
theorem witness_1 : WitnessClaimed_1 := ⟨start1.p0, start1.e0, start1.about1, start1.theMethod, start1.args0, start1.below0, start1.atStart⟩
end Jvm.Pilot.@@N@@
