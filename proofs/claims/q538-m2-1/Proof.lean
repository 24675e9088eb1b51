import JvmDerived
import JvmDerived.Pilot.@@N@@Statement
import JvmDerived.Pilot.@@N@@Code
set_option linter.unusedVariables false
set_option linter.unusedSimpArgs false
namespace Jvm.Pilot.@@N@@
open Jvm Jvm.ClassFile Sem Op Lib Jvm.Free Jvm.Stand Jvm.LawKit Jvm.RoadKit Bundle Jvm.Pilot.@@N@@.Jvm.D
/-! from A on the run returns, and F holds of the end -/
def own_Goes (p : Program) (e : Env) (below : List Frame) (F : State → Outcome → Prop) (A : State) : Prop := ∃ s₂ o, Steps p.tables e below A s₂ ∧ s₂.status = .running ∧ Ended s₂ below o ∧ F s₂ o
/-- the narrow end: Q of what it returned, of the heap and of the places written; the frame -/
def own_FN (s : State) (Q : Option Value → Heap → List Loc → Prop) (k n : Nat) : State → Outcome → Prop := fun s₂ o => ∃ v L, o = .returned v ∧ Q v s₂.heap L ∧ FrameEnd s o s₂ L k n
section OwnGoes
variable {p : Program} {l : Launch} {e : Env} {R : Room} {s : State} {m : MethodId} {args : Array Value} {below : List Frame} {meth : Method} {c : Code} {T : State} {locs : List Loc} {cells slots : Nat} {Q : Option Value → Heap → List Loc → Prop} {k n : Nat} {F : State → Outcome → Prop}
theorem own_to {A B : State} (h : ∀ t, Steps p.tables e below B t → Steps p.tables e below A t) (g : own_Goes p e below F B) : own_Goes p e below F A := by
  obtain ⟨s₂, o, h1, r⟩ := g
  exact ⟨s₂, o, h _ h1, r⟩
theorem own_tr {A B : State} (h : Steps p.tables e below A B) (g : own_Goes p e below F B) : own_Goes p e below F A := own_to (fun t q => h.trans q) g
/-! the shapes of a step: what lies on the stack and in the locals behind it -/
theorem own_tp {T' : State} {pc : Nat} {L : Array Slot} {S : List Value} (w : Value) (pc' : Nat) (h : ∀ t, Steps p.tables e below (T'.setTop (mkF m pc' L (w :: S))) t → Steps p.tables e below (T.setTop (mkF m pc L S)) t) (g : own_Goes p e below F (T'.setTop (mkF m pc' L (w :: S)))) : own_Goes p e below F (T.setTop (mkF m pc L S)) := own_to h g
theorem own_t1 {T' : State} {pc : Nat} {L : Array Slot} {S : List Value} {x : Value} (w : Value) (pc' : Nat) (h : ∀ t, Steps p.tables e below (T'.setTop (mkF m pc' L (w :: S))) t → Steps p.tables e below (T.setTop (mkF m pc L (x :: S))) t) (g : own_Goes p e below F (T'.setTop (mkF m pc' L (w :: S)))) : own_Goes p e below F (T.setTop (mkF m pc L (x :: S))) := own_to h g
theorem own_t2 {T' : State} {pc : Nat} {L : Array Slot} {S : List Value} {x y : Value} (w : Value) (pc' : Nat) (h : ∀ t, Steps p.tables e below (T'.setTop (mkF m pc' L (w :: S))) t → Steps p.tables e below (T.setTop (mkF m pc L (x :: y :: S))) t) (g : own_Goes p e below F (T'.setTop (mkF m pc' L (w :: S)))) : own_Goes p e below F (T.setTop (mkF m pc L (x :: y :: S))) := own_to h g
theorem own_d0 {T' : State} {pc : Nat} {L : Array Slot} {S : List Value} (pc' : Nat) (h : ∀ t, Steps p.tables e below (T'.setTop (mkF m pc' L S)) t → Steps p.tables e below (T.setTop (mkF m pc L S)) t) (g : own_Goes p e below F (T'.setTop (mkF m pc' L S))) : own_Goes p e below F (T.setTop (mkF m pc L S)) := own_to h g
theorem own_d1 {T' : State} {pc : Nat} {L : Array Slot} {S : List Value} {x : Value} (pc' : Nat) (h : ∀ t, Steps p.tables e below (T'.setTop (mkF m pc' L S)) t → Steps p.tables e below (T.setTop (mkF m pc L (x :: S))) t) (g : own_Goes p e below F (T'.setTop (mkF m pc' L S))) : own_Goes p e below F (T.setTop (mkF m pc L (x :: S))) := own_to h g
theorem own_d2 {T' : State} {pc : Nat} {L : Array Slot} {S : List Value} {x y : Value} (pc' : Nat) (h : ∀ t, Steps p.tables e below (T'.setTop (mkF m pc' L S)) t → Steps p.tables e below (T.setTop (mkF m pc L (x :: y :: S))) t) (g : own_Goes p e below F (T'.setTop (mkF m pc' L S))) : own_Goes p e below F (T.setTop (mkF m pc L (x :: y :: S))) := own_to h g
theorem own_cs {T' : State} {pc : Nat} {L : Array Slot} {S : List Value} (S' : List Value) (pc' : Nat) (h : ∀ t, Steps p.tables e below (T'.setTop (mkF m pc' L S')) t → Steps p.tables e below (T.setTop (mkF m pc L S)) t) (g : own_Goes p e below F (T'.setTop (mkF m pc' L S'))) : own_Goes p e below F (T.setTop (mkF m pc L S)) := own_to h g
theorem own_csR {T' : State} {pc : Nat} {L : Array Slot} {S : List Value} (S' : List Value) (pc' : Nat) (h : Steps p.tables e below (T.setTop (mkF m pc L S)) (T'.setTop (mkF m pc' L S'))) (g : own_Goes p e below F (T'.setTop (mkF m pc' L S'))) : own_Goes p e below F (T.setTop (mkF m pc L S)) := own_tr h g
theorem own_ls {T' : State} {pc : Nat} {L : Array Slot} {S : List Value} {x : Value} (L' : Array Slot) (pc' : Nat) (h : ∀ t, Steps p.tables e below (T'.setTop (mkF m pc' L' S)) t → Steps p.tables e below (T.setTop (mkF m pc L (x :: S))) t) (g : own_Goes p e below F (T'.setTop (mkF m pc' L' S))) : own_Goes p e below F (T.setTop (mkF m pc L (x :: S))) := own_to h g
theorem own_li {T' : State} {pc : Nat} {L : Array Slot} {S : List Value} (L' : Array Slot) (pc' : Nat) (h : ∀ t, Steps p.tables e below (T'.setTop (mkF m pc' L' S)) t → Steps p.tables e below (T.setTop (mkF m pc L S)) t) (g : own_Goes p e below F (T'.setTop (mkF m pc' L' S))) : own_Goes p e below F (T.setTop (mkF m pc L S)) := own_to h g
theorem own_start {A B : State} (h : ∀ t, Steps p.tables e below B t → Steps p.tables e below A t) (g : own_Goes p e below (own_FN s Q k n) B) :
    ∃ s₂ o, Steps p.tables e below A s₂ ∧ s₂.status = .running ∧ Ended s₂ below o ∧ ∃ v L, o = .returned v ∧ Q v s₂.heap L ∧ FrameEnd s o s₂ L k n := own_to h g
theorem own_retN (X : Stand p l e R s m args below meth c T locs cells slots) (hx : p.tables.exec = Jvm.exec) {pc : Nat} {Ls : Array Slot} {z : Int32} {t : FieldType} {rest : List Value} (hret : meth.sig.returnType = some t)
    (hd : decode c.code pc = .ok (.ireturn, 1)) (ht : t = .boolean ∨ t = .byte ∨ t = .char ∨ t = .short) (hlk : meth.locks = false) (hk : cells ≤ k) (hn : slots ≤ n) {h : Heap} (eT : T.heap = h) (hQ : Q (some (.int (nar t z))) h locs) :
    own_Goes p e below (own_FN s Q k n) (T.setTop (mkF m pc Ls (.int z :: rest))) := by
  obtain ⟨fs, hr, hrun, hended, hW, hsame⟩ := X.leave (v := some (.int (nar t z))) (fun q => by rw [hret] at q; cases q) hlk
  subst eT
  exact ⟨_, _, retN X hx hret ht hd hr, hrun, hended, _, _, rfl, hQ, ⟨_, rfl⟩, hW, hsame.mono hk hn⟩
theorem own_retI (X : Stand p l e R s m args below meth c T locs cells slots) (hx : p.tables.exec = Jvm.exec) {pc : Nat} {Ls : Array Slot} {z : Int32} {rest : List Value} (hret : meth.sig.returnType = some .int)
    (hd : decode c.code pc = .ok (.ireturn, 1)) (hlk : meth.locks = false) (hk : cells ≤ k) (hn : slots ≤ n) {h : Heap} (eT : T.heap = h) (hQ : Q (some (.int z)) h locs) :
    own_Goes p e below (own_FN s Q k n) (T.setTop (mkF m pc Ls (.int z :: rest))) := by
  obtain ⟨fs, hr, hrun, hended, hW, hsame⟩ := X.leave (v := some (.int z)) (fun q => by rw [hret] at q; cases q) hlk
  subst eT
  exact ⟨_, _, retOut X hx hret rfl (Or.inl ⟨rfl, Or.inl rfl, z, rfl⟩) hd hr, hrun, hended, _, _, rfl, hQ, ⟨_, rfl⟩, hW, hsame.mono hk hn⟩
theorem own_retJ (X : Stand p l e R s m args below meth c T locs cells slots) (hx : p.tables.exec = Jvm.exec) {pc : Nat} {Ls : Array Slot} {z : Int64} {rest : List Value} (hret : meth.sig.returnType = some .long)
    (hd : decode c.code pc = .ok (.lreturn, 1)) (hlk : meth.locks = false) (hk : cells ≤ k) (hn : slots ≤ n) {h : Heap} (eT : T.heap = h) (hQ : Q (some (.long z)) h locs) :
    own_Goes p e below (own_FN s Q k n) (T.setTop (mkF m pc Ls (.long z :: rest))) := by
  obtain ⟨fs, hr, hrun, hended, hW, hsame⟩ := X.leave (v := some (.long z)) (fun q => by rw [hret] at q; cases q) hlk
  subst eT
  exact ⟨_, _, retOut X hx hret rfl (Or.inr (Or.inl ⟨rfl, rfl, z, rfl⟩)) hd hr, hrun, hended, _, _, rfl, hQ, ⟨_, rfl⟩, hW, hsame.mono hk hn⟩
theorem own_nref {t : FieldType} {w : Value} (ht : t.isReference = true) : narrow t w = w := by cases t <;> first | rfl | (exact Bool.noConfusion ht)
theorem own_fits {t : FieldType} {w : Value} (ht : t.isReference = true) (hw : w.isRef = true) : fits t w = true := by
  cases t <;> first | (exact Bool.noConfusion ht) | (cases w <;> first | rfl | (exact Bool.noConfusion hw))
theorem own_retR (X : Stand p l e R s m args below meth c T locs cells slots) (hx : p.tables.exec = Jvm.exec) {pc : Nat} {Ls : Array Slot} {w : Value} {t : FieldType} {rest : List Value} (hret : meth.sig.returnType = some t)
    (hd : decode c.code pc = .ok (.areturn, 1)) (ht : t.isReference = true) (hw : w.isRef = true) (hlk : meth.locks = false) (hk : cells ≤ k) (hn : slots ≤ n) {h : Heap} (eT : T.heap = h) (hQ : Q (some w) h locs) :
    own_Goes p e below (own_FN s Q k n) (T.setTop (mkF m pc Ls (w :: rest))) := by
  obtain ⟨fs, hr, hrun, hended, hW, hsame⟩ := X.leave (v := some w) (fun q => by rw [hret] at q; cases q) hlk
  subst eT
  exact ⟨_, _, retOut X hx hret (own_nref ht) (Or.inr (Or.inr (Or.inr (Or.inr ⟨rfl, ht, hw⟩)))) hd hr, hrun, hended, _, _, rfl, hQ, ⟨_, rfl⟩, hW, hsame.mono hk hn⟩
theorem own_retV (X : Stand p l e R s m args below meth c T locs cells slots) (hx : p.tables.exec = Jvm.exec) {pc : Nat} {Ls : Array Slot} (hret : meth.sig.returnType = none)
    (hd : decode c.code pc = .ok (.return_, 1)) (hlk : meth.locks = false) (hk : cells ≤ k) (hn : slots ≤ n) {h : Heap} (eT : T.heap = h) (hQ : Q none h locs) :
    own_Goes p e below (own_FN s Q k n) (T.setTop (mkF m pc Ls [])) := by
  obtain ⟨fs, hr, hrun, hended, hW, hsame⟩ := X.leave (v := none) (fun _ => rfl) hlk
  subst eT
  exact ⟨_, _, X.returnOut hx hret hd hr, hrun, hended, _, _, rfl, hQ, ⟨_, rfl⟩, hW, hsame.mono hk hn⟩
end OwnGoes

/-- a body's contract, in lawnew's form -/
abbrev own_Met (l : Launch) (y : MethodName) (bytes : ByteArray) (ml : Nat) (rt : Option FieldType) (ws : List Jvm.Cond) (rm : Room) (Z : State) (as' : Array Value) (h0 : Heap) (Q : Option Value → Heap → List Loc → Prop) : Prop :=
  MetFree l y (head1 (Jvm.Cond.code y bytes ml rt :: ws) rm) (fun a U => a = as' ∧ Z.Warmed39 U.vm ∧ U.heap = h0) (fun _ _ _ _ _ => True) (fun _ U o U' => ∃ v L, o = .returned v ∧ Q v U'.heap L ∧ FrameEnd U o U' L rm.cells rm.slots)
theorem own_enter {l : Launch} {y : MethodName} {bytes : ByteArray} {ml : Nat} {rt : Option FieldType} {ws : List Jvm.Cond} {rm : Room} {Z : State} {as' : Array Value} {h0 : Heap} {Q : Option Value → Heap → List Loc → Prop} (L0 : Array Slot) (hp : plainFor y = true) (ef : ∀ m, entryFrame m as' ml = mkF m 0 L0 [])
    (go : ∀ (p : Program) (e : Env) (s : State) (m : MethodId) (below : List Frame) (meth : Method) (c : Code) (s₁ : State), p.tables.exec = Jvm.exec → c.code = bytes → c.maxLocals = ml → s.vm.findClass y.cls = some m.cls → meth.name = y.name → Z.Warmed39 s.vm → meth.sig.returnType = rt → meth.locks = false → Stand p l e rm s m as' below meth c s₁ [] 0 0 → s₁.heap = h0 → own_Goes p e below (own_FN s Q rm.cells rm.slots) (s₁.setTop (mkF m 0 L0 []))) :
    own_Met l y bytes ml rt ws rm Z as' h0 Q := by
  refine MetFree.of_bodySF hp hisR ?_
  intro p e s m args below meth c s₁ Bd hml0 hP hK
  obtain ⟨rfl, hZ, hh⟩ := hP
  have g := go p e s m below meth c s₁ Bd.exec Bd.bytes hml0 (findClass_of_methodNamed Bd.named) (name_of_methodNamed Bd.named Bd.method).1 hZ Bd.returns Bd.notSynchronized (Stand.of_body Bd) (by rw [← hh, Bd.state]; rfl)
  exact own_start (fun t k => castTop (ef m) k) g

theorem own_cat1 {x : Value} (h : x.isRef = true) : x.category = 1 := by cases x <;> first | rfl | exact Bool.noConfusion h
theorem own_catI (z : Int32) : (Value.int z).category = 1 := rfl
theorem own_catJ (z : Int64) : (Value.long z).category = 2 := rfl
theorem own_catR (z : Addr) : (Value.ref z).category = 1 := rfl
/-! the wide end: String constants may have been loaded meanwhile -/
def own_FW (Z : State) (EL : List (String × Nat)) (s : State) (h0 : Heap) (Q : Option Value → Heap → List Loc → Prop) (k n : Nat) : State → Outcome → Prop :=
  fun s₂ o => ∃ v L, o = .returned v ∧ Q v s₂.heap L ∧ CHr Z EL s.vm h0 s₂.vm s₂.heap ∧ ReturnedEndW s o s₂ L k n
/-- what a wide walk bears along, at the tables vm0 and the heap h -/
def own_Wd (Z : State) (a0 : Array Value) (EL : List (String × Nat)) (s : State) (h0 : Heap) (vm0 : Vm) (h : Heap) : Prop :=
  ∃ k0, s.Since vm0 k0 ∧ k0 ≤ h.size ∧ Z.Warmed39 vm0 ∧ EW Z a0 EL ∧ CHr Z EL s.vm h0 vm0 h
section OwnWide
variable {p : Program} {l : Launch} {e : Env} {R : Room} {s : State} {m : MethodId} {args : Array Value} {below : List Frame} {meth : Method} {c : Code} {T : State} {locs : List Loc} {cells slots : Nat} {Q : Option Value → Heap → List Loc → Prop} {k n : Nat}
variable {Z : State} {a0 : Array Value} {EL : List (String × Nat)} {h0 h h' : Heap} {vm0 vm1 : Vm}
theorem own_Wd.start (hZ : Z.Warmed39 s.vm) (hE : EW Z a0 EL) (hC : CHv Z EL s.vm h0) : own_Wd Z a0 EL s h0 s.vm h0 := ⟨0, (State.WarmedH.refl s).since 0, Nat.zero_le _, hZ, hE, CHr.refl hC⟩
theorem own_Wd.hZ (W : own_Wd Z a0 EL s h0 vm0 h) : Z.Warmed39 vm0 := by obtain ⟨_, _, _, q, _⟩ := W; exact q
theorem own_Wd.hE (W : own_Wd Z a0 EL s h0 vm0 h) : EW Z a0 EL := by obtain ⟨_, _, _, _, q, _⟩ := W; exact q
theorem own_Wd.chr (W : own_Wd Z a0 EL s h0 vm0 h) : CHr Z EL s.vm h0 vm0 h := by obtain ⟨_, _, _, _, _, q⟩ := W; exact q
theorem own_Wd.chv (W : own_Wd Z a0 EL s h0 vm0 h) : CHv Z EL vm0 h := W.chr.1
theorem own_Wd.ext (W : own_Wd Z a0 EL s h0 vm0 h) (E : Ext h h') : own_Wd Z a0 EL s h0 vm0 h' := by
  obtain ⟨k0, a, b, c, d, q⟩ := W
  exact ⟨k0, a, Nat.le_trans b E.1, c, d, q.trans (CHr.ext E q.1)⟩
theorem own_Wd.wr {a : Addr} {sl : Nat} {v : Value} (W : own_Wd Z a0 EL s h0 vm0 h) (w : Wr h h' a sl v) (S : Safe Z EL vm0 h a) : own_Wd Z a0 EL s h0 vm0 h' := by
  obtain ⟨k0, a, b, c, d, q⟩ := W
  exact ⟨k0, a, Nat.le_trans b (Nat.le_of_eq w.size.symm), c, d, q.trans (CHr.wr w S q.1)⟩
theorem own_Wd.keep {ws : List Addr} (W : own_Wd Z a0 EL s h0 vm0 h) (K : Keep h h' ws) (hs : ∀ x ∈ ws, Safe Z EL vm0 h x) : own_Wd Z a0 EL s h0 vm0 h' := by
  obtain ⟨k0, a, b, c, d, q⟩ := W
  exact ⟨k0, a, Nat.le_trans b K.1, c, d, q.trans (CHr.keep K hs q.1)⟩
theorem own_Wd.call {U : State} (W : own_Wd Z a0 EL s h0 vm0 h) (hS : (s.setVm vm0).Since U.vm U.heap.size) (C : CHr Z EL vm0 h U.vm U.heap) : own_Wd Z a0 EL s h0 U.vm U.heap := by
  obtain ⟨k0, a, b, c, d, q⟩ := W
  exact ⟨_, a.trans hS (Nat.le_trans b C.2.1), Nat.le_refl _, State.Warmed39.trans (t := s.setVm vm0) c hS.1, d, q.trans C⟩
theorem own_since_own {own : String} {U : State} {c : ClassId} (hS : (s.setVm vm0).Since U.vm n) (hown : vm0.findClass own = some c) : U.vm.findClass own = some c := (hS.1.alike.findClass _ _).trans hown
theorem own_startW {A B : State} (hh : s.heap = h0) (g1 : ∀ t, Steps p.tables e below B t → Steps p.tables e below A t) (g : own_Goes p e below (own_FW Z EL s h0 Q k n) B) :
    ∃ s₂ o, Steps p.tables e below A s₂ ∧ s₂.status = .running ∧ Ended s₂ below o ∧ ∃ v L, o = .returned v ∧ Q v s₂.heap L ∧ CHr Z EL s.vm s.heap s₂.vm s₂.heap ∧ ReturnedEndW s o s₂ L k n := by
  subst hh; exact own_to g1 g
theorem own_REW {s t : State} {o : Outcome} {L : List Loc} {k k' n n' : Nat} (h : ReturnedEndW s o t L k n) (hk : k ≤ k') (hn : n ≤ n') : ReturnedEndW s o t L k' n' := ⟨h.1, h.2.1, h.2.2.1, h.2.2.2.mono hk hn⟩
theorem own_leaveW (X : Stand p l e R (s.setVm vm0) m args below meth c T locs cells slots) (eT : T.heap = h) (W : own_Wd Z a0 EL s h0 vm0 h) (hlk : meth.locks = false) (hk : cells ≤ k) (hn : slots ≤ n) {v : Option Value} (hv : meth.sig.returnType = none → v = none) (hQ : Q v h locs) :
    ∃ fs, (∀ (f : JFrame) (acts : List Action), f.method = m → f.locked = none → f.entered = [] → (doReturn e (T.setTop f) acts v).1 = T.setFrames fs) ∧ (T.setFrames fs).status = .running ∧ Ended (T.setFrames fs) below (.returned v) ∧ own_FW Z EL s h0 Q k n (T.setFrames fs) (.returned v) := by
  subst eT
  obtain ⟨k0, hS, hk0, hZ, hE, hC⟩ := W
  obtain ⟨fs, h1, h2, h3, h4⟩ := X.leaveW hS hk0 hv hlk
  exact ⟨fs, h1, h2, h3, v, locs, rfl, hQ, hC.trans (show CHr Z EL vm0 T.heap T.vm T.heap from CHv.at X hZ hE hC.1), own_REW h4 hk hn⟩
theorem own_retNW (X : Stand p l e R (s.setVm vm0) m args below meth c T locs cells slots) (hx : p.tables.exec = Jvm.exec) {pc : Nat} {Ls : Array Slot} {z : Int32} {t : FieldType} {rest : List Value} (hret : meth.sig.returnType = some t)
    (hd : decode c.code pc = .ok (.ireturn, 1)) (ht : t = .boolean ∨ t = .byte ∨ t = .char ∨ t = .short) (hlk : meth.locks = false) (hk : cells ≤ k) (hn : slots ≤ n) (eT : T.heap = h) (W : own_Wd Z a0 EL s h0 vm0 h) (hQ : Q (some (.int (nar t z))) h locs) :
    own_Goes p e below (own_FW Z EL s h0 Q k n) (T.setTop (mkF m pc Ls (.int z :: rest))) := by
  obtain ⟨fs, hr, hrun, hended, hF⟩ := own_leaveW X eT W hlk hk hn (v := some (.int (nar t z))) (fun q => by rw [hret] at q; cases q) hQ
  exact ⟨_, _, retN X hx hret ht hd hr, hrun, hended, hF⟩
theorem own_retIW (X : Stand p l e R (s.setVm vm0) m args below meth c T locs cells slots) (hx : p.tables.exec = Jvm.exec) {pc : Nat} {Ls : Array Slot} {z : Int32} {rest : List Value} (hret : meth.sig.returnType = some .int)
    (hd : decode c.code pc = .ok (.ireturn, 1)) (hlk : meth.locks = false) (hk : cells ≤ k) (hn : slots ≤ n) (eT : T.heap = h) (W : own_Wd Z a0 EL s h0 vm0 h) (hQ : Q (some (.int z)) h locs) :
    own_Goes p e below (own_FW Z EL s h0 Q k n) (T.setTop (mkF m pc Ls (.int z :: rest))) := by
  obtain ⟨fs, hr, hrun, hended, hF⟩ := own_leaveW X eT W hlk hk hn (v := some (.int z)) (fun q => by rw [hret] at q; cases q) hQ
  exact ⟨_, _, retOut X hx hret rfl (Or.inl ⟨rfl, Or.inl rfl, z, rfl⟩) hd hr, hrun, hended, hF⟩
theorem own_retRW (X : Stand p l e R (s.setVm vm0) m args below meth c T locs cells slots) (hx : p.tables.exec = Jvm.exec) {pc : Nat} {Ls : Array Slot} {w : Value} {t : FieldType} {rest : List Value} (hret : meth.sig.returnType = some t)
    (hd : decode c.code pc = .ok (.areturn, 1)) (ht : t.isReference = true) (hw : w.isRef = true) (hlk : meth.locks = false) (hk : cells ≤ k) (hn : slots ≤ n) (eT : T.heap = h) (W : own_Wd Z a0 EL s h0 vm0 h) (hQ : Q (some w) h locs) :
    own_Goes p e below (own_FW Z EL s h0 Q k n) (T.setTop (mkF m pc Ls (w :: rest))) := by
  obtain ⟨fs, hr, hrun, hended, hF⟩ := own_leaveW X eT W hlk hk hn (v := some w) (fun q => by rw [hret] at q; cases q) hQ
  exact ⟨_, _, retOut X hx hret (own_nref ht) (Or.inr (Or.inr (Or.inr (Or.inr ⟨rfl, ht, hw⟩)))) hd hr, hrun, hended, hF⟩
theorem own_retVW (X : Stand p l e R (s.setVm vm0) m args below meth c T locs cells slots) (hx : p.tables.exec = Jvm.exec) {pc : Nat} {Ls : Array Slot} (hret : meth.sig.returnType = none)
    (hd : decode c.code pc = .ok (.return_, 1)) (hlk : meth.locks = false) (hk : cells ≤ k) (hn : slots ≤ n) (eT : T.heap = h) (W : own_Wd Z a0 EL s h0 vm0 h) (hQ : Q none h locs) :
    own_Goes p e below (own_FW Z EL s h0 Q k n) (T.setTop (mkF m pc Ls [])) := by
  obtain ⟨fs, hr, hrun, hended, hF⟩ := own_leaveW X eT W hlk hk hn (v := none) (fun _ => rfl) hQ
  exact ⟨_, _, X.returnOut hx hret hd hr, hrun, hended, hF⟩
/-- ldc of a constant whose text is known -/
theorem own_ldc (X : Stand p l e R (s.setVm vm0) m args below meth c T locs cells slots) (hx : p.tables.exec = Jvm.exec) (W : own_Wd Z a0 EL s h0 vm0 h) {own text : String} {index : Nat} (hown : vm0.findClass own = some m.cls) (w : (Cond.stringLink own index text).before a0 Z = true) (wS : ∀ a ∈ Bundle.stringAtoms, a.before a0 Z = true)
    (eT : T.heap = h) (hmem : (own, index) ∈ EL) {vs : List Value} {z : Int32} (ht : (∀ c ∈ text.toList, c.toNat < 256) ∧ text.toList.map (fun c => Value.int (Jvm.Lit.byteI c.toNat.toUInt16)) = vs) (hz : ¬ z < 0) (hl : z.toNatClampNeg = vs.length)
    {g : JFrame} (hg : g.method = m) (hd : decode c.code g.pc = .ok (.ldc index, 2)) {n : Nat} (hn : 4 * text.toList.length ≤ n) (hbig : n ≤ 536870912) (hc : cells + 2 ≤ R.cells) (hl' : slots + (n + 4) ≤ R.slots) :
    ∃ (a : Addr) (T' : State) (h' : Heap) (b : Addr) (k : ClassId), Stand p l e R (s.setVm T'.vm) m args below meth c T' locs (cells + 2) (slots + (n + 4)) ∧ T'.heap = h' ∧ Ext h h' ∧ own_Wd Z a0 EL s h0 T'.vm h' ∧ T'.vm.findClass own = some m.cls ∧
      Exa Z h' a "java/lang/String" ∧ Fld Z h' a "java/lang/String" "coder" "B" (.int 0) ∧ Fld Z h' a "java/lang/String" "value" "[B" (.ref b) ∧ Arv Z h' b k .byte z vs (.int 0) ∧ CHr Z EL vm0 h T'.vm h' ∧ (∀ x, Safe Z EL T'.vm h' x → x ≠ a ∧ x ≠ b) ∧
      ∀ target, Steps p.tables e below (T'.setTop { g with pc := g.pc + 2, stack := .ref a :: g.stack }) target → Steps p.tables e below (T.setTop g) target := by
  obtain ⟨k0, hS, hk0, hZ, hE, hC⟩ := W
  obtain ⟨a, T', h', k1, b, k, r1, r2, r3, r4, r5, r6, r7, r8, r9, r10, r11, -, -, r14, -, r16, r17⟩ := ldcCH X hx hZ hown w wS eT hS hk0 hE hmem hC.1 ht hz hl hg hd hn hbig hc hl'
  exact ⟨a, T', h', b, k, r1, r2, r3, ⟨k1, r4, r5, r6, hE, hC.trans r14⟩, r7, r8, r9, r10, r11, r14, r16, r17⟩
/-- ldc of a constant whose text isn't asked -/
theorem own_ldcO (X : Stand p l e R (s.setVm vm0) m args below meth c T locs cells slots) (hx : p.tables.exec = Jvm.exec) (W : own_Wd Z a0 EL s h0 vm0 h) {own text : String} {index : Nat} (hown : vm0.findClass own = some m.cls) (w : (Cond.stringLink own index text).before a0 Z = true) (wS : ∀ a ∈ Bundle.stringAtoms, a.before a0 Z = true)
    (eT : T.heap = h) {g : JFrame} (hg : g.method = m) (hd : decode c.code g.pc = .ok (.ldc index, 2)) {n : Nat} (hn : 4 * text.toList.length ≤ n) (hbig : n ≤ 536870912) (hc : cells + 2 ≤ R.cells) (hl' : slots + (n + 4) ≤ R.slots) :
    ∃ (a : Addr) (T' : State) (h' : Heap), Stand p l e R (s.setVm T'.vm) m args below meth c T' locs (cells + 2) (slots + (n + 4)) ∧ T'.heap = h' ∧ Ext h h' ∧ own_Wd Z a0 EL s h0 T'.vm h' ∧ T'.vm.findClass own = some m.cls ∧ CHr Z EL vm0 h T'.vm h' ∧
      ∀ target, Steps p.tables e below (T'.setTop { g with pc := g.pc + 2, stack := .ref a :: g.stack }) target → Steps p.tables e below (T.setTop g) target := by
  obtain ⟨k0, hS, hk0, hZ, hE, hC⟩ := W
  obtain ⟨a, T', h', k1, r1, r2, r3, r4, r5, r6, r7, r8, -, r9⟩ := ldcOH X hx hZ hown w wS eT hS hk0 hE hC.1 hg hd hn hbig hc hl'
  exact ⟨a, T', h', r1, r2, r3, ⟨k1, r4, r5, r6, hE, hC.trans r8⟩, r7, r8, r9⟩
end OwnWide
/-- a body's contract where String constants may be loaded -/
abbrev own_MetW (EL : List (String × Nat)) (l : Launch) (y : MethodName) (bytes : ByteArray) (ml : Nat) (rt : Option FieldType) (ws : List Jvm.Cond) (rm : Room) (Z : State) (as' : Array Value) (h0 : Heap) (Q : Option Value → Heap → List Loc → Prop) : Prop :=
  MetFree l y (head1 (Jvm.Cond.code y bytes ml rt :: ws) rm) (fun a U => a = as' ∧ Z.Warmed39 U.vm ∧ U.heap = h0 ∧ CHv Z EL U.vm h0) (fun _ _ _ _ _ => True) (fun _ U o U' => ∃ v L, o = .returned v ∧ Q v U'.heap L ∧ CHr Z EL U.vm U.heap U'.vm U'.heap ∧ ReturnedEndW U o U' L rm.cells rm.slots)
theorem own_enterW {EL : List (String × Nat)} {l : Launch} {y : MethodName} {bytes : ByteArray} {ml : Nat} {rt : Option FieldType} {ws : List Jvm.Cond} {rm : Room} {Z : State} {as' : Array Value} {h0 : Heap} {Q : Option Value → Heap → List Loc → Prop} (L0 : Array Slot) (hp : plainFor y = true) (ef : ∀ m, entryFrame m as' ml = mkF m 0 L0 []) {a0 : Array Value} (hE : EW Z a0 EL)
    (go : ∀ (p : Program) (e : Env) (s : State) (m : MethodId) (below : List Frame) (meth : Method) (c : Code) (s₁ : State), p.tables.exec = Jvm.exec → c.code = bytes → c.maxLocals = ml → (s.setVm s.vm).vm.findClass y.cls = some m.cls → meth.name = y.name → Z.Warmed39 (s.setVm s.vm).vm → meth.sig.returnType = rt → meth.locks = false → Stand p l e rm (s.setVm s.vm) m as' below meth c s₁ [] 0 0 → s₁.heap = h0 → own_Wd Z a0 EL s h0 s.vm h0 → own_Goes p e below (own_FW Z EL s h0 Q rm.cells rm.slots) (s₁.setTop (mkF m 0 L0 []))) :
    own_MetW EL l y bytes ml rt ws rm Z as' h0 Q := by
  refine MetFree.of_bodySF hp hisR ?_
  intro p e s m args below meth c s₁ Bd hml0 hP hK
  obtain ⟨rfl, hZ, hh, hC⟩ := hP
  have g := go p e s m below meth c s₁ Bd.exec Bd.bytes hml0 (findClass_of_methodNamed Bd.named) (name_of_methodNamed Bd.named Bd.method).1 hZ Bd.returns Bd.notSynchronized (Stand.of_body Bd) (by rw [← hh, Bd.state]; rfl) (own_Wd.start hZ hE hC)
  exact own_startW hh (fun t k => castTop (ef m) k) g

def Q0 (h0 : Heap) (n0 : Nat) (v : Option Value) (h : Heap) (L : List Loc) : Prop := v = some (.int 1) ∧ Fr n0 L

theorem own_nb (x : Int32) : nar .byte (x.toInt8.toInt32) = x.toInt8.toInt32 := by
  show x.toInt8.toInt32.toInt8.toInt32 = _
  have a := c_i2b x
  have b := c_i2b x.toInt8.toInt32
  rw [← Int32.toInt_inj]
  omega
theorem own_nb2 (x : Int32) : x.toInt8.toInt32.toInt8.toInt32 = x.toInt8.toInt32 := own_nb x
theorem own_i2c {x : Int32} (h : 0 ≤ x.toInt ∧ x.toInt ≤ 65535) : x.toUInt32.toUInt16.toUInt32.toInt32 = x := by
  have q := c_i2c x
  rw [← Int32.toInt_inj]
  omega
theorem own_narc {x : Int32} (h : 0 ≤ x.toInt ∧ x.toInt ≤ 65535) : nar .char x = x := own_i2c h
theorem own_up {x : Int32} (h : 0 ≤ x.toInt ∧ x.toInt ≤ 255) : 0 ≤ x.toInt ∧ x.toInt ≤ 65535 := by omega

theorem own_shr0 (z : Int32) : z >>> ((0 : Int32) &&& 31) = z := by
  rw [← Int32.toInt_inj, c_ishr z 0 0 (by decide)]
  simp

theorem own_wS {a0 : Array Value} {Z : State} (hw : ∀ d ∈ tables_1, d.before a0 Z = true) : ∀ a ∈ Bundle.stringAtoms, a.before a0 Z = true := fun d hd => hw d ((by decide +kernel : ∀ d ∈ Bundle.stringAtoms, d ∈ tables_1) d hd)
theorem own_safeV {Z : State} {EL : List (String × Nat)} {vm : Vm} {h : Heap} {x : Addr} {k : ClassId} {ty : FieldType} {z : Int32} {vs : List Value} {d : Value} (hal : Z.vm.Alike vm) (V : Arv Z h x k ty z vs d) (ht : ty ≠ .byte) : Safe Z EL vm h x := by
  obtain ⟨c, A, -⟩ := V
  exact Safe.arr hal A ht
def own_EL : List (String × Nat) := [("java/lang/String", 7)]

theorem own_safe0 {Z : State} {EL : List (String × Nat)} {vm : Vm} {h : Heap} {x : Addr} (hal : Z.vm.Alike vm) (E : Exa Z h x "java/lang/String") (F : Fld Z h x "java/lang/String" "value" "[B" .null) : Safe Z EL vm h x := fun B => by
  obtain ⟨cell, k, e1, e2, e3, -, -⟩ := E
  obtain ⟨cell', cf, k', i, f, f1, f2, f3, f4, f5, f6, f7⟩ := F
  cases e1.symm.trans f1
  obtain ⟨p, -, u, a, -, q, -, G, rfl | rfl⟩ := B
  · cases (show h[q.sa]? = some q.sC from G.ha).symm.trans e1
    obtain ⟨cS, ⟨⟨-, -, -, ⟨c1, k1, i1, g1, -⟩, -, -, -, v1, -⟩, -⟩, -⟩ := G
    obtain ⟨k3, e4, -⟩ := State.fieldFound?_setVm (s := Z) hal f2
    have e5 := (show (Wst Z vm h).fieldFound? _ _ _ = _ from e4).symm.trans g1
    simp only [Option.some.injEq, Prod.mk.injEq] at e5
    rw [← e5.2.2.2] at v1
    have e6 := f7.symm.trans v1
    cases e6
  · cases (show h[q.sd]? = some q.SA from G.hd).symm.trans e1
    obtain ⟨cS, -, -, g, -⟩ := G
    rw [show (Wst Z vm h).vm = vm from rfl, hal.findClass] at g
    obtain ⟨k1, q1, q2⟩ := Vm.findClass_spec g
    obtain ⟨k2, q3, q4⟩ := Vm.findClass_spec e2
    cases q1.symm.trans q3
    exact absurd (q2.symm.trans q4) (by decide)

abbrev own_b0 (c : Int32) : Int32 := (c >>> ((0 : Int32) &&& 31)).toInt8.toInt32
abbrev own_b1 (c : Int32) : Int32 := (c >>> ((8 : Int32) &&& 31)).toInt8.toInt32
abbrev own_lo (c : Int32) : Int32 := c.toInt8.toInt32
def own_lows : List Int32 → List Value
  | [] => []
  | c :: cs => .int (own_lo c) :: own_lows cs
def own_wide : List Int32 → List Value
  | [] => []
  | c :: cs => .int (own_b0 c) :: .int (own_b1 c) :: own_wide cs
def own_Cod (cs : List Int32) (cd N : Int32) (vs : List Value) : Prop := (cd = 0 ∧ N = Int32.ofNat cs.length ∧ vs = own_lows cs ∧ ∀ c ∈ cs, ¬ (255 : Int32) < c) ∨ (cd = 1 ∧ N = Int32.ofNat (2 * cs.length) ∧ vs = own_wide cs ∧ ∃ c ∈ cs, (255 : Int32) < c)
/-- the String at a bears the signs cs -/
def own_S (Z : State) (h : Heap) (a : Addr) (cs : List Int32) : Prop := ∃ (t : Addr) (kb : ClassId) (cd N : Int32) (vs : List Value), Exa Z h a "java/lang/String" ∧ Fld Z h a "java/lang/String" "value" "[B" (.ref t) ∧ Fld Z h a "java/lang/String" "coder" "B" (.int cd) ∧ Arv Z h t kb .byte N vs (.int (0 : Int32)) ∧ own_Cod cs cd N vs
theorem own_S.ext {Z : State} {h h' : Heap} {a : Addr} {cs : List Int32} (F : own_S Z h a cs) (E : Ext h h') : own_S Z h' a cs := by
  obtain ⟨t, kb, cd, N, vs, f1, f2, f3, f4, f5⟩ := F
  exact ⟨t, kb, cd, N, vs, f1.ext E, f2.ext E, f3.ext E, f4.ext E, f5⟩
theorem own_shr8 (c : Int32) (h : 0 ≤ c.toInt ∧ c.toInt ≤ 65535) : (c >>> ((8 : Int32) &&& 31)).toInt = c.toInt / 256 := c_ishr c 8 8 (by decide)
theorem own_and255 (x : Int32) : (x &&& 255).toInt = x.toInt % 256 := c_mask x 255 8 (by decide) (by decide)
theorem own_gc (c : Int32) (h : 0 ≤ c.toInt ∧ c.toInt ≤ 65535) : (((own_b0 c &&& (255 : Int32)) <<< ((0 : Int32) &&& 31)) ||| ((own_b1 c &&& (255 : Int32)) <<< ((8 : Int32) &&& 31))).toUInt32.toUInt16.toUInt32.toInt32 = c := by
  have e0 : c >>> ((0 : Int32) &&& 31) = c := own_shr0 c
  have a0 := c_i2b c
  have a1 := c_i2b (c >>> ((8 : Int32) &&& 31))
  have s8 := own_shr8 c h
  have m0 := own_and255 (own_b0 c)
  have m1 := own_and255 (own_b1 c)
  have l0 : ((own_b0 c &&& (255 : Int32)) <<< ((0 : Int32) &&& 31)).toInt = c.toInt % 256 := by
    have q := c_ishl (own_b0 c &&& (255 : Int32)) 0 0 (by decide)
    have r := rng32 ((own_b0 c &&& (255 : Int32)) <<< ((0 : Int32) &&& 31))
    have z : (own_b0 c).toInt = c.toInt8.toInt32.toInt := by rw [show own_b0 c = c.toInt8.toInt32 from by show (c >>> ((0 : Int32) &&& 31)).toInt8.toInt32 = _; rw [e0]]
    simp only [Nat.pow_zero] at q
    omega
  have l1 : ((own_b1 c &&& (255 : Int32)) <<< ((8 : Int32) &&& 31)).toInt = (c.toInt / 256) * 256 := by
    have q := c_ishl (own_b1 c &&& (255 : Int32)) 8 8 (by decide)
    have r := rng32 ((own_b1 c &&& (255 : Int32)) <<< ((8 : Int32) &&& 31))
    have z : (own_b1 c).toInt = (c >>> ((8 : Int32) &&& 31)).toInt8.toInt32.toInt := rfl
    have p : ((2 ^ 8 : Nat) : Int) = 256 := rfl
    rw [p] at q
    omega
  have o := c_or ((own_b1 c &&& (255 : Int32)) <<< ((8 : Int32) &&& 31)) ((own_b0 c &&& (255 : Int32)) <<< ((0 : Int32) &&& 31)) 8 (by decide) 256 rfl (by omega) (by omega) (by omega)
  have r := rng32 (((own_b0 c &&& (255 : Int32)) <<< ((0 : Int32) &&& 31)) ||| ((own_b1 c &&& (255 : Int32)) <<< ((8 : Int32) &&& 31)))
  have e : (((own_b0 c &&& (255 : Int32)) <<< ((0 : Int32) &&& 31)) ||| ((own_b1 c &&& (255 : Int32)) <<< ((8 : Int32) &&& 31))).toInt = c.toInt := by
    rw [Int32.or_comm]
    have r2 := rng32 (((own_b1 c &&& (255 : Int32)) <<< ((8 : Int32) &&& 31)) ||| ((own_b0 c &&& (255 : Int32)) <<< ((0 : Int32) &&& 31)))
    omega
  have q := c_i2c (((own_b0 c &&& (255 : Int32)) <<< ((0 : Int32) &&& 31)) ||| ((own_b1 c &&& (255 : Int32)) <<< ((8 : Int32) &&& 31)))
  rw [← Int32.toInt_inj]
  omega
theorem own_lo_inj {a b : Int32} (ha : 0 ≤ a.toInt ∧ a.toInt ≤ 255) (hb : 0 ≤ b.toInt ∧ b.toInt ≤ 255) : a.toInt8.toInt32 = b.toInt8.toInt32 ↔ a = b := by
  have p := c_i2b a
  have q := c_i2b b
  simp only [← Int32.toInt_inj]
  omega
theorem own_le255 {c : Int32} (h : ¬ (255 : Int32) < c) (hc : 0 ≤ c.toInt ∧ c.toInt ≤ 65535) : 0 ≤ c.toInt ∧ c.toInt ≤ 255 := by
  have e : (255 : Int32).toInt = 255 := rfl
  rw [Int32.lt_iff_toInt_lt, e] at h
  omega

def own_US (Z : State) (G1 : Int32) : Prop := ¬ G1 = (0 : Int32) ∧ Sta Z Z.heap "java/lang/String" "COMPACT_STRINGS" "Z" (.int G1) ∧ Sta Z Z.heap "java/lang/StringUTF16" "$assertionsDisabled" "Z" (.int (1 : Int32)) ∧ Sta Z Z.heap "java/lang/StringUTF16" "HI_BYTE_SHIFT" "I" (.int (0 : Int32)) ∧ Sta Z Z.heap "java/lang/StringUTF16" "LO_BYTE_SHIFT" "I" (.int (8 : Int32))
theorem own_succ (i : Nat) : Int32.ofNat i + (1 : Int32) = Int32.ofNat (i + 1) := by rw [Int32.ofNat_add]; rfl
theorem own_ofn {i : Nat} (h : i < 2 ^ 31) : ¬ Int32.ofNat i < 0 ∧ (Int32.ofNat i).toNatClampNeg = i := by
  have e : (Int32.ofNat i).toInt = i := Int32.toInt_ofNat_small h
  have e0 : (0 : Int32).toInt = 0 := rfl
  have hn : ¬ Int32.ofNat i < 0 := by rw [Int32.lt_iff_toInt_lt, e, e0]; omega
  have q := nat_of hn
  exact ⟨hn, by omega⟩
theorem own_shl1 {i : Nat} (h : i < 4000) : Int32.ofNat i <<< ((1 : Int32) &&& 31) = Int32.ofNat (2 * i) := by
  have q := c_ishl (Int32.ofNat i) 1 1 (by decide)
  have r := rng32 (Int32.ofNat i <<< ((1 : Int32) &&& 31))
  have p : ((2 ^ 1 : Nat) : Int) = 2 := rfl
  rw [Int32.toInt_ofNat_small (by omega), p] at q
  rw [← Int32.toInt_inj, Int32.toInt_ofNat_small (by omega)]
  omega
theorem own_inb {i n : Nat} (hn : n < 2 ^ 31) (h : i < n) : ¬ Int32.ofNat i < 0 ∧ Int32.ofNat i < Int32.ofNat n := by
  refine ⟨(own_ofn (by omega)).1, ?_⟩
  rw [Int32.lt_iff_toInt_lt, Int32.toInt_ofNat_small (by omega), Int32.toInt_ofNat_small hn]
  omega
theorem own_wide_0 (d : Value) : ∀ (cs : List Int32) (i : Nat), i < cs.length → (own_wide cs).getD (2 * i) d = .int (own_b0 (cs.getD i 0))
  | [], i, h => absurd h (by simp)
  | c :: cs, 0, h => rfl
  | c :: cs, i + 1, h => by
    have q := own_wide_0 d cs i (by simpa using h)
    show (own_wide (c :: cs)).getD (2 * i + 2) d = _
    exact q
theorem own_wide_1 (d : Value) : ∀ (cs : List Int32) (i : Nat), i < cs.length → (own_wide cs).getD (2 * i + 1) d = .int (own_b1 (cs.getD i 0))
  | [], i, h => absurd h (by simp)
  | c :: cs, 0, h => rfl
  | c :: cs, i + 1, h => by
    have q := own_wide_1 d cs i (by simpa using h)
    show (own_wide (c :: cs)).getD (2 * i + 3) d = _
    exact q

def own_R (ch : Int32) (cs : List Int32) (r : Int32) : Prop := (r < (0 : Int32) ∧ ch ∉ cs) ∨ (¬ r < (0 : Int32) ∧ ch ∈ cs)
theorem own_lows_at (d : Value) : ∀ (cs : List Int32) (i : Nat), i < cs.length → (own_lows cs).getD i d = .int (own_lo (cs.getD i 0))
  | [], i, h => absurd h (by simp)
  | c :: cs, 0, h => rfl
  | c :: cs, i + 1, h => own_lows_at d cs i (by simpa using h)
theorem own_mem (cs : List Int32) (i : Nat) (h : i < cs.length) : cs.getD i 0 ∈ cs := by
  rw [List.getD_eq_getElem?_getD, List.getElem?_eq_getElem h]
  exact List.getElem_mem h
theorem own_notin {cs : List Int32} {p : Int32} (h : ∀ j, j < cs.length → cs.getD j 0 ≠ p) : p ∉ cs := fun q => by
  obtain ⟨i, hi, e⟩ := List.getElem_of_mem q
  have k := h i hi
  rw [List.getD_eq_getElem?_getD, List.getElem?_eq_getElem hi] at k
  exact k e
theorem own_more {cs : List Int32} {p : Int32} {i : Nat} (h : ∀ j, j < i → cs.getD j 0 ≠ p) (q : cs.getD i 0 ≠ p) : ∀ j, j < i + 1 → cs.getD j 0 ≠ p := fun j hj => by
  by_cases e : j = i
  · rw [e]; exact q
  · exact h j (by omega)
theorem own_foundL {cs : List Int32} {p : Int32} {i : Nat} (hi : i < cs.length) (hcs : ∀ c ∈ cs, ¬ (255 : Int32) < c) (hch : ∀ c ∈ cs, 0 ≤ c.toInt ∧ c.toInt ≤ 65535) (hp : 0 ≤ p.toInt ∧ p.toInt ≤ 255) : own_lo (cs.getD i 0) = p.toInt8.toInt32 ↔ cs.getD i 0 = p :=
  own_lo_inj (own_le255 (hcs _ (own_mem cs i hi)) (hch _ (own_mem cs i hi))) hp
theorem own_ltn {i n : Nat} (hn : n ≤ 1000) (hi : i ≤ n) : Int32.ofNat i < Int32.ofNat n ↔ i < n := by
  rw [Int32.lt_iff_toInt_lt, Int32.toInt_ofNat_small (by omega), Int32.toInt_ofNat_small (by omega)]
  omega
theorem own_shr1 {n : Nat} (hn : n ≤ 1000) : (Int32.ofNat (2 * n)) >>> ((1 : Int32) &&& 31) = Int32.ofNat n := by
  have q := c_ishr (Int32.ofNat (2 * n)) 1 1 (by decide)
  rw [← Int32.toInt_inj, q, Int32.toInt_ofNat_small (by omega), Int32.toInt_ofNat_small (by omega)]
  have p : ((2 ^ 1 : Nat) : Int) = 2 := rfl
  omega

def own_al (c : Int32) : Int32 := if c < 9 then 1 else if (13 : Int32) < c then 1 else if c = 10 then 1 else if c = 13 then 1 else 0
theorem own_al_iff (c : Int32) : own_al c = 0 ↔ (c = 9 ∨ c = 11 ∨ c = 12) := by
  have l9 : (9 : Int32).toInt = 9 := rfl
  have l10 : (10 : Int32).toInt = 10 := rfl
  have l11 : (11 : Int32).toInt = 11 := rfl
  have l12 : (12 : Int32).toInt = 12 := rfl
  have l13 : (13 : Int32).toInt = 13 := rfl
  have l0 : (0 : Int32).toInt = 0 := rfl
  have l1 : (1 : Int32).toInt = 1 := rfl
  unfold own_al
  simp only [Int32.lt_iff_toInt_lt, ← Int32.toInt_inj, l9, l10, l11, l12, l13, l0]
  split
  · rw [l1]; omega
  · split
    · rw [l1]; omega
    · split
      · rw [l1]; omega
      · split
        · rw [l1]; omega
        · rw [l0]; omega
def own_sp (cs : List Int32) : Int32 := if (9 : Int32) ∈ cs ∨ (11 : Int32) ∈ cs ∨ (12 : Int32) ∈ cs then 0 else 1
theorem own_sp1 {cs : List Int32} (h : ∀ c ∈ cs, ¬ own_al c = 0) : own_sp cs = 1 := by
  unfold own_sp
  rw [if_neg]
  rintro (q | q | q)
  · exact h _ q ((own_al_iff _).mpr (Or.inl rfl))
  · exact h _ q ((own_al_iff _).mpr (Or.inr (Or.inl rfl)))
  · exact h _ q ((own_al_iff _).mpr (Or.inr (Or.inr rfl)))
theorem own_sp0 {cs : List Int32} {c : Int32} (hm : c ∈ cs) (h : own_al c = 0) : own_sp cs = 0 := by
  unfold own_sp
  rw [if_pos]
  rcases (own_al_iff c).mp h with rfl | rfl | rfl
  · exact Or.inl hm
  · exact Or.inr (Or.inl hm)
  · exact Or.inr (Or.inr hm)
theorem own_Rn {p : Int32} {cs : List Int32} {r : Int32} (h : own_R p cs r) (q : r < (0 : Int32)) : p ∉ cs := by
  rcases h with h | h
  · exact h.2
  · exact absurd q h.1
theorem own_Ry {p : Int32} {cs : List Int32} {r : Int32} (h : own_R p cs r) (q : ¬ r < (0 : Int32)) : p ∈ cs := by
  rcases h with h | h
  · exact absurd h.1 q
  · exact h.2
theorem own_spA {cs : List Int32} (h1 : (9 : Int32) ∉ cs) (h2 : (11 : Int32) ∉ cs) (h3 : (12 : Int32) ∉ cs) : own_sp cs = 1 := by
  unfold own_sp
  rw [if_neg]
  rintro (q | q | q)
  · exact h1 q
  · exact h2 q
  · exact h3 q
theorem own_spB {cs : List Int32} {c : Int32} (hm : c ∈ cs) (h : c = 9 ∨ c = 11 ∨ c = 12) : own_sp cs = 0 := own_sp0 hm ((own_al_iff c).mpr h)
theorem own_c16 (z : Int32) : 0 ≤ (nar .char z).toInt ∧ (nar .char z).toInt ≤ 65535 := by
  have q := c_i2c z
  show 0 ≤ (z.toUInt32.toUInt16.toUInt32.toInt32).toInt ∧ _
  have r : (nar .char z) = z.toUInt32.toUInt16.toUInt32.toInt32 := rfl
  rw [r]
  omega
theorem own_5 (x : Int32) : (x &&& (2147483647 : Int32)) % (5 : Int32) = 0 ∨ (x &&& (2147483647 : Int32)) % (5 : Int32) = 1 ∨ (x &&& (2147483647 : Int32)) % (5 : Int32) = 2 ∨ (x &&& (2147483647 : Int32)) % (5 : Int32) = 3 ∨ (x &&& (2147483647 : Int32)) % (5 : Int32) = 4 := by
  have h := c_and x 2147483647 (by decide)
  have q := (c_irem (x &&& 2147483647) 5 5 rfl).1 h.1
  have l0 : (0 : Int32).toInt = 0 := rfl
  have l1 : (1 : Int32).toInt = 1 := rfl
  have l2 : (2 : Int32).toInt = 2 := rfl
  have l3 : (3 : Int32).toInt = 3 := rfl
  have l4 : (4 : Int32).toInt = 4 := rfl
  simp only [← Int32.toInt_inj, l0, l1, l2, l3, l4]
  omega

theorem own_stI {s : State} {args : Array Value} {C n d : String} {z : Int32} (h : (Cond.eq (.static C n d) (.int z)).before args s = true) (hi : (Cond.initializedFor C n d).before args s = true) : Sta s s.heap C n d (.int z) := by
  have h := Cond.before_iff.mp h
  obtain ⟨x, y, e1, e2, -, k⟩ := cmp_v (Or.inl h)
  obtain rfl : y = .int z := (Option.some.inj ((Term.int_eval z).symm.trans e2)).symm
  obtain ⟨w, rfl⟩ : ∃ w, x = .int w := k
  have hz : w = z := gotT (Cond.eq_ints e1 (Term.int_eval z)) h
  subst hz
  exact Sta.start e1 (Or.inl hi)

theorem own_chs4 {c0 c1 c2 c3 : Int32} (hc0 : 0 ≤ c0.toInt ∧ c0.toInt ≤ 65535) (hc1 : 0 ≤ c1.toInt ∧ c1.toInt ≤ 65535) (hc2 : 0 ≤ c2.toInt ∧ c2.toInt ≤ 65535) (hc3 : 0 ≤ c3.toInt ∧ c3.toInt ≤ 65535) : ∀ c ∈ ([c0, c1, c2, c3] : List Int32), 0 ≤ c.toInt ∧ c.toInt ≤ 65535 := by
  intro c hc
  simp only [List.mem_cons, List.not_mem_nil, or_false] at hc
  rcases hc with rfl | rfl | rfl | rfl
  · exact hc0
  · exact hc1
  · exact hc2
  · exact hc3

theorem own_chs3 {c0 c1 c2 : Int32} (hc0 : 0 ≤ c0.toInt ∧ c0.toInt ≤ 65535) (hc1 : 0 ≤ c1.toInt ∧ c1.toInt ≤ 65535) (hc2 : 0 ≤ c2.toInt ∧ c2.toInt ≤ 65535) : ∀ c ∈ ([c0, c1, c2] : List Int32), 0 ≤ c.toInt ∧ c.toInt ≤ 65535 := by
  intro c hc
  simp only [List.mem_cons, List.not_mem_nil, or_false] at hc
  rcases hc with rfl | rfl | rfl
  · exact hc0
  · exact hc1
  · exact hc2

theorem own_chs2 {c0 c1 : Int32} (hc0 : 0 ≤ c0.toInt ∧ c0.toInt ≤ 65535) (hc1 : 0 ≤ c1.toInt ∧ c1.toInt ≤ 65535) : ∀ c ∈ ([c0, c1] : List Int32), 0 ≤ c.toInt ∧ c.toInt ≤ 65535 := by
  intro c hc
  simp only [List.mem_cons, List.not_mem_nil, or_false] at hc
  rcases hc with rfl | rfl
  · exact hc0
  · exact hc1

theorem own_chs1 {c0 : Int32} (hc0 : 0 ≤ c0.toInt ∧ c0.toInt ≤ 65535) : ∀ c ∈ ([c0] : List Int32), 0 ≤ c.toInt ∧ c.toInt ≤ 65535 := by
  intro c hc
  simp only [List.mem_cons, List.not_mem_nil, or_false] at hc
  rcases hc with rfl
  · exact hc0

def Q100 (z : Int32) (h0 : Heap) (n0 : Nat) (v : Option Value) (h : Heap) (L : List Loc) : Prop := v = some (.int z) ∧ Fr n0 L ∧ h = h0

theorem d100_0 : decode jdk_29_method_65_code 0 = .ok (.iload_n 0, 1) := by decide +kernel
theorem d100_1 : decode jdk_29_method_65_code 1 = .ok (.iload_n 1, 1) := by decide +kernel
theorem d100_2 : decode jdk_29_method_65_code 2 = .ok (.if_icmp .lt 7, 3) := by decide +kernel
theorem d100_5 : decode jdk_29_method_65_code 5 = .ok (.iload_n 0, 1) := by decide +kernel
theorem d100_6 : decode jdk_29_method_65_code 6 = .ok (.goto 4, 3) := by decide +kernel
theorem d100_9 : decode jdk_29_method_65_code 9 = .ok (.iload_n 1, 1) := by decide +kernel
theorem d100_10 : decode jdk_29_method_65_code 10 = .ok (.ireturn, 1) := by decide +kernel
theorem ef100 (m : MethodId) (x0 : Int32) (x1 : Int32) : entryFrame m #[(.int x0), (.int x1)] 2 = mkF m 0 #[.val (.int x0), .val (.int x1)] [] := by first | (simp [entryFrame, mkF, argsToLocals, Value.category]; done) | rfl
set_option maxRecDepth 65536 in
set_option maxHeartbeats 40000000 in
theorem rm100 (l : Launch) (Z : State) (a0 : Array Value) (hw : ∀ d ∈ tables_1, d.before a0 Z = true) (ws : List Jvm.Cond) (p1 p2 z : Int32) (h0 : Heap) (n0 : Nat) (hz : (p1 < p2 → z = p2) ∧ (¬ p1 < p2 → z = p1)) :
    own_Met l (⟨"java/lang/Math", "max", "(II)I"⟩ : MethodName) jdk_29_method_65_code 2 (some .int) ws ({ frames := 0, cells := 0, slots := 0, locals := 0 } : Room) Z #[(.int p1), (.int p2)] h0 (Q100 z h0 n0) := by
  refine own_enter #[.val (.int p1), .val (.int p2)] (Jvm.Free.JP.mathPlain rfl (by decide +kernel)) (fun m => ef100 m p1 p2) ?_
  intro p e s m below meth c s₁ hx hby hml hown hnm hZ hrt hlk X0 e0
  have N0 := Fr.nil n0
  refine own_tp (.int p1) 1 (fun _ q => XS.iloadN X0.here hx rfl (hb hby d100_0) rfl q) ?_
  refine own_tp (.int p2) 2 (fun _ q => XS.iloadN X0.here hx rfl (hb hby d100_1) rfl q) ?_
  by_cases c51 : p1 < p2
  ·
    refine own_d2 9 (fun _ q => XS.icmpYes X0.here hx rfl (pc0 := 2) (pc' := 9) rfl (hb hby d100_2) rfl (tlt c51).1 (by decide) (by decide) q) ?_
    refine own_tp (.int p2) 10 (fun _ q => XS.iloadN X0.here hx rfl (hb hby d100_9) rfl q) ?_
    exact own_retI X0 hx hrt (hb hby d100_10) hlk (by decide) (by decide) e0 (⟨by rw [hz.1 c51], N0, rfl⟩)
  ·
    refine own_d2 5 (fun _ q => XS.icmpNo X0.here hx rfl (hb hby d100_2) rfl (flt c51).1 q) ?_
    refine own_tp (.int p1) 6 (fun _ q => XS.iloadN X0.here hx rfl (hb hby d100_5) rfl q) ?_
    refine own_d0 10 (fun _ q => XS.goto X0.here hx rfl (pc0 := 6) (pc' := 10) rfl (hb hby d100_6) (by decide) (by decide) q) ?_
    exact own_retI X0 hx hrt (hb hby d100_10) hlk (by decide) (by decide) e0 (⟨by rw [hz.2 c51], N0, rfl⟩)

def Q101 (z : Int32) (h0 : Heap) (n0 : Nat) (v : Option Value) (h : Heap) (L : List Loc) : Prop := v = some (.int z) ∧ Fr n0 L ∧ h = h0

theorem d101_0 : decode jdk_29_method_69_code 0 = .ok (.iload_n 0, 1) := by decide +kernel
theorem d101_1 : decode jdk_29_method_69_code 1 = .ok (.iload_n 1, 1) := by decide +kernel
theorem d101_2 : decode jdk_29_method_69_code 2 = .ok (.if_icmp .gt 7, 3) := by decide +kernel
theorem d101_5 : decode jdk_29_method_69_code 5 = .ok (.iload_n 0, 1) := by decide +kernel
theorem d101_6 : decode jdk_29_method_69_code 6 = .ok (.goto 4, 3) := by decide +kernel
theorem d101_9 : decode jdk_29_method_69_code 9 = .ok (.iload_n 1, 1) := by decide +kernel
theorem d101_10 : decode jdk_29_method_69_code 10 = .ok (.ireturn, 1) := by decide +kernel
theorem ef101 (m : MethodId) (x0 : Int32) (x1 : Int32) : entryFrame m #[(.int x0), (.int x1)] 2 = mkF m 0 #[.val (.int x0), .val (.int x1)] [] := by first | (simp [entryFrame, mkF, argsToLocals, Value.category]; done) | rfl
set_option maxRecDepth 65536 in
set_option maxHeartbeats 40000000 in
theorem rm101 (l : Launch) (Z : State) (a0 : Array Value) (hw : ∀ d ∈ tables_1, d.before a0 Z = true) (ws : List Jvm.Cond) (p1 p2 z : Int32) (h0 : Heap) (n0 : Nat) (hz : (p2 < p1 → z = p2) ∧ (¬ p2 < p1 → z = p1)) :
    own_Met l (⟨"java/lang/Math", "min", "(II)I"⟩ : MethodName) jdk_29_method_69_code 2 (some .int) ws ({ frames := 0, cells := 0, slots := 0, locals := 0 } : Room) Z #[(.int p1), (.int p2)] h0 (Q101 z h0 n0) := by
  refine own_enter #[.val (.int p1), .val (.int p2)] (Jvm.Free.JP.mathPlain rfl (by decide +kernel)) (fun m => ef101 m p1 p2) ?_
  intro p e s m below meth c s₁ hx hby hml hown hnm hZ hrt hlk X0 e0
  have N0 := Fr.nil n0
  refine own_tp (.int p1) 1 (fun _ q => XS.iloadN X0.here hx rfl (hb hby d101_0) rfl q) ?_
  refine own_tp (.int p2) 2 (fun _ q => XS.iloadN X0.here hx rfl (hb hby d101_1) rfl q) ?_
  by_cases c51 : p2 < p1
  ·
    refine own_d2 9 (fun _ q => XS.icmpYes X0.here hx rfl (pc0 := 2) (pc' := 9) rfl (hb hby d101_2) rfl (tlt c51).2.2.1 (by decide) (by decide) q) ?_
    refine own_tp (.int p2) 10 (fun _ q => XS.iloadN X0.here hx rfl (hb hby d101_9) rfl q) ?_
    exact own_retI X0 hx hrt (hb hby d101_10) hlk (by decide) (by decide) e0 (⟨by rw [hz.1 c51], N0, rfl⟩)
  ·
    refine own_d2 5 (fun _ q => XS.icmpNo X0.here hx rfl (hb hby d101_2) rfl (flt c51).2.2.1 q) ?_
    refine own_tp (.int p1) 6 (fun _ q => XS.iloadN X0.here hx rfl (hb hby d101_5) rfl q) ?_
    refine own_d0 10 (fun _ q => XS.goto X0.here hx rfl (pc0 := 6) (pc' := 10) rfl (hb hby d101_6) (by decide) (by decide) q) ?_
    exact own_retI X0 hx hrt (hb hby d101_10) hlk (by decide) (by decide) e0 (⟨by rw [hz.2 c51], N0, rfl⟩)

theorem own_p0 {p : Int32} (h : 0 ≤ p.toInt ∧ p.toInt ≤ 255) : ¬ p < (0 : Int32) := by
  have e : (0 : Int32).toInt = 0 := rfl
  rw [Int32.lt_iff_toInt_lt, e]
  omega
theorem own_p255 {p : Int32} (h : 0 ≤ p.toInt ∧ p.toInt ≤ 255) : ¬ (255 : Int32) < p := by
  have e : (255 : Int32).toInt = 255 := rfl
  rw [Int32.lt_iff_toInt_lt, e]
  omega
theorem own_p16 {p : Int32} (h : 0 ≤ p.toInt ∧ p.toInt ≤ 255) : p < (65536 : Int32) := by
  have e : (65536 : Int32).toInt = 65536 := rfl
  rw [Int32.lt_iff_toInt_lt, e]
  omega

def Q102  (h0 : Heap) (n0 : Nat) (v : Option Value) (h : Heap) (L : List Loc) : Prop := v = some (.int (1 : Int32)) ∧ Fr n0 L ∧ h = h0

theorem d102_0 : decode jdk_43_method_4_code 0 = .ok (.iload_n 0, 1) := by decide +kernel
theorem d102_1 : decode jdk_43_method_4_code 1 = .ok (.ifCond .lt 14, 3) := by decide +kernel
theorem d102_4 : decode jdk_43_method_4_code 4 = .ok (.iload_n 0, 1) := by decide +kernel
theorem d102_5 : decode jdk_43_method_4_code 5 = .ok (.sipush 255, 3) := by decide +kernel
theorem d102_8 : decode jdk_43_method_4_code 8 = .ok (.if_icmp .gt 7, 3) := by decide +kernel
theorem d102_11 : decode jdk_43_method_4_code 11 = .ok (.iconst 1, 1) := by decide +kernel
theorem d102_12 : decode jdk_43_method_4_code 12 = .ok (.goto 4, 3) := by decide +kernel
theorem d102_16 : decode jdk_43_method_4_code 16 = .ok (.ireturn, 1) := by decide +kernel
theorem pn102 : plainName "java/lang/StringLatin1" = true := by first | (simp [plainName, overriddenIn]; done) | decide +kernel
theorem ef102 (m : MethodId) (x0 : Int32) : entryFrame m #[(.int x0)] 1 = mkF m 0 #[.val (.int x0)] [] := by first | (simp [entryFrame, mkF, argsToLocals, Value.category]; done) | rfl
set_option maxRecDepth 65536 in
set_option maxHeartbeats 40000000 in
theorem rm102 (l : Launch) (Z : State) (a0 : Array Value) (hw : ∀ d ∈ tables_1, d.before a0 Z = true) (ws : List Jvm.Cond) (p1 : Int32) (h0 : Heap) (n0 : Nat) (hp : 0 ≤ p1.toInt ∧ p1.toInt ≤ 255) :
    own_Met l (⟨"java/lang/StringLatin1", "canEncode", "(I)Z"⟩ : MethodName) jdk_43_method_4_code 1 (some .boolean) ws ({ frames := 0, cells := 0, slots := 0, locals := 0 } : Room) Z #[(.int p1)] h0 (Q102 h0 n0) := by
  refine own_enter #[.val (.int p1)] (plainFor_of_name pn102) (fun m => ef102 m p1) ?_
  intro p e s m below meth c s₁ hx hby hml hown hnm hZ hrt hlk X0 e0
  have N0 := Fr.nil n0
  refine own_tp (.int p1) 1 (fun _ q => XS.iloadN X0.here hx rfl (hb hby d102_0) rfl q) ?_
  refine own_d1 4 (fun _ q => XS.ifNo X0.here hx rfl (hb hby d102_1) rfl ((if0 _ _).trans (flt (own_p0 hp)).1) q) ?_
  refine own_tp (.int p1) 5 (fun _ q => XS.iloadN X0.here hx rfl (hb hby d102_4) rfl q) ?_
  refine own_tp (.int (255 : Int32)) 8 (fun _ q => XS.sipush X0.here hx rfl (hb hby d102_5) q) ?_
  refine own_d2 11 (fun _ q => XS.icmpNo X0.here hx rfl (hb hby d102_8) rfl (flt (own_p255 hp)).2.2.1 q) ?_
  refine own_tp (.int (1 : Int32)) 12 (fun _ q => XS.iconst X0.here hx rfl (hb hby d102_11) q) ?_
  refine own_d0 16 (fun _ q => XS.goto X0.here hx rfl (pc0 := 12) (pc' := 16) rfl (hb hby d102_12) (by decide) (by decide) q) ?_
  exact own_retN (t := .boolean) X0 hx hrt (hb hby d102_16) (by simp) hlk (by decide) (by decide) e0 (⟨rfl, N0, rfl⟩)

def Q103 (p1 : Int32) (cs : List Int32) (h0 : Heap) (n0 : Nat) (v : Option Value) (h : Heap) (L : List Loc) : Prop := ∃ r : Int32, v = some (.int r) ∧ own_R p1 cs r ∧ Fr n0 L ∧ h = h0

theorem d103_0 : decode jdk_43_method_23_code 0 = .ok (.iload_n 1, 1) := by decide +kernel
theorem d103_1 : decode jdk_43_method_23_code 1 = .ok (.i2b, 1) := by decide +kernel
theorem d103_2 : decode jdk_43_method_23_code 2 = .ok (.istore 4, 2) := by decide +kernel
theorem d103_4 : decode jdk_43_method_23_code 4 = .ok (.iload_n 2, 1) := by decide +kernel
theorem d103_5 : decode jdk_43_method_23_code 5 = .ok (.istore 5, 2) := by decide +kernel
theorem d103_7 : decode jdk_43_method_23_code 7 = .ok (.iload 5, 2) := by decide +kernel
theorem d103_9 : decode jdk_43_method_23_code 9 = .ok (.iload_n 3, 1) := by decide +kernel
theorem d103_10 : decode jdk_43_method_23_code 10 = .ok (.if_icmp .ge 21, 3) := by decide +kernel
theorem d103_13 : decode jdk_43_method_23_code 13 = .ok (.aload_n 0, 1) := by decide +kernel
theorem d103_14 : decode jdk_43_method_23_code 14 = .ok (.iload 5, 2) := by decide +kernel
theorem d103_16 : decode jdk_43_method_23_code 16 = .ok (.baload, 1) := by decide +kernel
theorem d103_17 : decode jdk_43_method_23_code 17 = .ok (.iload 4, 2) := by decide +kernel
theorem d103_19 : decode jdk_43_method_23_code 19 = .ok (.if_icmp .ne 6, 3) := by decide +kernel
theorem d103_22 : decode jdk_43_method_23_code 22 = .ok (.iload 5, 2) := by decide +kernel
theorem d103_24 : decode jdk_43_method_23_code 24 = .ok (.ireturn, 1) := by decide +kernel
theorem d103_25 : decode jdk_43_method_23_code 25 = .ok (.iinc 5 1, 3) := by decide +kernel
theorem d103_28 : decode jdk_43_method_23_code 28 = .ok (.goto (-21), 3) := by decide +kernel
theorem d103_31 : decode jdk_43_method_23_code 31 = .ok (.iconst (-1), 1) := by decide +kernel
theorem d103_32 : decode jdk_43_method_23_code 32 = .ok (.ireturn, 1) := by decide +kernel
theorem pn103 : plainName "java/lang/StringLatin1" = true := by first | (simp [plainName, overriddenIn]; done) | decide +kernel
theorem ef103 (m : MethodId) (x0 : Addr) (x1 : Int32) (x2 : Int32) (x3 : Int32) : entryFrame m #[(.ref x0), (.int x1), (.int x2), (.int x3)] 6 = mkF m 0 #[.val (.ref x0), .val (.int x1), .val (.int x2), .val (.int x3), .unset, .unset] [] := by first | (simp [entryFrame, mkF, argsToLocals, Value.category]; done) | rfl
set_option maxRecDepth 65536 in
set_option maxHeartbeats 40000000 in
theorem rm103 (l : Launch) (Z : State) (a0 : Array Value) (hw : ∀ d ∈ tables_1, d.before a0 Z = true) (ws : List Jvm.Cond) (b1 : Addr) (k1 : ClassId) (p1 : Int32) (cs : List Int32) (h0 : Heap) (n0 : Nat) (hp : 0 ≤ p1.toInt ∧ p1.toInt ≤ 255) (hl : cs.length ≤ 1000) (hch : ∀ c ∈ cs, 0 ≤ c.toInt ∧ c.toInt ≤ 65535) (hcs : ∀ c ∈ cs, ¬ (255 : Int32) < c) (V1 : Arv Z h0 b1 k1 .byte (Int32.ofNat cs.length) (own_lows cs) (.int (0 : Int32))) :
    own_Met l (⟨"java/lang/StringLatin1", "indexOfChar", "([BIII)I"⟩ : MethodName) jdk_43_method_23_code 6 (some .int) ws ({ frames := 0, cells := 0, slots := 0, locals := 0 } : Room) Z #[(.ref b1), (.int p1), (.int (0 : Int32)), (.int (Int32.ofNat cs.length))] h0 (Q103 p1 cs h0 n0) := by
  refine own_enter #[.val (.ref b1), .val (.int p1), .val (.int (0 : Int32)), .val (.int (Int32.ofNat cs.length)), .unset, .unset] (plainFor_of_name pn103) (fun m => ef103 m b1 p1 (0 : Int32) (Int32.ofNat cs.length)) ?_
  intro p e s m below meth c s₁ hx hby hml hown hnm hZ hrt hlk X0 e0
  have N0 := Fr.nil n0
  refine own_tp (.int p1) 1 (fun _ q => XS.iloadN X0.here hx rfl (hb hby d103_0) rfl q) ?_
  refine own_t1 (.int (p1.toInt8.toInt32)) 2 (fun _ q => XS.i2b X0.here hx rfl (hb hby d103_1) rfl q) ?_
  refine own_ls #[.val (.ref b1), .val (.int p1), .val (.int (0 : Int32)), .val (.int (Int32.ofNat cs.length)), .val (.int (p1.toInt8.toInt32)), .unset] 4 (fun _ q => XS.istore X0.here hx rfl (hb hby d103_2) rfl (l' := #[.val (.ref b1), .val (.int p1), .val (.int (0 : Int32)), .val (.int (Int32.ofNat cs.length)), .val (.int (p1.toInt8.toInt32)), .unset]) rfl q) ?_
  refine own_tp (.int (0 : Int32)) 5 (fun _ q => XS.iloadN X0.here hx rfl (hb hby d103_4) rfl q) ?_
  refine own_ls #[.val (.ref b1), .val (.int p1), .val (.int (0 : Int32)), .val (.int (Int32.ofNat cs.length)), .val (.int (p1.toInt8.toInt32)), .val (.int (0 : Int32))] 7 (fun _ q => XS.istore X0.here hx rfl (hb hby d103_5) rfl (l' := #[.val (.ref b1), .val (.int p1), .val (.int (0 : Int32)), .val (.int (Int32.ofNat cs.length)), .val (.int (p1.toInt8.toInt32)), .val (.int (0 : Int32))]) rfl q) ?_
  have loop : ∀ (r i : Nat) (Tj : State) (lj : List Loc), i + r = cs.length → (∀ j, j < i → cs.getD j 0 ≠ p1) → Stand p l e ({ frames := 0, cells := 0, slots := 0, locals := 0 } : Room) s m #[(.ref b1), (.int p1), (.int (0 : Int32)), (.int (Int32.ofNat cs.length))] below meth c Tj lj 0 0 → Fr n0 lj → Tj.heap = h0 → own_Goes p e below (own_FN s (Q103 p1 cs h0 n0) ({ frames := 0, cells := 0, slots := 0, locals := 0 } : Room).cells ({ frames := 0, cells := 0, slots := 0, locals := 0 } : Room).slots) (Tj.setTop (mkF m 7 #[.val (.ref b1), .val (.int p1), .val (.int (0 : Int32)), .val (.int (Int32.ofNat cs.length)), .val (.int (p1.toInt8.toInt32)), .val (.int (Int32.ofNat i))] [])) := by
    intro r
    induction r with
    | zero =>
      intro i Tj lj hi hno Xj Nj ej
      have hlt : ¬ (Int32.ofNat i) < (Int32.ofNat cs.length) := fun q => by have := (own_ltn hl (by omega)).mp q; omega
      refine own_tp (.int (Int32.ofNat i)) 9 (fun _ q => XS.iload Xj.here hx rfl (hb hby d103_7) rfl q) ?_
      refine own_tp (.int (Int32.ofNat cs.length)) 10 (fun _ q => XS.iloadN Xj.here hx rfl (hb hby d103_9) rfl q) ?_
      refine own_d2 31 (fun _ q => XS.icmpYes Xj.here hx rfl (pc0 := 10) (pc' := 31) rfl (hb hby d103_10) rfl (flt hlt).2.1 (by decide) (by decide) q) ?_
      refine own_tp (.int (-1 : Int32)) 32 (fun _ q => XS.iconst Xj.here hx rfl (hb hby d103_31) q) ?_
      exact own_retI Xj hx hrt (hb hby d103_32) hlk (by decide) (by decide) ej (⟨(-1 : Int32), rfl, Or.inl ⟨by decide, own_notin (fun j hj => hno j (by omega))⟩, Nj, rfl⟩)
    | succ r ih =>
      intro i Tj lj hi hno Xj Nj ej
      have hlt : (Int32.ofNat i) < (Int32.ofNat cs.length) := (own_ltn hl (by omega)).mpr (by omega)
      refine own_tp (.int (Int32.ofNat i)) 9 (fun _ q => XS.iload Xj.here hx rfl (hb hby d103_7) rfl q) ?_
      refine own_tp (.int (Int32.ofNat cs.length)) 10 (fun _ q => XS.iloadN Xj.here hx rfl (hb hby d103_9) rfl q) ?_
      refine own_d2 13 (fun _ q => XS.icmpNo Xj.here hx rfl (hb hby d103_10) rfl (tlt hlt).2.1 q) ?_
      refine own_tp (.ref b1) 14 (fun _ q => XS.aloadN Xj.here hx rfl (hb hby d103_13) rfl rfl q) ?_
      refine own_tp (.int (Int32.ofNat i)) 16 (fun _ q => XS.iload Xj.here hx rfl (hb hby d103_14) rfl q) ?_
      obtain ⟨cl51, Ar51, q51, S51, Nn51, H51, G51⟩ := (id V1)
      have hin51 : ¬ ((Int32.ofNat i) < 0 ∨ cl51.slots.size ≤ ((Int32.ofNat i)).toNatClampNeg) := inb_of S51 (own_inb (by omega) (by omega))
      have hat51 : cl51.slots[((Int32.ofNat i)).toNatClampNeg]? = some (.int (own_lo (cs.getD i 0))) := H51.at hin51 (by rw [(own_ofn (by omega)).2]; exact own_lows_at _ cs i (by omega))
      refine own_t2 (.int (own_lo (cs.getD i 0))) 17 (fun _ q => Xj.baloadBytes hx (j := (Int32.ofNat i)) (v := (.int (own_lo (cs.getD i 0)))) (by rw [ej]; exact Ar51.1) (State.isArrayOf_alike hZ.alike Ar51.2.1) Ar51.2.2 hin51 hat51 (g := (mkF m 16 #[.val (.ref b1), .val (.int p1), .val (.int (0 : Int32)), .val (.int (Int32.ofNat cs.length)), .val (.int (p1.toInt8.toInt32)), .val (.int (Int32.ofNat i))] [(.int (Int32.ofNat i)), (.ref b1)])) rfl rfl (hb hby d103_16) _ q) ?_
      refine own_tp (.int (p1.toInt8.toInt32)) 19 (fun _ q => XS.iload Xj.here hx rfl (hb hby d103_17) rfl q) ?_
      by_cases c52 : (own_lo (cs.getD i 0)) = (p1.toInt8.toInt32)
      ·
        refine own_d2 22 (fun _ q => XS.icmpNo Xj.here hx rfl (hb hby d103_19) rfl (teq c52).2 q) ?_
        refine own_tp (.int (Int32.ofNat i)) 24 (fun _ q => XS.iload Xj.here hx rfl (hb hby d103_22) rfl q) ?_
        exact own_retI Xj hx hrt (hb hby d103_24) hlk (by decide) (by decide) ej (⟨(Int32.ofNat i), rfl, Or.inr ⟨(own_ofn (by omega)).1, ((own_foundL (by omega) hcs hch hp).mp c52) ▸ own_mem cs i (by omega)⟩, Nj, rfl⟩)
      ·
        refine own_d2 25 (fun _ q => XS.icmpYes Xj.here hx rfl (pc0 := 19) (pc' := 25) rfl (hb hby d103_19) rfl (feq c52).2 (by decide) (by decide) q) ?_
        refine own_li #[.val (.ref b1), .val (.int p1), .val (.int (0 : Int32)), .val (.int (Int32.ofNat cs.length)), .val (.int (p1.toInt8.toInt32)), .val (.int ((Int32.ofNat i) + (1 : Int32)))] 28 (fun _ q => XS.iinc Xj.here hx rfl (hb hby d103_25) rfl (l' := #[.val (.ref b1), .val (.int p1), .val (.int (0 : Int32)), .val (.int (Int32.ofNat cs.length)), .val (.int (p1.toInt8.toInt32)), .val (.int ((Int32.ofNat i) + (1 : Int32)))]) rfl q) ?_
        refine own_d0 7 (fun _ q => XS.goto Xj.here hx rfl (pc0 := 28) (pc' := 7) rfl (hb hby d103_28) (by decide) (by decide) q) ?_
        rw [own_succ]
        exact ih (i + 1) Tj _ (by omega) (own_more hno (fun q => c52 ((own_foundL (by omega) hcs hch hp).mpr q))) Xj Nj ej
  exact loop cs.length 0 s₁ _ (by omega) (fun j hj => absurd hj (Nat.not_lt_zero j)) X0 N0 e0

theorem own_none {cs : List Int32} {p : Int32} (hl : cs.length ≤ 1000) (h : ¬ (0 : Int32) < Int32.ofNat cs.length) : p ∉ cs := by
  have q := (own_ltn (i := 0) hl (Nat.zero_le _)).mpr
  cases cs with
  | nil => simp
  | cons a r => exact absurd (q (by simp)) h

def Q104 (p1 : Int32) (cs : List Int32) (h0 : Heap) (n0 : Nat) (v : Option Value) (h : Heap) (L : List Loc) : Prop := ∃ r : Int32, v = some (.int r) ∧ own_R p1 cs r ∧ Fr n0 L ∧ h = h0

theorem d104_0 : decode jdk_43_method_22_code 0 = .ok (.iload_n 1, 1) := by decide +kernel
theorem d104_1 : decode jdk_43_method_22_code 1 = .ok (.invokestatic 88, 3) := by decide +kernel
theorem d104_4 : decode jdk_43_method_22_code 4 = .ok (.ifCond .ne 5, 3) := by decide +kernel
theorem d104_9 : decode jdk_43_method_22_code 9 = .ok (.iload_n 2, 1) := by decide +kernel
theorem d104_10 : decode jdk_43_method_22_code 10 = .ok (.iconst 0, 1) := by decide +kernel
theorem d104_11 : decode jdk_43_method_22_code 11 = .ok (.invokestatic 92, 3) := by decide +kernel
theorem d104_14 : decode jdk_43_method_22_code 14 = .ok (.istore_n 2, 1) := by decide +kernel
theorem d104_15 : decode jdk_43_method_22_code 15 = .ok (.iload_n 3, 1) := by decide +kernel
theorem d104_16 : decode jdk_43_method_22_code 16 = .ok (.aload_n 0, 1) := by decide +kernel
theorem d104_17 : decode jdk_43_method_22_code 17 = .ok (.arraylength, 1) := by decide +kernel
theorem d104_18 : decode jdk_43_method_22_code 18 = .ok (.invokestatic 38, 3) := by decide +kernel
theorem d104_21 : decode jdk_43_method_22_code 21 = .ok (.istore_n 3, 1) := by decide +kernel
theorem d104_22 : decode jdk_43_method_22_code 22 = .ok (.iload_n 2, 1) := by decide +kernel
theorem d104_23 : decode jdk_43_method_22_code 23 = .ok (.iload_n 3, 1) := by decide +kernel
theorem d104_24 : decode jdk_43_method_22_code 24 = .ok (.if_icmp .lt 5, 3) := by decide +kernel
theorem d104_27 : decode jdk_43_method_22_code 27 = .ok (.iconst (-1), 1) := by decide +kernel
theorem d104_28 : decode jdk_43_method_22_code 28 = .ok (.ireturn, 1) := by decide +kernel
theorem d104_29 : decode jdk_43_method_22_code 29 = .ok (.aload_n 0, 1) := by decide +kernel
theorem d104_30 : decode jdk_43_method_22_code 30 = .ok (.iload_n 1, 1) := by decide +kernel
theorem d104_31 : decode jdk_43_method_22_code 31 = .ok (.iload_n 2, 1) := by decide +kernel
theorem d104_32 : decode jdk_43_method_22_code 32 = .ok (.iload_n 3, 1) := by decide +kernel
theorem d104_33 : decode jdk_43_method_22_code 33 = .ok (.invokestatic 95, 3) := by decide +kernel
theorem d104_36 : decode jdk_43_method_22_code 36 = .ok (.ireturn, 1) := by decide +kernel
theorem pn104 : plainName "java/lang/StringLatin1" = true := by first | (simp [plainName, overriddenIn]; done) | decide +kernel
theorem pd104_0 : parseMethodDescriptor "(I)Z" = some ⟨[.int], some .boolean⟩ := by decide +kernel
theorem pd104_1 : parseMethodDescriptor "(II)I" = some ⟨[.int, .int], some .int⟩ := by decide +kernel
theorem pd104_2 : parseMethodDescriptor "([BIII)I" = some ⟨[(.array .byte), .int, .int, .int], some .int⟩ := by decide +kernel
theorem ef104 (m : MethodId) (x0 : Addr) (x1 : Int32) (x2 : Int32) (x3 : Int32) : entryFrame m #[(.ref x0), (.int x1), (.int x2), (.int x3)] 4 = mkF m 0 #[.val (.ref x0), .val (.int x1), .val (.int x2), .val (.int x3)] [] := by first | (simp [entryFrame, mkF, argsToLocals, Value.category]; done) | rfl
set_option maxRecDepth 65536 in
set_option maxHeartbeats 40000000 in
theorem rm104 (l : Launch) (Z : State) (a0 : Array Value) (hw : ∀ d ∈ tables_1, d.before a0 Z = true) (ws : List Jvm.Cond) (b1 : Addr) (k1 : ClassId) (p1 : Int32) (cs : List Int32) (h0 : Heap) (n0 : Nat) (hp : 0 ≤ p1.toInt ∧ p1.toInt ≤ 255) (hl : cs.length ≤ 1000) (hch : ∀ c ∈ cs, 0 ≤ c.toInt ∧ c.toInt ≤ 65535) (hcs : ∀ c ∈ cs, ¬ (255 : Int32) < c) (V1 : Arv Z h0 b1 k1 .byte (Int32.ofNat cs.length) (own_lows cs) (.int (0 : Int32))) :
    own_Met l (⟨"java/lang/StringLatin1", "indexOf", "([BIII)I"⟩ : MethodName) jdk_43_method_22_code 4 (some .int) ws ({ frames := 1, cells := 0, slots := 0, locals := 17 } : Room) Z #[(.ref b1), (.int p1), (.int (0 : Int32)), (.int (Int32.ofNat cs.length))] h0 (Q104 p1 cs h0 n0) := by
  refine own_enter #[.val (.ref b1), .val (.int p1), .val (.int (0 : Int32)), .val (.int (Int32.ofNat cs.length))] (plainFor_of_name pn104) (fun m => ef104 m b1 p1 (0 : Int32) (Int32.ofNat cs.length)) ?_
  intro p e s m below meth c s₁ hx hby hml hown hnm hZ hrt hlk X0 e0
  have N0 := Fr.nil n0
  refine own_tp (.int p1) 1 (fun _ q => XS.iloadN X0.here hx rfl (hb hby d104_0) rfl q) ?_
  obtain ⟨_, _, ⟨T51, L51, k51, n51⟩, -, X51, ⟨Lc51, hQ51, l51, y51, z51⟩, st51⟩ := Jvm.LawKit.callS X0 hx (y := (⟨"java/lang/StringLatin1", "canEncode", "(I)Z"⟩ : MethodName)) hown (mvT hZ (hw _ (List.mem_of_getElem? (i := 65) rfl))) (mvT hZ (hw _ (List.mem_of_getElem? (i := 66) rfl))) (mvT hZ (hw _ (List.mem_of_getElem? (i := 63) rfl))) (mvT hZ (hw _ (List.mem_of_getElem? (i := 67) rfl))) (by decide) (backOf (W := 0) (rm102 l Z a0 hw [] p1 h0 n0 hp) hZ (hw _ (List.mem_of_getElem? (i := 67) rfl)) (hw _ (List.mem_of_getElem? (i := 63) rfl)) (by decide) (by decide)) (g := (mkF m 1 #[.val (.ref b1), .val (.int p1), .val (.int (0 : Int32)), .val (.int (Int32.ofNat cs.length))] [(.int p1)])) rfl (by rw [hml]; rfl) (argsL := [(.int p1)]) (rest := []) (lenOf pd104_0 rfl) rfl (by show 2 * 0 + _ ≤ _; exact Nat.le_of_eq rfl) (hb hby d104_1) (fun _ _ => ⟨rfl, e0, (by decide : 0 + 0 ≤ _), (by decide : 0 + 0 ≤ _)⟩)
  dsimp only [Pt.U, Pt.locs, Pt.cells, Pt.slots] at X51 l51 y51 z51 st51 hQ51
  subst l51 y51 z51
  obtain ⟨rfl, Nq51, eq51⟩ := hQ51
  have N51 := Fr.app N0 Nq51
  refine own_t1 (.int (1 : Int32)) 4 st51 ?_
  refine own_d1 9 (fun _ q => XS.ifYes X51.here hx rfl (pc0 := 4) (pc' := 9) rfl (hb hby d104_4) rfl ((if0 _ _).trans (feq (by decide : ¬ ((1 : Int32) = (0 : Int32)))).2) (by decide) (by decide) q) ?_
  refine own_tp (.int (0 : Int32)) 10 (fun _ q => XS.iloadN X51.here hx rfl (hb hby d104_9) rfl q) ?_
  refine own_tp (.int (0 : Int32)) 11 (fun _ q => XS.iconst X51.here hx rfl (hb hby d104_10) q) ?_
  obtain ⟨_, _, ⟨T52, L52, k52, n52⟩, -, X52, ⟨Lc52, hQ52, l52, y52, z52⟩, st52⟩ := Jvm.LawKit.callS X51 hx (y := (⟨"java/lang/Math", "max", "(II)I"⟩ : MethodName)) hown (mvT hZ (hw _ (List.mem_of_getElem? (i := 68) rfl))) (mvT hZ (hw _ (List.mem_of_getElem? (i := 69) rfl))) (mvT hZ (hw _ (List.mem_of_getElem? (i := 70) rfl))) (mvT hZ (hw _ (List.mem_of_getElem? (i := 71) rfl))) (by decide) (backOf (W := 0) (rm100 l Z a0 hw [] (0 : Int32) (0 : Int32) (0 : Int32) h0 n0 ⟨fun _ => rfl, fun _ => rfl⟩) hZ (hw _ (List.mem_of_getElem? (i := 71) rfl)) (hw _ (List.mem_of_getElem? (i := 70) rfl)) (by decide) (by decide)) (g := (mkF m 11 #[.val (.ref b1), .val (.int p1), .val (.int (0 : Int32)), .val (.int (Int32.ofNat cs.length))] [(.int (0 : Int32)), (.int (0 : Int32))])) rfl (by rw [hml]; rfl) (argsL := [(.int (0 : Int32)), (.int (0 : Int32))]) (rest := []) (lenOf pd104_1 rfl) rfl (by show 2 * 0 + _ ≤ _; exact Nat.le_of_eq rfl) (hb hby d104_11) (fun _ _ => ⟨rfl, eq51, (by decide : 0 + 0 ≤ _), (by decide : 0 + 0 ≤ _)⟩)
  dsimp only [Pt.U, Pt.locs, Pt.cells, Pt.slots] at X52 l52 y52 z52 st52 hQ52
  subst l52 y52 z52
  obtain ⟨rfl, Nq52, eq52⟩ := hQ52
  have N52 := Fr.app N51 Nq52
  refine own_d1 14 st52 ?_
  refine own_d1 15 (fun _ q => XS.istoreN X52.here hx rfl (hb hby d104_14) rfl (l' := #[.val (.ref b1), .val (.int p1), .val (.int (0 : Int32)), .val (.int (Int32.ofNat cs.length))]) rfl q) ?_
  refine own_tp (.int (Int32.ofNat cs.length)) 16 (fun _ q => XS.iloadN X52.here hx rfl (hb hby d104_15) rfl q) ?_
  refine own_tp (.ref b1) 17 (fun _ q => XS.aloadN X52.here hx rfl (hb hby d104_16) rfl rfl q) ?_
  obtain ⟨cl53, Ar53, -, Sz53, Nn53, -, -⟩ := (id V1)
  refine own_t1 (.int (Int32.ofNat cs.length)) 18 (fun t q => X52.arraylength hx (by rw [eq52]; exact Ar53.1) (State.isArrayOf_alike hZ.alike Ar53.2.1) (g := (mkF m 17 #[.val (.ref b1), .val (.int p1), .val (.int (0 : Int32)), .val (.int (Int32.ofNat cs.length))] [(.ref b1), (.int (Int32.ofNat cs.length))])) rfl rfl (hb hby d104_17) _ (by rw [len_of Sz53 Nn53]; exact q)) ?_
  obtain ⟨_, _, ⟨T54, L54, k54, n54⟩, -, X54, ⟨Lc54, hQ54, l54, y54, z54⟩, st54⟩ := Jvm.LawKit.callS X52 hx (y := (⟨"java/lang/Math", "min", "(II)I"⟩ : MethodName)) hown (mvT hZ (hw _ (List.mem_of_getElem? (i := 72) rfl))) (mvT hZ (hw _ (List.mem_of_getElem? (i := 73) rfl))) (mvT hZ (hw _ (List.mem_of_getElem? (i := 70) rfl))) (mvT hZ (hw _ (List.mem_of_getElem? (i := 74) rfl))) (by decide) (backOf (W := 0) (rm101 l Z a0 hw [] (Int32.ofNat cs.length) (Int32.ofNat cs.length) (Int32.ofNat cs.length) h0 n0 ⟨fun _ => rfl, fun _ => rfl⟩) hZ (hw _ (List.mem_of_getElem? (i := 74) rfl)) (hw _ (List.mem_of_getElem? (i := 70) rfl)) (by decide) (by decide)) (g := (mkF m 18 #[.val (.ref b1), .val (.int p1), .val (.int (0 : Int32)), .val (.int (Int32.ofNat cs.length))] [(.int (Int32.ofNat cs.length)), (.int (Int32.ofNat cs.length))])) rfl (by rw [hml]; rfl) (argsL := [(.int (Int32.ofNat cs.length)), (.int (Int32.ofNat cs.length))]) (rest := []) (lenOf pd104_1 rfl) rfl (by show 2 * 0 + _ ≤ _; exact Nat.le_of_eq rfl) (hb hby d104_18) (fun _ _ => ⟨rfl, eq52, (by decide : 0 + 0 ≤ _), (by decide : 0 + 0 ≤ _)⟩)
  dsimp only [Pt.U, Pt.locs, Pt.cells, Pt.slots] at X54 l54 y54 z54 st54 hQ54
  subst l54 y54 z54
  obtain ⟨rfl, Nq54, eq54⟩ := hQ54
  have N54 := Fr.app N52 Nq54
  refine own_d1 21 st54 ?_
  refine own_d1 22 (fun _ q => XS.istoreN X54.here hx rfl (hb hby d104_21) rfl (l' := #[.val (.ref b1), .val (.int p1), .val (.int (0 : Int32)), .val (.int (Int32.ofNat cs.length))]) rfl q) ?_
  refine own_tp (.int (0 : Int32)) 23 (fun _ q => XS.iloadN X54.here hx rfl (hb hby d104_22) rfl q) ?_
  refine own_tp (.int (Int32.ofNat cs.length)) 24 (fun _ q => XS.iloadN X54.here hx rfl (hb hby d104_23) rfl q) ?_
  by_cases c55 : (0 : Int32) < (Int32.ofNat cs.length)
  ·
    refine own_d2 29 (fun _ q => XS.icmpYes X54.here hx rfl (pc0 := 24) (pc' := 29) rfl (hb hby d104_24) rfl (tlt c55).1 (by decide) (by decide) q) ?_
    refine own_tp (.ref b1) 30 (fun _ q => XS.aloadN X54.here hx rfl (hb hby d104_29) rfl rfl q) ?_
    refine own_tp (.int p1) 31 (fun _ q => XS.iloadN X54.here hx rfl (hb hby d104_30) rfl q) ?_
    refine own_tp (.int (0 : Int32)) 32 (fun _ q => XS.iloadN X54.here hx rfl (hb hby d104_31) rfl q) ?_
    refine own_tp (.int (Int32.ofNat cs.length)) 33 (fun _ q => XS.iloadN X54.here hx rfl (hb hby d104_32) rfl q) ?_
    obtain ⟨_, _, ⟨T56, L56, k56, n56⟩, -, X56, ⟨Lc56, hQ56, l56, y56, z56⟩, st56⟩ := Jvm.LawKit.callS X54 hx (y := (⟨"java/lang/StringLatin1", "indexOfChar", "([BIII)I"⟩ : MethodName)) hown (mvT hZ (hw _ (List.mem_of_getElem? (i := 88) rfl))) (mvT hZ (hw _ (List.mem_of_getElem? (i := 89) rfl))) (mvT hZ (hw _ (List.mem_of_getElem? (i := 63) rfl))) (mvT hZ (hw _ (List.mem_of_getElem? (i := 90) rfl))) (by decide) (backOf (W := 0) (rm103 l Z a0 hw [] b1 k1 p1 cs h0 n0 hp hl hch hcs V1) hZ (hw _ (List.mem_of_getElem? (i := 90) rfl)) (hw _ (List.mem_of_getElem? (i := 63) rfl)) (by decide) (by decide)) (g := (mkF m 33 #[.val (.ref b1), .val (.int p1), .val (.int (0 : Int32)), .val (.int (Int32.ofNat cs.length))] [(.int (Int32.ofNat cs.length)), (.int (0 : Int32)), (.int p1), (.ref b1)])) rfl (by rw [hml]; rfl) (argsL := [(.ref b1), (.int p1), (.int (0 : Int32)), (.int (Int32.ofNat cs.length))]) (rest := []) (lenOf pd104_2 rfl) rfl (by show 2 * 0 + _ ≤ _; exact Nat.le_of_eq rfl) (hb hby d104_33) (fun _ _ => ⟨rfl, eq54, (by decide : 0 + 0 ≤ _), (by decide : 0 + 0 ≤ _)⟩)
    dsimp only [Pt.U, Pt.locs, Pt.cells, Pt.slots] at X56 l56 y56 z56 st56 hQ56
    subst l56 y56 z56
    obtain ⟨r56, rfl, hR56, Nq56, eq56⟩ := hQ56
    have N56 := Fr.app N54 Nq56
    refine own_cs [(.int r56)] 36 st56 ?_
    exact own_retI X56 hx hrt (hb hby d104_36) hlk (by decide) (by decide) eq56 (⟨r56, rfl, hR56, N56, rfl⟩)
  ·
    refine own_d2 27 (fun _ q => XS.icmpNo X54.here hx rfl (hb hby d104_24) rfl (flt c55).1 q) ?_
    refine own_tp (.int (-1 : Int32)) 28 (fun _ q => XS.iconst X54.here hx rfl (hb hby d104_27) q) ?_
    exact own_retI X54 hx hrt (hb hby d104_28) hlk (by decide) (by decide) eq54 (⟨(-1 : Int32), rfl, Or.inl ⟨by decide, own_none hl c55⟩, N54, rfl⟩)

def Q105 (z : Int32) (h0 : Heap) (n0 : Nat) (v : Option Value) (h : Heap) (L : List Loc) : Prop := v = some (.int z) ∧ Fr n0 L ∧ h = h0

theorem d105_0 : decode jdk_52_method_6_code 0 = .ok (.aload_n 0, 1) := by decide +kernel
theorem d105_1 : decode jdk_52_method_6_code 1 = .ok (.arraylength, 1) := by decide +kernel
theorem d105_2 : decode jdk_52_method_6_code 2 = .ok (.iconst 1, 1) := by decide +kernel
theorem d105_3 : decode jdk_52_method_6_code 3 = .ok (.ishr, 1) := by decide +kernel
theorem d105_4 : decode jdk_52_method_6_code 4 = .ok (.ireturn, 1) := by decide +kernel
theorem pn105 : plainName "java/lang/StringUTF16" = true := by first | (simp [plainName, overriddenIn]; done) | decide +kernel
theorem ef105 (m : MethodId) (x0 : Addr) : entryFrame m #[(.ref x0)] 1 = mkF m 0 #[.val (.ref x0)] [] := by first | (simp [entryFrame, mkF, argsToLocals, Value.category]; done) | rfl
set_option maxRecDepth 65536 in
set_option maxHeartbeats 40000000 in
theorem rm105 (l : Launch) (Z : State) (a0 : Array Value) (hw : ∀ d ∈ tables_1, d.before a0 Z = true) (ws : List Jvm.Cond) (b1 : Addr) (k1 : ClassId) (cs : List Int32) (h0 : Heap) (n0 : Nat) (hl : cs.length ≤ 1000) (V1 : Arv Z h0 b1 k1 .byte (Int32.ofNat (2 * cs.length)) (own_wide cs) (.int (0 : Int32))) :
    own_Met l (⟨"java/lang/StringUTF16", "length", "([B)I"⟩ : MethodName) jdk_52_method_6_code 1 (some .int) ws ({ frames := 0, cells := 0, slots := 0, locals := 0 } : Room) Z #[(.ref b1)] h0 (Q105 (Int32.ofNat cs.length) h0 n0) := by
  refine own_enter #[.val (.ref b1)] (plainFor_of_name pn105) (fun m => ef105 m b1) ?_
  intro p e s m below meth c s₁ hx hby hml hown hnm hZ hrt hlk X0 e0
  have N0 := Fr.nil n0
  refine own_tp (.ref b1) 1 (fun _ q => XS.aloadN X0.here hx rfl (hb hby d105_0) rfl rfl q) ?_
  obtain ⟨cl51, Ar51, -, Sz51, Nn51, -, -⟩ := (id V1)
  refine own_t1 (.int (Int32.ofNat (2 * cs.length))) 2 (fun t q => X0.arraylength hx (by rw [e0]; exact Ar51.1) (State.isArrayOf_alike hZ.alike Ar51.2.1) (g := (mkF m 1 #[.val (.ref b1)] [(.ref b1)])) rfl rfl (hb hby d105_1) _ (by rw [len_of Sz51 Nn51]; exact q)) ?_
  refine own_tp (.int (1 : Int32)) 3 (fun _ q => XS.iconst X0.here hx rfl (hb hby d105_2) q) ?_
  refine own_t2 (.int ((Int32.ofNat (2 * cs.length)) >>> ((1 : Int32) &&& 31))) 4 (fun _ q => XS.ishr X0.here hx rfl (hb hby d105_3) rfl q) ?_
  exact own_retI X0 hx hrt (hb hby d105_4) hlk (by decide) (by decide) e0 (⟨by rw [own_shr1 hl], N0, rfl⟩)

theorem own_nlt {z : Int32} : ¬ z < z := by rw [Int32.lt_iff_toInt_lt]; omega
theorem own_n0 {n : Nat} (h : n ≤ 1000) : ¬ Int32.ofNat n < (0 : Int32) := (own_ofn (by omega)).1

def Q106  (h0 : Heap) (n0 : Nat) (v : Option Value) (h : Heap) (L : List Loc) : Prop := v = some (.int (0 : Int32)) ∧ Fr n0 L ∧ h = h0

theorem d106_0 : decode jdk_41_method_12_code 0 = .ok (.iload_n 0, 1) := by decide +kernel
theorem d106_1 : decode jdk_41_method_12_code 1 = .ok (.ifCond .lt 13, 3) := by decide +kernel
theorem d106_4 : decode jdk_41_method_12_code 4 = .ok (.iload_n 0, 1) := by decide +kernel
theorem d106_5 : decode jdk_41_method_12_code 5 = .ok (.iload_n 1, 1) := by decide +kernel
theorem d106_6 : decode jdk_41_method_12_code 6 = .ok (.if_icmp .gt 8, 3) := by decide +kernel
theorem d106_9 : decode jdk_41_method_12_code 9 = .ok (.iload_n 1, 1) := by decide +kernel
theorem d106_10 : decode jdk_41_method_12_code 10 = .ok (.iload_n 2, 1) := by decide +kernel
theorem d106_11 : decode jdk_41_method_12_code 11 = .ok (.if_icmp .le 11, 3) := by decide +kernel
theorem d106_22 : decode jdk_41_method_12_code 22 = .ok (.iload_n 0, 1) := by decide +kernel
theorem d106_23 : decode jdk_41_method_12_code 23 = .ok (.ireturn, 1) := by decide +kernel
theorem pn106 : plainName "jdk/internal/util/Preconditions" = true := by first | (simp [plainName, overriddenIn]; done) | decide +kernel
theorem ef106 (m : MethodId) (x0 : Int32) (x1 : Int32) (x2 : Int32) (x3 : Value) (hx3 : x3.isRef = true) : entryFrame m #[(.int x0), (.int x1), (.int x2), x3] 4 = mkF m 0 #[.val (.int x0), .val (.int x1), .val (.int x2), .val x3] [] := by simp [entryFrame, mkF, argsToLocals, own_cat1 hx3, own_catI, own_catJ, own_catR]
set_option maxRecDepth 65536 in
set_option maxHeartbeats 40000000 in
theorem rm106 (l : Launch) (Z : State) (a0 : Array Value) (hw : ∀ d ∈ tables_1, d.before a0 Z = true) (ws : List Jvm.Cond) (cs : List Int32) (G3 : Value) (h0 : Heap) (n0 : Nat) (rG3 : G3.isRef = true) (hl : cs.length ≤ 1000) :
    own_Met l (⟨"jdk/internal/util/Preconditions", "checkFromToIndex", "(IIILjava/util/function/BiFunction;)I"⟩ : MethodName) jdk_41_method_12_code 4 (some .int) ws ({ frames := 0, cells := 0, slots := 0, locals := 0 } : Room) Z #[(.int (0 : Int32)), (.int (Int32.ofNat cs.length)), (.int (Int32.ofNat cs.length)), G3] h0 (Q106 h0 n0) := by
  refine own_enter #[.val (.int (0 : Int32)), .val (.int (Int32.ofNat cs.length)), .val (.int (Int32.ofNat cs.length)), .val G3] (plainFor_of_name pn106) (fun m => ef106 m (0 : Int32) (Int32.ofNat cs.length) (Int32.ofNat cs.length) G3 rG3) ?_
  intro p e s m below meth c s₁ hx hby hml hown hnm hZ hrt hlk X0 e0
  have N0 := Fr.nil n0
  refine own_tp (.int (0 : Int32)) 1 (fun _ q => XS.iloadN X0.here hx rfl (hb hby d106_0) rfl q) ?_
  refine own_d1 4 (fun _ q => XS.ifNo X0.here hx rfl (hb hby d106_1) rfl ((if0 _ _).trans (flt (by decide : ¬ ((0 : Int32) < (0 : Int32)))).1) q) ?_
  refine own_tp (.int (0 : Int32)) 5 (fun _ q => XS.iloadN X0.here hx rfl (hb hby d106_4) rfl q) ?_
  refine own_tp (.int (Int32.ofNat cs.length)) 6 (fun _ q => XS.iloadN X0.here hx rfl (hb hby d106_5) rfl q) ?_
  refine own_d2 9 (fun _ q => XS.icmpNo X0.here hx rfl (hb hby d106_6) rfl (flt (own_n0 hl)).2.2.1 q) ?_
  refine own_tp (.int (Int32.ofNat cs.length)) 10 (fun _ q => XS.iloadN X0.here hx rfl (hb hby d106_9) rfl q) ?_
  refine own_tp (.int (Int32.ofNat cs.length)) 11 (fun _ q => XS.iloadN X0.here hx rfl (hb hby d106_10) rfl q) ?_
  refine own_d2 22 (fun _ q => XS.icmpYes X0.here hx rfl (pc0 := 11) (pc' := 22) rfl (hb hby d106_11) rfl (flt own_nlt).2.2.2 (by decide) (by decide) q) ?_
  refine own_tp (.int (0 : Int32)) 23 (fun _ q => XS.iloadN X0.here hx rfl (hb hby d106_22) rfl q) ?_
  exact own_retI X0 hx hrt (hb hby d106_23) hlk (by decide) (by decide) e0 (⟨rfl, N0, rfl⟩)

def Q107  (h0 : Heap) (n0 : Nat) (v : Option Value) (h : Heap) (L : List Loc) : Prop := v = none ∧ Fr n0 L ∧ h = h0

theorem d107_0 : decode jdk_42_method_158_code 0 = .ok (.iload_n 0, 1) := by decide +kernel
theorem d107_1 : decode jdk_42_method_158_code 1 = .ok (.iload_n 1, 1) := by decide +kernel
theorem d107_2 : decode jdk_42_method_158_code 2 = .ok (.iload_n 2, 1) := by decide +kernel
theorem d107_3 : decode jdk_42_method_158_code 3 = .ok (.getstatic 1053, 3) := by decide +kernel
theorem d107_6 : decode jdk_42_method_158_code 6 = .ok (.invokestatic 1062, 3) := by decide +kernel
theorem d107_9 : decode jdk_42_method_158_code 9 = .ok (.pop, 1) := by decide +kernel
theorem d107_10 : decode jdk_42_method_158_code 10 = .ok (.return_, 1) := by decide +kernel
theorem pn107 : plainName "java/lang/String" = true := by first | (simp [plainName, overriddenIn]; done) | decide +kernel
theorem pd107_0 : parseMethodDescriptor "(IIILjava/util/function/BiFunction;)I" = some ⟨[.int, .int, .int, (.object "java/util/function/BiFunction")], some .int⟩ := by decide +kernel
theorem ef107 (m : MethodId) (x0 : Int32) (x1 : Int32) (x2 : Int32) : entryFrame m #[(.int x0), (.int x1), (.int x2)] 3 = mkF m 0 #[.val (.int x0), .val (.int x1), .val (.int x2)] [] := by first | (simp [entryFrame, mkF, argsToLocals, Value.category]; done) | rfl
set_option maxRecDepth 65536 in
set_option maxHeartbeats 40000000 in
theorem rm107 (l : Launch) (Z : State) (a0 : Array Value) (hw : ∀ d ∈ tables_1, d.before a0 Z = true) (ws : List Jvm.Cond) (cs : List Int32) (h0 : Heap) (n0 : Nat) (hl : cs.length ≤ 1000) (O0 : Old Z n0 h0) (G3 : Value) (rG3 : G3.isRef = true) (Sf : Sta Z Z.heap "jdk/internal/util/Preconditions" "SIOOBE_FORMATTER" "Ljava/util/function/BiFunction;" G3) :
    own_Met l (⟨"java/lang/String", "checkBoundsBeginEnd", "(III)V"⟩ : MethodName) jdk_42_method_158_code 3 none ws ({ frames := 1, cells := 0, slots := 0, locals := 15 } : Room) Z #[(.int (0 : Int32)), (.int (Int32.ofNat cs.length)), (.int (Int32.ofNat cs.length))] h0 (Q107 h0 n0) := by
  refine own_enter #[.val (.int (0 : Int32)), .val (.int (Int32.ofNat cs.length)), .val (.int (Int32.ofNat cs.length))] (plainFor_of_name pn107) (fun m => ef107 m (0 : Int32) (Int32.ofNat cs.length) (Int32.ofNat cs.length)) ?_
  intro p e s m below meth c s₁ hx hby hml hown hnm hZ hrt hlk X0 e0
  have N0 := Fr.nil n0
  refine own_tp (.int (0 : Int32)) 1 (fun _ q => XS.iloadN X0.here hx rfl (hb hby d107_0) rfl q) ?_
  refine own_tp (.int (Int32.ofNat cs.length)) 2 (fun _ q => XS.iloadN X0.here hx rfl (hb hby d107_1) rfl q) ?_
  refine own_tp (.int (Int32.ofNat cs.length)) 3 (fun _ q => XS.iloadN X0.here hx rfl (hb hby d107_2) rfl q) ?_
  obtain ⟨T51, X51, e51, st51⟩ := getS2 X0 hx hZ hown (host := "") (Or.inl (hw _ (List.mem_of_getElem? (i := 129) rfl))) Via.refl e0 (Sf.ext O0.2) (g := (mkF m 3 #[.val (.int (0 : Int32)), .val (.int (Int32.ofNat cs.length)), .val (.int (Int32.ofNat cs.length))] [(.int (Int32.ofNat cs.length)), (.int (Int32.ofNat cs.length)), (.int (0 : Int32))])) rfl (hb hby d107_3)
  refine own_tp G3 6 st51 ?_
  obtain ⟨_, _, ⟨T52, L52, k52, n52⟩, -, X52, ⟨Lc52, hQ52, l52, y52, z52⟩, st52⟩ := Jvm.LawKit.callS X51 hx (y := (⟨"jdk/internal/util/Preconditions", "checkFromToIndex", "(IIILjava/util/function/BiFunction;)I"⟩ : MethodName)) hown (mvT hZ (hw _ (List.mem_of_getElem? (i := 131) rfl))) (mvT hZ (hw _ (List.mem_of_getElem? (i := 132) rfl))) (mvT hZ (hw _ (List.mem_of_getElem? (i := 130) rfl))) (mvT hZ (hw _ (List.mem_of_getElem? (i := 133) rfl))) (by decide) (backOf (W := 0) (rm106 l Z a0 hw [] cs G3 h0 n0 rG3 hl) hZ (hw _ (List.mem_of_getElem? (i := 133) rfl)) (hw _ (List.mem_of_getElem? (i := 130) rfl)) (by decide) (by decide)) (g := (mkF m 6 #[.val (.int (0 : Int32)), .val (.int (Int32.ofNat cs.length)), .val (.int (Int32.ofNat cs.length))] [G3, (.int (Int32.ofNat cs.length)), (.int (Int32.ofNat cs.length)), (.int (0 : Int32))])) rfl (by rw [hml]; rfl) (argsL := [(.int (0 : Int32)), (.int (Int32.ofNat cs.length)), (.int (Int32.ofNat cs.length)), G3]) (rest := []) (lenOf pd107_0 rfl) rfl (by show 2 * 0 + _ ≤ _; exact Nat.le_of_eq rfl) (hb hby d107_6) (fun _ _ => ⟨rfl, e51, (by decide : 0 + 0 ≤ _), (by decide : 0 + 0 ≤ _)⟩)
  dsimp only [Pt.U, Pt.locs, Pt.cells, Pt.slots] at X52 l52 y52 z52 st52 hQ52
  subst l52 y52 z52
  obtain ⟨rfl, Nq52, eq52⟩ := hQ52
  have N52 := Fr.app N0 Nq52
  refine own_cs [(.int (0 : Int32))] 9 st52 ?_
  refine own_d1 10 (fun _ q => XS.pop X52.here hx rfl (hb hby d107_9) rfl rfl q) ?_
  exact own_retV X52 hx hrt (hb hby d107_10) hlk (by decide) (by decide) eq52 (⟨rfl, N52, rfl⟩)

def Q108  (h0 : Heap) (n0 : Nat) (v : Option Value) (h : Heap) (L : List Loc) : Prop := v = none ∧ Fr n0 L ∧ h = h0

theorem d108_0 : decode jdk_52_method_93_code 0 = .ok (.iload_n 0, 1) := by decide +kernel
theorem d108_1 : decode jdk_52_method_93_code 1 = .ok (.iload_n 1, 1) := by decide +kernel
theorem d108_2 : decode jdk_52_method_93_code 2 = .ok (.aload_n 2, 1) := by decide +kernel
theorem d108_3 : decode jdk_52_method_93_code 3 = .ok (.invokestatic 48, 3) := by decide +kernel
theorem d108_6 : decode jdk_52_method_93_code 6 = .ok (.invokestatic 241, 3) := by decide +kernel
theorem d108_9 : decode jdk_52_method_93_code 9 = .ok (.return_, 1) := by decide +kernel
theorem pn108 : plainName "java/lang/StringUTF16" = true := by first | (simp [plainName, overriddenIn]; done) | decide +kernel
theorem pd108_0 : parseMethodDescriptor "([B)I" = some ⟨[(.array .byte)], some .int⟩ := by decide +kernel
theorem pd108_1 : parseMethodDescriptor "(III)V" = some ⟨[.int, .int, .int], none⟩ := by decide +kernel
theorem ef108 (m : MethodId) (x0 : Int32) (x1 : Int32) (x2 : Addr) : entryFrame m #[(.int x0), (.int x1), (.ref x2)] 3 = mkF m 0 #[.val (.int x0), .val (.int x1), .val (.ref x2)] [] := by first | (simp [entryFrame, mkF, argsToLocals, Value.category]; done) | rfl
set_option maxRecDepth 65536 in
set_option maxHeartbeats 40000000 in
theorem rm108 (l : Launch) (Z : State) (a0 : Array Value) (hw : ∀ d ∈ tables_1, d.before a0 Z = true) (ws : List Jvm.Cond) (b1 : Addr) (k1 : ClassId) (cs : List Int32) (h0 : Heap) (n0 : Nat) (hl : cs.length ≤ 1000) (O0 : Old Z n0 h0) (V1 : Arv Z h0 b1 k1 .byte (Int32.ofNat (2 * cs.length)) (own_wide cs) (.int (0 : Int32))) (G3 : Value) (rG3 : G3.isRef = true) (Sf : Sta Z Z.heap "jdk/internal/util/Preconditions" "SIOOBE_FORMATTER" "Ljava/util/function/BiFunction;" G3) :
    own_Met l (⟨"java/lang/StringUTF16", "checkBoundsBeginEnd", "(II[B)V"⟩ : MethodName) jdk_52_method_93_code 3 none ws ({ frames := 2, cells := 0, slots := 0, locals := 31 } : Room) Z #[(.int (0 : Int32)), (.int (Int32.ofNat cs.length)), (.ref b1)] h0 (Q108 h0 n0) := by
  refine own_enter #[.val (.int (0 : Int32)), .val (.int (Int32.ofNat cs.length)), .val (.ref b1)] (plainFor_of_name pn108) (fun m => ef108 m (0 : Int32) (Int32.ofNat cs.length) b1) ?_
  intro p e s m below meth c s₁ hx hby hml hown hnm hZ hrt hlk X0 e0
  have N0 := Fr.nil n0
  refine own_tp (.int (0 : Int32)) 1 (fun _ q => XS.iloadN X0.here hx rfl (hb hby d108_0) rfl q) ?_
  refine own_tp (.int (Int32.ofNat cs.length)) 2 (fun _ q => XS.iloadN X0.here hx rfl (hb hby d108_1) rfl q) ?_
  refine own_tp (.ref b1) 3 (fun _ q => XS.aloadN X0.here hx rfl (hb hby d108_2) rfl rfl q) ?_
  obtain ⟨_, _, ⟨T51, L51, k51, n51⟩, -, X51, ⟨Lc51, hQ51, l51, y51, z51⟩, st51⟩ := Jvm.LawKit.callS X0 hx (y := (⟨"java/lang/StringUTF16", "length", "([B)I"⟩ : MethodName)) hown (mvT hZ (hw _ (List.mem_of_getElem? (i := 123) rfl))) (mvT hZ (hw _ (List.mem_of_getElem? (i := 124) rfl))) (mvT hZ (hw _ (List.mem_of_getElem? (i := 77) rfl))) (mvT hZ (hw _ (List.mem_of_getElem? (i := 125) rfl))) (by decide) (backOf (W := 2) (rm105 l Z a0 hw [] b1 k1 cs h0 n0 hl V1) hZ (hw _ (List.mem_of_getElem? (i := 125) rfl)) (hw _ (List.mem_of_getElem? (i := 77) rfl)) (by decide) (by decide)) (g := (mkF m 3 #[.val (.int (0 : Int32)), .val (.int (Int32.ofNat cs.length)), .val (.ref b1)] [(.ref b1), (.int (Int32.ofNat cs.length)), (.int (0 : Int32))])) rfl (by rw [hml]; rfl) (argsL := [(.ref b1)]) (rest := [(.int (Int32.ofNat cs.length)), (.int (0 : Int32))]) (lenOf pd108_0 rfl) rfl (by show 2 * 0 + _ ≤ _; exact Nat.le_of_eq rfl) (hb hby d108_3) (fun _ _ => ⟨rfl, e0, (by decide : 0 + 0 ≤ _), (by decide : 0 + 0 ≤ _)⟩)
  dsimp only [Pt.U, Pt.locs, Pt.cells, Pt.slots] at X51 l51 y51 z51 st51 hQ51
  subst l51 y51 z51
  obtain ⟨rfl, Nq51, eq51⟩ := hQ51
  have N51 := Fr.app N0 Nq51
  refine own_t1 (.int (Int32.ofNat cs.length)) 6 st51 ?_
  obtain ⟨_, _, ⟨T52, L52, k52, n52⟩, -, X52, ⟨Lc52, hQ52, l52, y52, z52⟩, st52⟩ := Jvm.LawKit.callS X51 hx (y := (⟨"java/lang/String", "checkBoundsBeginEnd", "(III)V"⟩ : MethodName)) hown (mvT hZ (hw _ (List.mem_of_getElem? (i := 126) rfl))) (mvT hZ (hw _ (List.mem_of_getElem? (i := 127) rfl))) (mvT hZ (hw _ (List.mem_of_getElem? (i := 11) rfl))) (mvT hZ (hw _ (List.mem_of_getElem? (i := 128) rfl))) (by decide) (backOf (W := 0) (rm107 l Z a0 hw [] cs h0 n0 hl O0 G3 rG3 Sf) hZ (hw _ (List.mem_of_getElem? (i := 128) rfl)) (hw _ (List.mem_of_getElem? (i := 11) rfl)) (by decide) (by decide)) (g := (mkF m 6 #[.val (.int (0 : Int32)), .val (.int (Int32.ofNat cs.length)), .val (.ref b1)] [(.int (Int32.ofNat cs.length)), (.int (Int32.ofNat cs.length)), (.int (0 : Int32))])) rfl (by rw [hml]; rfl) (argsL := [(.int (0 : Int32)), (.int (Int32.ofNat cs.length)), (.int (Int32.ofNat cs.length))]) (rest := []) (lenOf pd108_1 rfl) rfl (by show 2 * 0 + _ ≤ _; exact Nat.le_of_eq rfl) (hb hby d108_6) (fun _ _ => ⟨rfl, eq51, (by decide : 0 + 0 ≤ _), (by decide : 0 + 0 ≤ _)⟩)
  dsimp only [Pt.U, Pt.locs, Pt.cells, Pt.slots] at X52 l52 y52 z52 st52 hQ52
  subst l52 y52 z52
  obtain ⟨rfl, Nq52, eq52⟩ := hQ52
  have N52 := Fr.app N51 Nq52
  refine own_cs [] 9 st52 ?_
  exact own_retV X52 hx hrt (hb hby d108_9) hlk (by decide) (by decide) eq52 (⟨rfl, N52, rfl⟩)

def Q109 (r : Int32) (h0 : Heap) (n0 : Nat) (v : Option Value) (h : Heap) (L : List Loc) : Prop := v = some (.int r) ∧ Fr n0 L ∧ h = h0

theorem d109_0 : decode jdk_52_method_5_code 0 = .ok (.getstatic 44, 3) := by decide +kernel
theorem d109_3 : decode jdk_52_method_5_code 3 = .ok (.ifCond .ne 25, 3) := by decide +kernel
theorem d109_28 : decode jdk_52_method_5_code 28 = .ok (.iload_n 1, 1) := by decide +kernel
theorem d109_29 : decode jdk_52_method_5_code 29 = .ok (.iconst 1, 1) := by decide +kernel
theorem d109_30 : decode jdk_52_method_5_code 30 = .ok (.ishl, 1) := by decide +kernel
theorem d109_31 : decode jdk_52_method_5_code 31 = .ok (.istore_n 1, 1) := by decide +kernel
theorem d109_32 : decode jdk_52_method_5_code 32 = .ok (.aload_n 0, 1) := by decide +kernel
theorem d109_33 : decode jdk_52_method_5_code 33 = .ok (.iload_n 1, 1) := by decide +kernel
theorem d109_34 : decode jdk_52_method_5_code 34 = .ok (.iinc 1 1, 3) := by decide +kernel
theorem d109_37 : decode jdk_52_method_5_code 37 = .ok (.baload, 1) := by decide +kernel
theorem d109_38 : decode jdk_52_method_5_code 38 = .ok (.sipush 255, 3) := by decide +kernel
theorem d109_41 : decode jdk_52_method_5_code 41 = .ok (.iand, 1) := by decide +kernel
theorem d109_42 : decode jdk_52_method_5_code 42 = .ok (.getstatic 59, 3) := by decide +kernel
theorem d109_45 : decode jdk_52_method_5_code 45 = .ok (.ishl, 1) := by decide +kernel
theorem d109_46 : decode jdk_52_method_5_code 46 = .ok (.aload_n 0, 1) := by decide +kernel
theorem d109_47 : decode jdk_52_method_5_code 47 = .ok (.iload_n 1, 1) := by decide +kernel
theorem d109_48 : decode jdk_52_method_5_code 48 = .ok (.baload, 1) := by decide +kernel
theorem d109_49 : decode jdk_52_method_5_code 49 = .ok (.sipush 255, 3) := by decide +kernel
theorem d109_52 : decode jdk_52_method_5_code 52 = .ok (.iand, 1) := by decide +kernel
theorem d109_53 : decode jdk_52_method_5_code 53 = .ok (.getstatic 63, 3) := by decide +kernel
theorem d109_56 : decode jdk_52_method_5_code 56 = .ok (.ishl, 1) := by decide +kernel
theorem d109_57 : decode jdk_52_method_5_code 57 = .ok (.ior, 1) := by decide +kernel
theorem d109_58 : decode jdk_52_method_5_code 58 = .ok (.i2c, 1) := by decide +kernel
theorem d109_59 : decode jdk_52_method_5_code 59 = .ok (.ireturn, 1) := by decide +kernel
theorem pn109 : plainName "java/lang/StringUTF16" = true := by first | (simp [plainName, overriddenIn]; done) | decide +kernel
theorem ef109 (m : MethodId) (x0 : Addr) (x1 : Int32) : entryFrame m #[(.ref x0), (.int x1)] 2 = mkF m 0 #[.val (.ref x0), .val (.int x1)] [] := by first | (simp [entryFrame, mkF, argsToLocals, Value.category]; done) | rfl
set_option maxRecDepth 65536 in
set_option maxHeartbeats 40000000 in
theorem rm109 (l : Launch) (Z : State) (a0 : Array Value) (hw : ∀ d ∈ tables_1, d.before a0 Z = true) (ws : List Jvm.Cond) (b1 : Addr) (k1 : ClassId) (i : Nat) (cs : List Int32) (h0 : Heap) (n0 : Nat) (hi : i < cs.length) (hl : cs.length ≤ 1000) (hc : 0 ≤ (cs.getD i 0).toInt ∧ (cs.getD i 0).toInt ≤ 65535) (V1 : Arv Z h0 b1 k1 .byte (Int32.ofNat (2 * cs.length)) (own_wide cs) (.int (0 : Int32))) (G1 : Int32) (US : own_US Z G1) (O0 : Old Z n0 h0) :
    own_Met l (⟨"java/lang/StringUTF16", "getChar", "([BI)C"⟩ : MethodName) jdk_52_method_5_code 2 (some .char) ws ({ frames := 0, cells := 0, slots := 0, locals := 0 } : Room) Z #[(.ref b1), (.int (Int32.ofNat i))] h0 (Q109 (cs.getD i 0) h0 n0) := by
  refine own_enter #[.val (.ref b1), .val (.int (Int32.ofNat i))] (plainFor_of_name pn109) (fun m => ef109 m b1 (Int32.ofNat i)) ?_
  intro p e s m below meth c s₁ hx hby hml hown hnm hZ hrt hlk X0 e0
  have N0 := Fr.nil n0
  obtain ⟨T51, X51, e51, st51⟩ := getS2 X0 hx hZ hown (host := "") (Or.inl (hw _ (List.mem_of_getElem? (i := 105) rfl))) Via.refl e0 (US.2.2.1.ext O0.2) (g := (mkF m 0 #[.val (.ref b1), .val (.int (Int32.ofNat i))] [])) rfl (hb hby d109_0)
  refine own_tp (.int (1 : Int32)) 3 st51 ?_
  refine own_d1 28 (fun _ q => XS.ifYes X51.here hx rfl (pc0 := 3) (pc' := 28) rfl (hb hby d109_3) rfl ((if0 _ _).trans (feq (by decide : ¬ ((1 : Int32) = (0 : Int32)))).2) (by decide) (by decide) q) ?_
  refine own_tp (.int (Int32.ofNat i)) 29 (fun _ q => XS.iloadN X51.here hx rfl (hb hby d109_28) rfl q) ?_
  refine own_tp (.int (1 : Int32)) 30 (fun _ q => XS.iconst X51.here hx rfl (hb hby d109_29) q) ?_
  refine own_t2 (.int ((Int32.ofNat i) <<< ((1 : Int32) &&& 31))) 31 (fun _ q => XS.ishl X51.here hx rfl (hb hby d109_30) rfl q) ?_
  rw [own_shl1 (by omega)]
  refine own_ls #[.val (.ref b1), .val (.int (Int32.ofNat (2 * i)))] 32 (fun _ q => XS.istoreN X51.here hx rfl (hb hby d109_31) rfl (l' := #[.val (.ref b1), .val (.int (Int32.ofNat (2 * i)))]) rfl q) ?_
  refine own_tp (.ref b1) 33 (fun _ q => XS.aloadN X51.here hx rfl (hb hby d109_32) rfl rfl q) ?_
  refine own_tp (.int (Int32.ofNat (2 * i))) 34 (fun _ q => XS.iloadN X51.here hx rfl (hb hby d109_33) rfl q) ?_
  refine own_li #[.val (.ref b1), .val (.int ((Int32.ofNat (2 * i)) + (1 : Int32)))] 37 (fun _ q => XS.iinc X51.here hx rfl (hb hby d109_34) rfl (l' := #[.val (.ref b1), .val (.int ((Int32.ofNat (2 * i)) + (1 : Int32)))]) rfl q) ?_
  rw [own_succ]
  obtain ⟨cl52, Ar52, q52, S52, Nn52, H52, G52⟩ := (id V1)
  have hin52 : ¬ ((Int32.ofNat (2 * i)) < 0 ∨ cl52.slots.size ≤ ((Int32.ofNat (2 * i))).toNatClampNeg) := inb_of S52 (own_inb (by omega) (by omega))
  have hat52 : cl52.slots[((Int32.ofNat (2 * i))).toNatClampNeg]? = some (.int (own_b0 (cs.getD i 0))) := H52.at hin52 (by rw [(own_ofn (by omega)).2]; exact own_wide_0 _ cs i hi)
  refine own_t2 (.int (own_b0 (cs.getD i 0))) 38 (fun _ q => X51.baloadBytes hx (j := (Int32.ofNat (2 * i))) (v := (.int (own_b0 (cs.getD i 0)))) (by rw [e51]; exact Ar52.1) (State.isArrayOf_alike hZ.alike Ar52.2.1) Ar52.2.2 hin52 hat52 (g := (mkF m 37 #[.val (.ref b1), .val (.int (Int32.ofNat (2 * i + 1)))] [(.int (Int32.ofNat (2 * i))), (.ref b1)])) rfl rfl (hb hby d109_37) _ q) ?_
  refine own_tp (.int (255 : Int32)) 41 (fun _ q => XS.sipush X51.here hx rfl (hb hby d109_38) q) ?_
  refine own_t2 (.int ((own_b0 (cs.getD i 0)) &&& (255 : Int32))) 42 (fun _ q => XS.iand X51.here hx rfl (hb hby d109_41) rfl q) ?_
  obtain ⟨T53, X53, e53, st53⟩ := getS2 X51 hx hZ hown (host := "") (Or.inl (hw _ (List.mem_of_getElem? (i := 106) rfl))) Via.refl e51 (US.2.2.2.1.ext O0.2) (g := (mkF m 42 #[.val (.ref b1), .val (.int (Int32.ofNat (2 * i + 1)))] [(.int ((own_b0 (cs.getD i 0)) &&& (255 : Int32)))])) rfl (hb hby d109_42)
  refine own_tp (.int (0 : Int32)) 45 st53 ?_
  refine own_t2 (.int (((own_b0 (cs.getD i 0)) &&& (255 : Int32)) <<< ((0 : Int32) &&& 31))) 46 (fun _ q => XS.ishl X53.here hx rfl (hb hby d109_45) rfl q) ?_
  refine own_tp (.ref b1) 47 (fun _ q => XS.aloadN X53.here hx rfl (hb hby d109_46) rfl rfl q) ?_
  refine own_tp (.int (Int32.ofNat (2 * i + 1))) 48 (fun _ q => XS.iloadN X53.here hx rfl (hb hby d109_47) rfl q) ?_
  obtain ⟨cl54, Ar54, q54, S54, Nn54, H54, G54⟩ := (id V1)
  have hin54 : ¬ ((Int32.ofNat (2 * i + 1)) < 0 ∨ cl54.slots.size ≤ ((Int32.ofNat (2 * i + 1))).toNatClampNeg) := inb_of S54 (own_inb (by omega) (by omega))
  have hat54 : cl54.slots[((Int32.ofNat (2 * i + 1))).toNatClampNeg]? = some (.int (own_b1 (cs.getD i 0))) := H54.at hin54 (by rw [(own_ofn (by omega)).2]; exact own_wide_1 _ cs i hi)
  refine own_t2 (.int (own_b1 (cs.getD i 0))) 49 (fun _ q => X53.baloadBytes hx (j := (Int32.ofNat (2 * i + 1))) (v := (.int (own_b1 (cs.getD i 0)))) (by rw [e53]; exact Ar54.1) (State.isArrayOf_alike hZ.alike Ar54.2.1) Ar54.2.2 hin54 hat54 (g := (mkF m 48 #[.val (.ref b1), .val (.int (Int32.ofNat (2 * i + 1)))] [(.int (Int32.ofNat (2 * i + 1))), (.ref b1), (.int (((own_b0 (cs.getD i 0)) &&& (255 : Int32)) <<< ((0 : Int32) &&& 31)))])) rfl rfl (hb hby d109_48) _ q) ?_
  refine own_tp (.int (255 : Int32)) 52 (fun _ q => XS.sipush X53.here hx rfl (hb hby d109_49) q) ?_
  refine own_t2 (.int ((own_b1 (cs.getD i 0)) &&& (255 : Int32))) 53 (fun _ q => XS.iand X53.here hx rfl (hb hby d109_52) rfl q) ?_
  obtain ⟨T55, X55, e55, st55⟩ := getS2 X53 hx hZ hown (host := "") (Or.inl (hw _ (List.mem_of_getElem? (i := 107) rfl))) Via.refl e53 (US.2.2.2.2.ext O0.2) (g := (mkF m 53 #[.val (.ref b1), .val (.int (Int32.ofNat (2 * i + 1)))] [(.int ((own_b1 (cs.getD i 0)) &&& (255 : Int32))), (.int (((own_b0 (cs.getD i 0)) &&& (255 : Int32)) <<< ((0 : Int32) &&& 31)))])) rfl (hb hby d109_53)
  refine own_tp (.int (8 : Int32)) 56 st55 ?_
  refine own_t2 (.int (((own_b1 (cs.getD i 0)) &&& (255 : Int32)) <<< ((8 : Int32) &&& 31))) 57 (fun _ q => XS.ishl X55.here hx rfl (hb hby d109_56) rfl q) ?_
  refine own_t2 (.int ((((own_b0 (cs.getD i 0)) &&& (255 : Int32)) <<< ((0 : Int32) &&& 31)) ||| (((own_b1 (cs.getD i 0)) &&& (255 : Int32)) <<< ((8 : Int32) &&& 31)))) 58 (fun _ q => XS.ior X55.here hx rfl (hb hby d109_57) rfl q) ?_
  refine own_t1 (.int (((((own_b0 (cs.getD i 0)) &&& (255 : Int32)) <<< ((0 : Int32) &&& 31)) ||| (((own_b1 (cs.getD i 0)) &&& (255 : Int32)) <<< ((8 : Int32) &&& 31))).toUInt32.toUInt16.toUInt32.toInt32)) 59 (fun _ q => XS.i2c X55.here hx rfl (hb hby d109_58) rfl q) ?_
  exact own_retN (t := .char) X55 hx hrt (hb hby d109_59) (by simp) hlk (by decide) (by decide) e55 (⟨by rw [own_gc (cs.getD i 0) hc, own_narc hc], N0, rfl⟩)

def Q110 (p1 : Int32) (cs : List Int32) (h0 : Heap) (n0 : Nat) (v : Option Value) (h : Heap) (L : List Loc) : Prop := ∃ r : Int32, v = some (.int r) ∧ own_R p1 cs r ∧ Fr n0 L ∧ h = h0

theorem d110_0 : decode jdk_52_method_48_code 0 = .ok (.iload_n 2, 1) := by decide +kernel
theorem d110_1 : decode jdk_52_method_48_code 1 = .ok (.istore 4, 2) := by decide +kernel
theorem d110_3 : decode jdk_52_method_48_code 3 = .ok (.iload 4, 2) := by decide +kernel
theorem d110_5 : decode jdk_52_method_48_code 5 = .ok (.iload_n 3, 1) := by decide +kernel
theorem d110_6 : decode jdk_52_method_48_code 6 = .ok (.if_icmp .ge 22, 3) := by decide +kernel
theorem d110_9 : decode jdk_52_method_48_code 9 = .ok (.aload_n 0, 1) := by decide +kernel
theorem d110_10 : decode jdk_52_method_48_code 10 = .ok (.iload 4, 2) := by decide +kernel
theorem d110_12 : decode jdk_52_method_48_code 12 = .ok (.invokestatic 71, 3) := by decide +kernel
theorem d110_15 : decode jdk_52_method_48_code 15 = .ok (.iload_n 1, 1) := by decide +kernel
theorem d110_16 : decode jdk_52_method_48_code 16 = .ok (.if_icmp .ne 6, 3) := by decide +kernel
theorem d110_19 : decode jdk_52_method_48_code 19 = .ok (.iload 4, 2) := by decide +kernel
theorem d110_21 : decode jdk_52_method_48_code 21 = .ok (.ireturn, 1) := by decide +kernel
theorem d110_22 : decode jdk_52_method_48_code 22 = .ok (.iinc 4 1, 3) := by decide +kernel
theorem d110_25 : decode jdk_52_method_48_code 25 = .ok (.goto (-22), 3) := by decide +kernel
theorem d110_28 : decode jdk_52_method_48_code 28 = .ok (.iconst (-1), 1) := by decide +kernel
theorem d110_29 : decode jdk_52_method_48_code 29 = .ok (.ireturn, 1) := by decide +kernel
theorem pn110 : plainName "java/lang/StringUTF16" = true := by first | (simp [plainName, overriddenIn]; done) | decide +kernel
theorem pd110_0 : parseMethodDescriptor "([BI)C" = some ⟨[(.array .byte), .int], some .char⟩ := by decide +kernel
theorem ef110 (m : MethodId) (x0 : Addr) (x1 : Int32) (x2 : Int32) (x3 : Int32) : entryFrame m #[(.ref x0), (.int x1), (.int x2), (.int x3)] 5 = mkF m 0 #[.val (.ref x0), .val (.int x1), .val (.int x2), .val (.int x3), .unset] [] := by first | (simp [entryFrame, mkF, argsToLocals, Value.category]; done) | rfl
set_option maxRecDepth 65536 in
set_option maxHeartbeats 40000000 in
theorem rm110 (l : Launch) (Z : State) (a0 : Array Value) (hw : ∀ d ∈ tables_1, d.before a0 Z = true) (ws : List Jvm.Cond) (b1 : Addr) (k1 : ClassId) (p1 : Int32) (cs : List Int32) (h0 : Heap) (n0 : Nat) (hp : 0 ≤ p1.toInt ∧ p1.toInt ≤ 255) (hl : cs.length ≤ 1000) (hch : ∀ c ∈ cs, 0 ≤ c.toInt ∧ c.toInt ≤ 65535) (V1 : Arv Z h0 b1 k1 .byte (Int32.ofNat (2 * cs.length)) (own_wide cs) (.int (0 : Int32))) (G1 : Int32) (US : own_US Z G1) (O0 : Old Z n0 h0) :
    own_Met l (⟨"java/lang/StringUTF16", "indexOfCharUnsafe", "([BIII)I"⟩ : MethodName) jdk_52_method_48_code 5 (some .int) ws ({ frames := 1, cells := 0, slots := 0, locals := 13 } : Room) Z #[(.ref b1), (.int p1), (.int (0 : Int32)), (.int (Int32.ofNat cs.length))] h0 (Q110 p1 cs h0 n0) := by
  refine own_enter #[.val (.ref b1), .val (.int p1), .val (.int (0 : Int32)), .val (.int (Int32.ofNat cs.length)), .unset] (plainFor_of_name pn110) (fun m => ef110 m b1 p1 (0 : Int32) (Int32.ofNat cs.length)) ?_
  intro p e s m below meth c s₁ hx hby hml hown hnm hZ hrt hlk X0 e0
  have N0 := Fr.nil n0
  refine own_tp (.int (0 : Int32)) 1 (fun _ q => XS.iloadN X0.here hx rfl (hb hby d110_0) rfl q) ?_
  refine own_ls #[.val (.ref b1), .val (.int p1), .val (.int (0 : Int32)), .val (.int (Int32.ofNat cs.length)), .val (.int (0 : Int32))] 3 (fun _ q => XS.istore X0.here hx rfl (hb hby d110_1) rfl (l' := #[.val (.ref b1), .val (.int p1), .val (.int (0 : Int32)), .val (.int (Int32.ofNat cs.length)), .val (.int (0 : Int32))]) rfl q) ?_
  have loop : ∀ (r i : Nat) (Tj : State) (lj : List Loc), i + r = cs.length → (∀ j, j < i → cs.getD j 0 ≠ p1) → Stand p l e ({ frames := 1, cells := 0, slots := 0, locals := 13 } : Room) s m #[(.ref b1), (.int p1), (.int (0 : Int32)), (.int (Int32.ofNat cs.length))] below meth c Tj lj 0 0 → Fr n0 lj → Tj.heap = h0 → own_Goes p e below (own_FN s (Q110 p1 cs h0 n0) ({ frames := 1, cells := 0, slots := 0, locals := 13 } : Room).cells ({ frames := 1, cells := 0, slots := 0, locals := 13 } : Room).slots) (Tj.setTop (mkF m 3 #[.val (.ref b1), .val (.int p1), .val (.int (0 : Int32)), .val (.int (Int32.ofNat cs.length)), .val (.int (Int32.ofNat i))] [])) := by
    intro r
    induction r with
    | zero =>
      intro i Tj lj hi hno Xj Nj ej
      have hlt : ¬ (Int32.ofNat i) < (Int32.ofNat cs.length) := fun q => by have := (own_ltn hl (by omega)).mp q; omega
      refine own_tp (.int (Int32.ofNat i)) 5 (fun _ q => XS.iload Xj.here hx rfl (hb hby d110_3) rfl q) ?_
      refine own_tp (.int (Int32.ofNat cs.length)) 6 (fun _ q => XS.iloadN Xj.here hx rfl (hb hby d110_5) rfl q) ?_
      refine own_d2 28 (fun _ q => XS.icmpYes Xj.here hx rfl (pc0 := 6) (pc' := 28) rfl (hb hby d110_6) rfl (flt hlt).2.1 (by decide) (by decide) q) ?_
      refine own_tp (.int (-1 : Int32)) 29 (fun _ q => XS.iconst Xj.here hx rfl (hb hby d110_28) q) ?_
      exact own_retI Xj hx hrt (hb hby d110_29) hlk (by decide) (by decide) ej (⟨(-1 : Int32), rfl, Or.inl ⟨by decide, own_notin (fun j hj => hno j (by omega))⟩, Nj, rfl⟩)
    | succ r ih =>
      intro i Tj lj hi hno Xj Nj ej
      have hlt : (Int32.ofNat i) < (Int32.ofNat cs.length) := (own_ltn hl (by omega)).mpr (by omega)
      refine own_tp (.int (Int32.ofNat i)) 5 (fun _ q => XS.iload Xj.here hx rfl (hb hby d110_3) rfl q) ?_
      refine own_tp (.int (Int32.ofNat cs.length)) 6 (fun _ q => XS.iloadN Xj.here hx rfl (hb hby d110_5) rfl q) ?_
      refine own_d2 9 (fun _ q => XS.icmpNo Xj.here hx rfl (hb hby d110_6) rfl (tlt hlt).2.1 q) ?_
      refine own_tp (.ref b1) 10 (fun _ q => XS.aloadN Xj.here hx rfl (hb hby d110_9) rfl rfl q) ?_
      refine own_tp (.int (Int32.ofNat i)) 12 (fun _ q => XS.iload Xj.here hx rfl (hb hby d110_10) rfl q) ?_
      obtain ⟨_, _, ⟨T51, L51, k51, n51⟩, -, X51, ⟨Lc51, hQ51, l51, y51, z51⟩, st51⟩ := Jvm.LawKit.callS Xj hx (y := (⟨"java/lang/StringUTF16", "getChar", "([BI)C"⟩ : MethodName)) hown (mvT hZ (hw _ (List.mem_of_getElem? (i := 108) rfl))) (mvT hZ (hw _ (List.mem_of_getElem? (i := 109) rfl))) (mvT hZ (hw _ (List.mem_of_getElem? (i := 77) rfl))) (mvT hZ (hw _ (List.mem_of_getElem? (i := 110) rfl))) (by decide) (backOf (W := 0) (rm109 l Z a0 hw [] b1 k1 i cs h0 n0 (by omega) hl (hch _ (own_mem cs i (by omega))) V1 G1 US O0) hZ (hw _ (List.mem_of_getElem? (i := 110) rfl)) (hw _ (List.mem_of_getElem? (i := 77) rfl)) (by decide) (by decide)) (g := (mkF m 12 #[.val (.ref b1), .val (.int p1), .val (.int (0 : Int32)), .val (.int (Int32.ofNat cs.length)), .val (.int (Int32.ofNat i))] [(.int (Int32.ofNat i)), (.ref b1)])) rfl (by rw [hml]; rfl) (argsL := [(.ref b1), (.int (Int32.ofNat i))]) (rest := []) (lenOf pd110_0 rfl) rfl (by show 2 * 0 + _ ≤ _; exact Nat.le_of_eq rfl) (hb hby d110_12) (fun _ _ => ⟨rfl, ej, (by decide : 0 + 0 ≤ _), (by decide : 0 + 0 ≤ _)⟩)
      dsimp only [Pt.U, Pt.locs, Pt.cells, Pt.slots] at X51 l51 y51 z51 st51 hQ51
      subst l51 y51 z51
      obtain ⟨rfl, Nq51, eq51⟩ := hQ51
      have N51 := Fr.app Nj Nq51
      refine own_t2 (.int (cs.getD i 0)) 15 st51 ?_
      refine own_tp (.int p1) 16 (fun _ q => XS.iloadN X51.here hx rfl (hb hby d110_15) rfl q) ?_
      by_cases c52 : (cs.getD i 0) = p1
      ·
        refine own_d2 19 (fun _ q => XS.icmpNo X51.here hx rfl (hb hby d110_16) rfl (teq c52).2 q) ?_
        refine own_tp (.int (Int32.ofNat i)) 21 (fun _ q => XS.iload X51.here hx rfl (hb hby d110_19) rfl q) ?_
        exact own_retI X51 hx hrt (hb hby d110_21) hlk (by decide) (by decide) eq51 (⟨(Int32.ofNat i), rfl, Or.inr ⟨(own_ofn (by omega)).1, c52 ▸ own_mem cs i (by omega)⟩, N51, rfl⟩)
      ·
        refine own_d2 22 (fun _ q => XS.icmpYes X51.here hx rfl (pc0 := 16) (pc' := 22) rfl (hb hby d110_16) rfl (feq c52).2 (by decide) (by decide) q) ?_
        refine own_li #[.val (.ref b1), .val (.int p1), .val (.int (0 : Int32)), .val (.int (Int32.ofNat cs.length)), .val (.int ((Int32.ofNat i) + (1 : Int32)))] 25 (fun _ q => XS.iinc X51.here hx rfl (hb hby d110_22) rfl (l' := #[.val (.ref b1), .val (.int p1), .val (.int (0 : Int32)), .val (.int (Int32.ofNat cs.length)), .val (.int ((Int32.ofNat i) + (1 : Int32)))]) rfl q) ?_
        refine own_d0 3 (fun _ q => XS.goto X51.here hx rfl (pc0 := 25) (pc' := 3) rfl (hb hby d110_25) (by decide) (by decide) q) ?_
        rw [own_succ]
        exact ih (i + 1) T51 _ (by omega) (own_more hno c52) X51 N51 eq51
  exact loop cs.length 0 s₁ _ (by omega) (fun j hj => absurd hj (Nat.not_lt_zero j)) X0 N0 e0

def Q111 (p1 : Int32) (cs : List Int32) (h0 : Heap) (n0 : Nat) (v : Option Value) (h : Heap) (L : List Loc) : Prop := ∃ r : Int32, v = some (.int r) ∧ own_R p1 cs r ∧ Fr n0 L ∧ h = h0

theorem d111_0 : decode jdk_52_method_47_code 0 = .ok (.iload_n 2, 1) := by decide +kernel
theorem d111_1 : decode jdk_52_method_47_code 1 = .ok (.iload_n 3, 1) := by decide +kernel
theorem d111_2 : decode jdk_52_method_47_code 2 = .ok (.aload_n 0, 1) := by decide +kernel
theorem d111_3 : decode jdk_52_method_47_code 3 = .ok (.invokestatic 96, 3) := by decide +kernel
theorem d111_6 : decode jdk_52_method_47_code 6 = .ok (.aload_n 0, 1) := by decide +kernel
theorem d111_7 : decode jdk_52_method_47_code 7 = .ok (.iload_n 1, 1) := by decide +kernel
theorem d111_8 : decode jdk_52_method_47_code 8 = .ok (.iload_n 2, 1) := by decide +kernel
theorem d111_9 : decode jdk_52_method_47_code 9 = .ok (.iload_n 3, 1) := by decide +kernel
theorem d111_10 : decode jdk_52_method_47_code 10 = .ok (.invokestatic 244, 3) := by decide +kernel
theorem d111_13 : decode jdk_52_method_47_code 13 = .ok (.ireturn, 1) := by decide +kernel
theorem pn111 : plainName "java/lang/StringUTF16" = true := by first | (simp [plainName, overriddenIn]; done) | decide +kernel
theorem pd111_0 : parseMethodDescriptor "(II[B)V" = some ⟨[.int, .int, (.array .byte)], none⟩ := by decide +kernel
theorem pd111_1 : parseMethodDescriptor "([BIII)I" = some ⟨[(.array .byte), .int, .int, .int], some .int⟩ := by decide +kernel
theorem ef111 (m : MethodId) (x0 : Addr) (x1 : Int32) (x2 : Int32) (x3 : Int32) : entryFrame m #[(.ref x0), (.int x1), (.int x2), (.int x3)] 4 = mkF m 0 #[.val (.ref x0), .val (.int x1), .val (.int x2), .val (.int x3)] [] := by first | (simp [entryFrame, mkF, argsToLocals, Value.category]; done) | rfl
set_option maxRecDepth 65536 in
set_option maxHeartbeats 40000000 in
theorem rm111 (l : Launch) (Z : State) (a0 : Array Value) (hw : ∀ d ∈ tables_1, d.before a0 Z = true) (ws : List Jvm.Cond) (b1 : Addr) (k1 : ClassId) (p1 : Int32) (cs : List Int32) (h0 : Heap) (n0 : Nat) (hp : 0 ≤ p1.toInt ∧ p1.toInt ≤ 255) (hl : cs.length ≤ 1000) (hch : ∀ c ∈ cs, 0 ≤ c.toInt ∧ c.toInt ≤ 65535) (V1 : Arv Z h0 b1 k1 .byte (Int32.ofNat (2 * cs.length)) (own_wide cs) (.int (0 : Int32))) (G1 : Int32) (US : own_US Z G1) (O0 : Old Z n0 h0) (G3 : Value) (rG3 : G3.isRef = true) (Sf : Sta Z Z.heap "jdk/internal/util/Preconditions" "SIOOBE_FORMATTER" "Ljava/util/function/BiFunction;" G3) :
    own_Met l (⟨"java/lang/StringUTF16", "indexOfChar", "([BIII)I"⟩ : MethodName) jdk_52_method_47_code 4 (some .int) ws ({ frames := 3, cells := 0, slots := 0, locals := 45 } : Room) Z #[(.ref b1), (.int p1), (.int (0 : Int32)), (.int (Int32.ofNat cs.length))] h0 (Q111 p1 cs h0 n0) := by
  refine own_enter #[.val (.ref b1), .val (.int p1), .val (.int (0 : Int32)), .val (.int (Int32.ofNat cs.length))] (plainFor_of_name pn111) (fun m => ef111 m b1 p1 (0 : Int32) (Int32.ofNat cs.length)) ?_
  intro p e s m below meth c s₁ hx hby hml hown hnm hZ hrt hlk X0 e0
  have N0 := Fr.nil n0
  refine own_tp (.int (0 : Int32)) 1 (fun _ q => XS.iloadN X0.here hx rfl (hb hby d111_0) rfl q) ?_
  refine own_tp (.int (Int32.ofNat cs.length)) 2 (fun _ q => XS.iloadN X0.here hx rfl (hb hby d111_1) rfl q) ?_
  refine own_tp (.ref b1) 3 (fun _ q => XS.aloadN X0.here hx rfl (hb hby d111_2) rfl rfl q) ?_
  obtain ⟨_, _, ⟨T51, L51, k51, n51⟩, -, X51, ⟨Lc51, hQ51, l51, y51, z51⟩, st51⟩ := Jvm.LawKit.callS X0 hx (y := (⟨"java/lang/StringUTF16", "checkBoundsBeginEnd", "(II[B)V"⟩ : MethodName)) hown (mvT hZ (hw _ (List.mem_of_getElem? (i := 120) rfl))) (mvT hZ (hw _ (List.mem_of_getElem? (i := 121) rfl))) (mvT hZ (hw _ (List.mem_of_getElem? (i := 77) rfl))) (mvT hZ (hw _ (List.mem_of_getElem? (i := 122) rfl))) (by decide) (backOf (W := 0) (rm108 l Z a0 hw [] b1 k1 cs h0 n0 hl O0 V1 G3 rG3 Sf) hZ (hw _ (List.mem_of_getElem? (i := 122) rfl)) (hw _ (List.mem_of_getElem? (i := 77) rfl)) (by decide) (by decide)) (g := (mkF m 3 #[.val (.ref b1), .val (.int p1), .val (.int (0 : Int32)), .val (.int (Int32.ofNat cs.length))] [(.ref b1), (.int (Int32.ofNat cs.length)), (.int (0 : Int32))])) rfl (by rw [hml]; rfl) (argsL := [(.int (0 : Int32)), (.int (Int32.ofNat cs.length)), (.ref b1)]) (rest := []) (lenOf pd111_0 rfl) rfl (by show 2 * 0 + _ ≤ _; exact Nat.le_of_eq rfl) (hb hby d111_3) (fun _ _ => ⟨rfl, e0, (by decide : 0 + 0 ≤ _), (by decide : 0 + 0 ≤ _)⟩)
  dsimp only [Pt.U, Pt.locs, Pt.cells, Pt.slots] at X51 l51 y51 z51 st51 hQ51
  subst l51 y51 z51
  obtain ⟨rfl, Nq51, eq51⟩ := hQ51
  have N51 := Fr.app N0 Nq51
  refine own_cs [] 6 st51 ?_
  refine own_tp (.ref b1) 7 (fun _ q => XS.aloadN X51.here hx rfl (hb hby d111_6) rfl rfl q) ?_
  refine own_tp (.int p1) 8 (fun _ q => XS.iloadN X51.here hx rfl (hb hby d111_7) rfl q) ?_
  refine own_tp (.int (0 : Int32)) 9 (fun _ q => XS.iloadN X51.here hx rfl (hb hby d111_8) rfl q) ?_
  refine own_tp (.int (Int32.ofNat cs.length)) 10 (fun _ q => XS.iloadN X51.here hx rfl (hb hby d111_9) rfl q) ?_
  obtain ⟨_, _, ⟨T52, L52, k52, n52⟩, -, X52, ⟨Lc52, hQ52, l52, y52, z52⟩, st52⟩ := Jvm.LawKit.callS X51 hx (y := (⟨"java/lang/StringUTF16", "indexOfCharUnsafe", "([BIII)I"⟩ : MethodName)) hown (mvT hZ (hw _ (List.mem_of_getElem? (i := 134) rfl))) (mvT hZ (hw _ (List.mem_of_getElem? (i := 135) rfl))) (mvT hZ (hw _ (List.mem_of_getElem? (i := 77) rfl))) (mvT hZ (hw _ (List.mem_of_getElem? (i := 136) rfl))) (by decide) (backOf (W := 0) (rm110 l Z a0 hw [] b1 k1 p1 cs h0 n0 hp hl hch V1 G1 US O0) hZ (hw _ (List.mem_of_getElem? (i := 136) rfl)) (hw _ (List.mem_of_getElem? (i := 77) rfl)) (by decide) (by decide)) (g := (mkF m 10 #[.val (.ref b1), .val (.int p1), .val (.int (0 : Int32)), .val (.int (Int32.ofNat cs.length))] [(.int (Int32.ofNat cs.length)), (.int (0 : Int32)), (.int p1), (.ref b1)])) rfl (by rw [hml]; rfl) (argsL := [(.ref b1), (.int p1), (.int (0 : Int32)), (.int (Int32.ofNat cs.length))]) (rest := []) (lenOf pd111_1 rfl) rfl (by show 2 * 0 + _ ≤ _; exact Nat.le_of_eq rfl) (hb hby d111_10) (fun _ _ => ⟨rfl, eq51, (by decide : 0 + 0 ≤ _), (by decide : 0 + 0 ≤ _)⟩)
  dsimp only [Pt.U, Pt.locs, Pt.cells, Pt.slots] at X52 l52 y52 z52 st52 hQ52
  subst l52 y52 z52
  obtain ⟨r52, rfl, hR52, Nq52, eq52⟩ := hQ52
  have N52 := Fr.app N51 Nq52
  refine own_cs [(.int r52)] 13 st52 ?_
  exact own_retI X52 hx hrt (hb hby d111_13) hlk (by decide) (by decide) eq52 (⟨r52, rfl, hR52, N52, rfl⟩)

def Q112 (p1 : Int32) (cs : List Int32) (h0 : Heap) (n0 : Nat) (v : Option Value) (h : Heap) (L : List Loc) : Prop := ∃ r : Int32, v = some (.int r) ∧ own_R p1 cs r ∧ Fr n0 L ∧ h = h0

theorem d112_0 : decode jdk_52_method_40_code 0 = .ok (.iload_n 2, 1) := by decide +kernel
theorem d112_1 : decode jdk_52_method_40_code 1 = .ok (.iconst 0, 1) := by decide +kernel
theorem d112_2 : decode jdk_52_method_40_code 2 = .ok (.invokestatic 224, 3) := by decide +kernel
theorem d112_5 : decode jdk_52_method_40_code 5 = .ok (.istore_n 2, 1) := by decide +kernel
theorem d112_6 : decode jdk_52_method_40_code 6 = .ok (.iload_n 3, 1) := by decide +kernel
theorem d112_7 : decode jdk_52_method_40_code 7 = .ok (.aload_n 0, 1) := by decide +kernel
theorem d112_8 : decode jdk_52_method_40_code 8 = .ok (.arraylength, 1) := by decide +kernel
theorem d112_9 : decode jdk_52_method_40_code 9 = .ok (.iconst 1, 1) := by decide +kernel
theorem d112_10 : decode jdk_52_method_40_code 10 = .ok (.ishr, 1) := by decide +kernel
theorem d112_11 : decode jdk_52_method_40_code 11 = .ok (.invokestatic 183, 3) := by decide +kernel
theorem d112_14 : decode jdk_52_method_40_code 14 = .ok (.istore_n 3, 1) := by decide +kernel
theorem d112_15 : decode jdk_52_method_40_code 15 = .ok (.iload_n 2, 1) := by decide +kernel
theorem d112_16 : decode jdk_52_method_40_code 16 = .ok (.iload_n 3, 1) := by decide +kernel
theorem d112_17 : decode jdk_52_method_40_code 17 = .ok (.if_icmp .lt 5, 3) := by decide +kernel
theorem d112_20 : decode jdk_52_method_40_code 20 = .ok (.iconst (-1), 1) := by decide +kernel
theorem d112_21 : decode jdk_52_method_40_code 21 = .ok (.ireturn, 1) := by decide +kernel
theorem d112_22 : decode jdk_52_method_40_code 22 = .ok (.iload_n 1, 1) := by decide +kernel
theorem d112_23 : decode jdk_52_method_40_code 23 = .ok (.ldc 227, 2) := by decide +kernel
theorem d112_25 : decode jdk_52_method_40_code 25 = .ok (.if_icmp .ge 11, 3) := by decide +kernel
theorem d112_28 : decode jdk_52_method_40_code 28 = .ok (.aload_n 0, 1) := by decide +kernel
theorem d112_29 : decode jdk_52_method_40_code 29 = .ok (.iload_n 1, 1) := by decide +kernel
theorem d112_30 : decode jdk_52_method_40_code 30 = .ok (.iload_n 2, 1) := by decide +kernel
theorem d112_31 : decode jdk_52_method_40_code 31 = .ok (.iload_n 3, 1) := by decide +kernel
theorem d112_32 : decode jdk_52_method_40_code 32 = .ok (.invokestatic 228, 3) := by decide +kernel
theorem d112_35 : decode jdk_52_method_40_code 35 = .ok (.ireturn, 1) := by decide +kernel
theorem pn112 : plainName "java/lang/StringUTF16" = true := by first | (simp [plainName, overriddenIn]; done) | decide +kernel
theorem pd112_0 : parseMethodDescriptor "(II)I" = some ⟨[.int, .int], some .int⟩ := by decide +kernel
theorem pd112_1 : parseMethodDescriptor "([BIII)I" = some ⟨[(.array .byte), .int, .int, .int], some .int⟩ := by decide +kernel
theorem ef112 (m : MethodId) (x0 : Addr) (x1 : Int32) (x2 : Int32) (x3 : Int32) : entryFrame m #[(.ref x0), (.int x1), (.int x2), (.int x3)] 4 = mkF m 0 #[.val (.ref x0), .val (.int x1), .val (.int x2), .val (.int x3)] [] := by first | (simp [entryFrame, mkF, argsToLocals, Value.category]; done) | rfl
set_option maxRecDepth 65536 in
set_option maxHeartbeats 40000000 in
theorem rm112 (l : Launch) (Z : State) (a0 : Array Value) (hw : ∀ d ∈ tables_1, d.before a0 Z = true) (ws : List Jvm.Cond) (b1 : Addr) (k1 : ClassId) (p1 : Int32) (cs : List Int32) (h0 : Heap) (n0 : Nat) (hp : 0 ≤ p1.toInt ∧ p1.toInt ≤ 255) (hl : cs.length ≤ 1000) (hch : ∀ c ∈ cs, 0 ≤ c.toInt ∧ c.toInt ≤ 65535) (V1 : Arv Z h0 b1 k1 .byte (Int32.ofNat (2 * cs.length)) (own_wide cs) (.int (0 : Int32))) (G1 : Int32) (US : own_US Z G1) (O0 : Old Z n0 h0) (G3 : Value) (rG3 : G3.isRef = true) (Sf : Sta Z Z.heap "jdk/internal/util/Preconditions" "SIOOBE_FORMATTER" "Ljava/util/function/BiFunction;" G3) :
    own_Met l (⟨"java/lang/StringUTF16", "indexOf", "([BIII)I"⟩ : MethodName) jdk_52_method_40_code 4 (some .int) ws ({ frames := 4, cells := 0, slots := 0, locals := 60 } : Room) Z #[(.ref b1), (.int p1), (.int (0 : Int32)), (.int (Int32.ofNat cs.length))] h0 (Q112 p1 cs h0 n0) := by
  refine own_enter #[.val (.ref b1), .val (.int p1), .val (.int (0 : Int32)), .val (.int (Int32.ofNat cs.length))] (plainFor_of_name pn112) (fun m => ef112 m b1 p1 (0 : Int32) (Int32.ofNat cs.length)) ?_
  intro p e s m below meth c s₁ hx hby hml hown hnm hZ hrt hlk X0 e0
  have N0 := Fr.nil n0
  refine own_tp (.int (0 : Int32)) 1 (fun _ q => XS.iloadN X0.here hx rfl (hb hby d112_0) rfl q) ?_
  refine own_tp (.int (0 : Int32)) 2 (fun _ q => XS.iconst X0.here hx rfl (hb hby d112_1) q) ?_
  obtain ⟨_, _, ⟨T51, L51, k51, n51⟩, -, X51, ⟨Lc51, hQ51, l51, y51, z51⟩, st51⟩ := Jvm.LawKit.callS X0 hx (y := (⟨"java/lang/Math", "max", "(II)I"⟩ : MethodName)) hown (mvT hZ (hw _ (List.mem_of_getElem? (i := 114) rfl))) (mvT hZ (hw _ (List.mem_of_getElem? (i := 69) rfl))) (mvT hZ (hw _ (List.mem_of_getElem? (i := 70) rfl))) (mvT hZ (hw _ (List.mem_of_getElem? (i := 71) rfl))) (by decide) (backOf (W := 0) (rm100 l Z a0 hw [] (0 : Int32) (0 : Int32) (0 : Int32) h0 n0 ⟨fun _ => rfl, fun _ => rfl⟩) hZ (hw _ (List.mem_of_getElem? (i := 71) rfl)) (hw _ (List.mem_of_getElem? (i := 70) rfl)) (by decide) (by decide)) (g := (mkF m 2 #[.val (.ref b1), .val (.int p1), .val (.int (0 : Int32)), .val (.int (Int32.ofNat cs.length))] [(.int (0 : Int32)), (.int (0 : Int32))])) rfl (by rw [hml]; rfl) (argsL := [(.int (0 : Int32)), (.int (0 : Int32))]) (rest := []) (lenOf pd112_0 rfl) rfl (by show 2 * 0 + _ ≤ _; exact Nat.le_of_eq rfl) (hb hby d112_2) (fun _ _ => ⟨rfl, e0, (by decide : 0 + 0 ≤ _), (by decide : 0 + 0 ≤ _)⟩)
  dsimp only [Pt.U, Pt.locs, Pt.cells, Pt.slots] at X51 l51 y51 z51 st51 hQ51
  subst l51 y51 z51
  obtain ⟨rfl, Nq51, eq51⟩ := hQ51
  have N51 := Fr.app N0 Nq51
  refine own_d1 5 st51 ?_
  refine own_d1 6 (fun _ q => XS.istoreN X51.here hx rfl (hb hby d112_5) rfl (l' := #[.val (.ref b1), .val (.int p1), .val (.int (0 : Int32)), .val (.int (Int32.ofNat cs.length))]) rfl q) ?_
  refine own_tp (.int (Int32.ofNat cs.length)) 7 (fun _ q => XS.iloadN X51.here hx rfl (hb hby d112_6) rfl q) ?_
  refine own_tp (.ref b1) 8 (fun _ q => XS.aloadN X51.here hx rfl (hb hby d112_7) rfl rfl q) ?_
  obtain ⟨cl52, Ar52, -, Sz52, Nn52, -, -⟩ := (id V1)
  refine own_t1 (.int (Int32.ofNat (2 * cs.length))) 9 (fun t q => X51.arraylength hx (by rw [eq51]; exact Ar52.1) (State.isArrayOf_alike hZ.alike Ar52.2.1) (g := (mkF m 8 #[.val (.ref b1), .val (.int p1), .val (.int (0 : Int32)), .val (.int (Int32.ofNat cs.length))] [(.ref b1), (.int (Int32.ofNat cs.length))])) rfl rfl (hb hby d112_8) _ (by rw [len_of Sz52 Nn52]; exact q)) ?_
  refine own_tp (.int (1 : Int32)) 10 (fun _ q => XS.iconst X51.here hx rfl (hb hby d112_9) q) ?_
  refine own_t2 (.int ((Int32.ofNat (2 * cs.length)) >>> ((1 : Int32) &&& 31))) 11 (fun _ q => XS.ishr X51.here hx rfl (hb hby d112_10) rfl q) ?_
  rw [own_shr1 hl]
  obtain ⟨_, _, ⟨T53, L53, k53, n53⟩, -, X53, ⟨Lc53, hQ53, l53, y53, z53⟩, st53⟩ := Jvm.LawKit.callS X51 hx (y := (⟨"java/lang/Math", "min", "(II)I"⟩ : MethodName)) hown (mvT hZ (hw _ (List.mem_of_getElem? (i := 115) rfl))) (mvT hZ (hw _ (List.mem_of_getElem? (i := 73) rfl))) (mvT hZ (hw _ (List.mem_of_getElem? (i := 70) rfl))) (mvT hZ (hw _ (List.mem_of_getElem? (i := 74) rfl))) (by decide) (backOf (W := 0) (rm101 l Z a0 hw [] (Int32.ofNat cs.length) (Int32.ofNat cs.length) (Int32.ofNat cs.length) h0 n0 ⟨fun _ => rfl, fun _ => rfl⟩) hZ (hw _ (List.mem_of_getElem? (i := 74) rfl)) (hw _ (List.mem_of_getElem? (i := 70) rfl)) (by decide) (by decide)) (g := (mkF m 11 #[.val (.ref b1), .val (.int p1), .val (.int (0 : Int32)), .val (.int (Int32.ofNat cs.length))] [(.int (Int32.ofNat cs.length)), (.int (Int32.ofNat cs.length))])) rfl (by rw [hml]; rfl) (argsL := [(.int (Int32.ofNat cs.length)), (.int (Int32.ofNat cs.length))]) (rest := []) (lenOf pd112_0 rfl) rfl (by show 2 * 0 + _ ≤ _; exact Nat.le_of_eq rfl) (hb hby d112_11) (fun _ _ => ⟨rfl, eq51, (by decide : 0 + 0 ≤ _), (by decide : 0 + 0 ≤ _)⟩)
  dsimp only [Pt.U, Pt.locs, Pt.cells, Pt.slots] at X53 l53 y53 z53 st53 hQ53
  subst l53 y53 z53
  obtain ⟨rfl, Nq53, eq53⟩ := hQ53
  have N53 := Fr.app N51 Nq53
  refine own_d1 14 st53 ?_
  refine own_d1 15 (fun _ q => XS.istoreN X53.here hx rfl (hb hby d112_14) rfl (l' := #[.val (.ref b1), .val (.int p1), .val (.int (0 : Int32)), .val (.int (Int32.ofNat cs.length))]) rfl q) ?_
  refine own_tp (.int (0 : Int32)) 16 (fun _ q => XS.iloadN X53.here hx rfl (hb hby d112_15) rfl q) ?_
  refine own_tp (.int (Int32.ofNat cs.length)) 17 (fun _ q => XS.iloadN X53.here hx rfl (hb hby d112_16) rfl q) ?_
  by_cases c54 : (0 : Int32) < (Int32.ofNat cs.length)
  ·
    refine own_d2 22 (fun _ q => XS.icmpYes X53.here hx rfl (pc0 := 17) (pc' := 22) rfl (hb hby d112_17) rfl (tlt c54).1 (by decide) (by decide) q) ?_
    refine own_tp (.int p1) 23 (fun _ q => XS.iloadN X53.here hx rfl (hb hby d112_22) rfl q) ?_
    refine own_tp (.int (65536 : Int32)) 25 (fun _ q => X53.ldcInt hx hown (mvT hZ (hw _ (List.mem_of_getElem? (i := 116) rfl))) (g := (mkF m 23 #[.val (.ref b1), .val (.int p1), .val (.int (0 : Int32)), .val (.int (Int32.ofNat cs.length))] [(.int p1)])) rfl (hb hby d112_23) _ q) ?_
    refine own_d2 28 (fun _ q => XS.icmpNo X53.here hx rfl (hb hby d112_25) rfl (tlt (own_p16 hp)).2.1 q) ?_
    refine own_tp (.ref b1) 29 (fun _ q => XS.aloadN X53.here hx rfl (hb hby d112_28) rfl rfl q) ?_
    refine own_tp (.int p1) 30 (fun _ q => XS.iloadN X53.here hx rfl (hb hby d112_29) rfl q) ?_
    refine own_tp (.int (0 : Int32)) 31 (fun _ q => XS.iloadN X53.here hx rfl (hb hby d112_30) rfl q) ?_
    refine own_tp (.int (Int32.ofNat cs.length)) 32 (fun _ q => XS.iloadN X53.here hx rfl (hb hby d112_31) rfl q) ?_
    obtain ⟨_, _, ⟨T55, L55, k55, n55⟩, -, X55, ⟨Lc55, hQ55, l55, y55, z55⟩, st55⟩ := Jvm.LawKit.callS X53 hx (y := (⟨"java/lang/StringUTF16", "indexOfChar", "([BIII)I"⟩ : MethodName)) hown (mvT hZ (hw _ (List.mem_of_getElem? (i := 117) rfl))) (mvT hZ (hw _ (List.mem_of_getElem? (i := 118) rfl))) (mvT hZ (hw _ (List.mem_of_getElem? (i := 77) rfl))) (mvT hZ (hw _ (List.mem_of_getElem? (i := 119) rfl))) (by decide) (backOf (W := 0) (rm111 l Z a0 hw [] b1 k1 p1 cs h0 n0 hp hl hch V1 G1 US O0 G3 rG3 Sf) hZ (hw _ (List.mem_of_getElem? (i := 119) rfl)) (hw _ (List.mem_of_getElem? (i := 77) rfl)) (by decide) (by decide)) (g := (mkF m 32 #[.val (.ref b1), .val (.int p1), .val (.int (0 : Int32)), .val (.int (Int32.ofNat cs.length))] [(.int (Int32.ofNat cs.length)), (.int (0 : Int32)), (.int p1), (.ref b1)])) rfl (by rw [hml]; rfl) (argsL := [(.ref b1), (.int p1), (.int (0 : Int32)), (.int (Int32.ofNat cs.length))]) (rest := []) (lenOf pd112_1 rfl) rfl (by show 2 * 0 + _ ≤ _; exact Nat.le_of_eq rfl) (hb hby d112_32) (fun _ _ => ⟨rfl, eq53, (by decide : 0 + 0 ≤ _), (by decide : 0 + 0 ≤ _)⟩)
    dsimp only [Pt.U, Pt.locs, Pt.cells, Pt.slots] at X55 l55 y55 z55 st55 hQ55
    subst l55 y55 z55
    obtain ⟨r55, rfl, hR55, Nq55, eq55⟩ := hQ55
    have N55 := Fr.app N53 Nq55
    refine own_cs [(.int r55)] 35 st55 ?_
    exact own_retI X55 hx hrt (hb hby d112_35) hlk (by decide) (by decide) eq55 (⟨r55, rfl, hR55, N55, rfl⟩)
  ·
    refine own_d2 20 (fun _ q => XS.icmpNo X53.here hx rfl (hb hby d112_17) rfl (flt c54).1 q) ?_
    refine own_tp (.int (-1 : Int32)) 21 (fun _ q => XS.iconst X53.here hx rfl (hb hby d112_20) q) ?_
    exact own_retI X53 hx hrt (hb hby d112_21) hlk (by decide) (by decide) eq53 (⟨(-1 : Int32), rfl, Or.inl ⟨by decide, own_none hl c54⟩, N53, rfl⟩)

def Q113 (z : Int32) (h0 : Heap) (n0 : Nat) (v : Option Value) (h : Heap) (L : List Loc) : Prop := v = some (.int z) ∧ Fr n0 L ∧ h = h0

theorem d113_0 : decode jdk_42_method_152_code 0 = .ok (.getstatic 38, 3) := by decide +kernel
theorem d113_3 : decode jdk_42_method_152_code 3 = .ok (.ifCond .eq 10, 3) := by decide +kernel
theorem d113_6 : decode jdk_42_method_152_code 6 = .ok (.aload_n 0, 1) := by decide +kernel
theorem d113_7 : decode jdk_42_method_152_code 7 = .ok (.getfield 15, 3) := by decide +kernel
theorem d113_10 : decode jdk_42_method_152_code 10 = .ok (.goto 4, 3) := by decide +kernel
theorem d113_14 : decode jdk_42_method_152_code 14 = .ok (.ireturn, 1) := by decide +kernel
theorem pn113 : plainName "java/lang/String" = true := by first | (simp [plainName, overriddenIn]; done) | decide +kernel
theorem ef113 (m : MethodId) (x0 : Addr) : entryFrame m #[(.ref x0)] 1 = mkF m 0 #[.val (.ref x0)] [] := by first | (simp [entryFrame, mkF, argsToLocals, Value.category]; done) | rfl
set_option maxRecDepth 65536 in
set_option maxHeartbeats 40000000 in
theorem rm113 (l : Launch) (Z : State) (a0 : Array Value) (hw : ∀ d ∈ tables_1, d.before a0 Z = true) (ws : List Jvm.Cond) (a1 b1 : Addr) (k1 : ClassId) (cs : List Int32) (h0 : Heap) (n0 : Nat) (hl : cs.length ≤ 1000) (hch : ∀ c ∈ cs, 0 ≤ c.toInt ∧ c.toInt ≤ 65535) (G1 : Int32) (US : own_US Z G1) (O0 : Old Z n0 h0) (G3 : Value) (rG3 : G3.isRef = true) (Sf : Sta Z Z.heap "jdk/internal/util/Preconditions" "SIOOBE_FORMATTER" "Ljava/util/function/BiFunction;" G3) (E1 : Exa Z h0 a1 "java/lang/String") (C1 : Fld Z h0 a1 "java/lang/String" "coder" "B" (.int (0 : Int32))) (L1 : Fld Z h0 a1 "java/lang/String" "value" "[B" (.ref b1)) (hcs : ∀ c ∈ cs, ¬ (255 : Int32) < c) (V1 : Arv Z h0 b1 k1 .byte (Int32.ofNat cs.length) (own_lows cs) (.int (0 : Int32))) :
    own_Met l (⟨"java/lang/String", "coder", "()B"⟩ : MethodName) jdk_42_method_152_code 1 (some .byte) ws ({ frames := 0, cells := 0, slots := 0, locals := 0 } : Room) Z #[(.ref a1)] h0 (Q113 (0 : Int32) h0 n0) := by
  refine own_enter #[.val (.ref a1)] (plainFor_of_name pn113) (fun m => ef113 m a1) ?_
  intro p e s m below meth c s₁ hx hby hml hown hnm hZ hrt hlk X0 e0
  have N0 := Fr.nil n0
  obtain ⟨T51, X51, e51, st51⟩ := getS2 X0 hx hZ hown (host := "") (Or.inl (hw _ (List.mem_of_getElem? (i := 50) rfl))) Via.refl e0 (US.2.1.ext O0.2) (g := (mkF m 0 #[.val (.ref a1)] [])) rfl (hb hby d113_0)
  refine own_tp (.int G1) 3 st51 ?_
  refine own_d1 6 (fun _ q => XS.ifNo X51.here hx rfl (hb hby d113_3) rfl ((if0 _ _).trans (feq US.1).1) q) ?_
  refine own_tp (.ref a1) 7 (fun _ q => XS.aloadN X51.here hx rfl (hb hby d113_6) rfl rfl q) ?_
  obtain ⟨T52, X52, e52, st52⟩ := getF X51 hx hZ hown (host := "") (Or.inl (hw _ (List.mem_of_getElem? (i := 30) rfl))) Via.refl e51 C1 (g := (mkF m 7 #[.val (.ref a1)] [(.ref a1)])) rfl rfl (hb hby d113_7)
  refine own_t1 (.int (0 : Int32)) 10 st52 ?_
  refine own_d0 14 (fun _ q => XS.goto X52.here hx rfl (pc0 := 10) (pc' := 14) rfl (hb hby d113_10) (by decide) (by decide) q) ?_
  exact own_retN (t := .byte) X52 hx hrt (hb hby d113_14) (by simp) hlk (by decide) (by decide) e52 (⟨rfl, N0, rfl⟩)

def Q114 (z : Int32) (h0 : Heap) (n0 : Nat) (v : Option Value) (h : Heap) (L : List Loc) : Prop := v = some (.int z) ∧ Fr n0 L ∧ h = h0

theorem d114_0 : decode jdk_42_method_154_code 0 = .ok (.getstatic 38, 3) := by decide +kernel
theorem d114_3 : decode jdk_42_method_154_code 3 = .ok (.ifCond .eq 14, 3) := by decide +kernel
theorem d114_6 : decode jdk_42_method_154_code 6 = .ok (.aload_n 0, 1) := by decide +kernel
theorem d114_7 : decode jdk_42_method_154_code 7 = .ok (.getfield 15, 3) := by decide +kernel
theorem d114_10 : decode jdk_42_method_154_code 10 = .ok (.ifCond .ne 7, 3) := by decide +kernel
theorem d114_13 : decode jdk_42_method_154_code 13 = .ok (.iconst 1, 1) := by decide +kernel
theorem d114_14 : decode jdk_42_method_154_code 14 = .ok (.goto 4, 3) := by decide +kernel
theorem d114_18 : decode jdk_42_method_154_code 18 = .ok (.ireturn, 1) := by decide +kernel
theorem pn114 : plainName "java/lang/String" = true := by first | (simp [plainName, overriddenIn]; done) | decide +kernel
theorem ef114 (m : MethodId) (x0 : Addr) : entryFrame m #[(.ref x0)] 1 = mkF m 0 #[.val (.ref x0)] [] := by first | (simp [entryFrame, mkF, argsToLocals, Value.category]; done) | rfl
set_option maxRecDepth 65536 in
set_option maxHeartbeats 40000000 in
theorem rm114 (l : Launch) (Z : State) (a0 : Array Value) (hw : ∀ d ∈ tables_1, d.before a0 Z = true) (ws : List Jvm.Cond) (a1 b1 : Addr) (k1 : ClassId) (cs : List Int32) (h0 : Heap) (n0 : Nat) (hl : cs.length ≤ 1000) (hch : ∀ c ∈ cs, 0 ≤ c.toInt ∧ c.toInt ≤ 65535) (G1 : Int32) (US : own_US Z G1) (O0 : Old Z n0 h0) (G3 : Value) (rG3 : G3.isRef = true) (Sf : Sta Z Z.heap "jdk/internal/util/Preconditions" "SIOOBE_FORMATTER" "Ljava/util/function/BiFunction;" G3) (E1 : Exa Z h0 a1 "java/lang/String") (C1 : Fld Z h0 a1 "java/lang/String" "coder" "B" (.int (0 : Int32))) (L1 : Fld Z h0 a1 "java/lang/String" "value" "[B" (.ref b1)) (hcs : ∀ c ∈ cs, ¬ (255 : Int32) < c) (V1 : Arv Z h0 b1 k1 .byte (Int32.ofNat cs.length) (own_lows cs) (.int (0 : Int32))) :
    own_Met l (⟨"java/lang/String", "isLatin1", "()Z"⟩ : MethodName) jdk_42_method_154_code 1 (some .boolean) ws ({ frames := 0, cells := 0, slots := 0, locals := 0 } : Room) Z #[(.ref a1)] h0 (Q114 (1 : Int32) h0 n0) := by
  refine own_enter #[.val (.ref a1)] (plainFor_of_name pn114) (fun m => ef114 m a1) ?_
  intro p e s m below meth c s₁ hx hby hml hown hnm hZ hrt hlk X0 e0
  have N0 := Fr.nil n0
  obtain ⟨T51, X51, e51, st51⟩ := getS2 X0 hx hZ hown (host := "") (Or.inl (hw _ (List.mem_of_getElem? (i := 50) rfl))) Via.refl e0 (US.2.1.ext O0.2) (g := (mkF m 0 #[.val (.ref a1)] [])) rfl (hb hby d114_0)
  refine own_tp (.int G1) 3 st51 ?_
  refine own_d1 6 (fun _ q => XS.ifNo X51.here hx rfl (hb hby d114_3) rfl ((if0 _ _).trans (feq US.1).1) q) ?_
  refine own_tp (.ref a1) 7 (fun _ q => XS.aloadN X51.here hx rfl (hb hby d114_6) rfl rfl q) ?_
  obtain ⟨T52, X52, e52, st52⟩ := getF X51 hx hZ hown (host := "") (Or.inl (hw _ (List.mem_of_getElem? (i := 30) rfl))) Via.refl e51 C1 (g := (mkF m 7 #[.val (.ref a1)] [(.ref a1)])) rfl rfl (hb hby d114_7)
  refine own_t1 (.int (0 : Int32)) 10 st52 ?_
  refine own_d1 13 (fun _ q => XS.ifNo X52.here hx rfl (hb hby d114_10) rfl ((if0 _ _).trans (teq (by decide : (0 : Int32) = (0 : Int32))).2) q) ?_
  refine own_tp (.int (1 : Int32)) 14 (fun _ q => XS.iconst X52.here hx rfl (hb hby d114_13) q) ?_
  refine own_d0 18 (fun _ q => XS.goto X52.here hx rfl (pc0 := 14) (pc' := 18) rfl (hb hby d114_14) (by decide) (by decide) q) ?_
  exact own_retN (t := .boolean) X52 hx hrt (hb hby d114_18) (by simp) hlk (by decide) (by decide) e52 (⟨rfl, N0, rfl⟩)

def Q115 (z : Int32) (h0 : Heap) (n0 : Nat) (v : Option Value) (h : Heap) (L : List Loc) : Prop := v = some (.int z) ∧ Fr n0 L ∧ h = h0

theorem d115_0 : decode jdk_42_method_54_code 0 = .ok (.aload_n 0, 1) := by decide +kernel
theorem d115_1 : decode jdk_42_method_54_code 1 = .ok (.getfield 9, 3) := by decide +kernel
theorem d115_4 : decode jdk_42_method_54_code 4 = .ok (.arraylength, 1) := by decide +kernel
theorem d115_5 : decode jdk_42_method_54_code 5 = .ok (.aload_n 0, 1) := by decide +kernel
theorem d115_6 : decode jdk_42_method_54_code 6 = .ok (.invokevirtual 335, 3) := by decide +kernel
theorem d115_9 : decode jdk_42_method_54_code 9 = .ok (.ishr, 1) := by decide +kernel
theorem d115_10 : decode jdk_42_method_54_code 10 = .ok (.ireturn, 1) := by decide +kernel
theorem pn115 : plainName "java/lang/String" = true := by first | (simp [plainName, overriddenIn]; done) | decide +kernel
theorem pd115_0 : parseMethodDescriptor "()B" = some ⟨[], some .byte⟩ := by decide +kernel
theorem ef115 (m : MethodId) (x0 : Addr) : entryFrame m #[(.ref x0)] 1 = mkF m 0 #[.val (.ref x0)] [] := by first | (simp [entryFrame, mkF, argsToLocals, Value.category]; done) | rfl
set_option maxRecDepth 65536 in
set_option maxHeartbeats 40000000 in
theorem rm115 (l : Launch) (Z : State) (a0 : Array Value) (hw : ∀ d ∈ tables_1, d.before a0 Z = true) (ws : List Jvm.Cond) (a1 b1 : Addr) (k1 : ClassId) (cs : List Int32) (h0 : Heap) (n0 : Nat) (hl : cs.length ≤ 1000) (hch : ∀ c ∈ cs, 0 ≤ c.toInt ∧ c.toInt ≤ 65535) (G1 : Int32) (US : own_US Z G1) (O0 : Old Z n0 h0) (G3 : Value) (rG3 : G3.isRef = true) (Sf : Sta Z Z.heap "jdk/internal/util/Preconditions" "SIOOBE_FORMATTER" "Ljava/util/function/BiFunction;" G3) (E1 : Exa Z h0 a1 "java/lang/String") (C1 : Fld Z h0 a1 "java/lang/String" "coder" "B" (.int (0 : Int32))) (L1 : Fld Z h0 a1 "java/lang/String" "value" "[B" (.ref b1)) (hcs : ∀ c ∈ cs, ¬ (255 : Int32) < c) (V1 : Arv Z h0 b1 k1 .byte (Int32.ofNat cs.length) (own_lows cs) (.int (0 : Int32))) :
    own_Met l (⟨"java/lang/String", "length", "()I"⟩ : MethodName) jdk_42_method_54_code 1 (some .int) ws ({ frames := 1, cells := 0, slots := 0, locals := 13 } : Room) Z #[(.ref a1)] h0 (Q115 (Int32.ofNat cs.length) h0 n0) := by
  refine own_enter #[.val (.ref a1)] (plainFor_of_name pn115) (fun m => ef115 m a1) ?_
  intro p e s m below meth c s₁ hx hby hml hown hnm hZ hrt hlk X0 e0
  have N0 := Fr.nil n0
  refine own_tp (.ref a1) 1 (fun _ q => XS.aloadN X0.here hx rfl (hb hby d115_0) rfl rfl q) ?_
  obtain ⟨T51, X51, e51, st51⟩ := getF X0 hx hZ hown (host := "") (Or.inl (hw _ (List.mem_of_getElem? (i := 29) rfl))) Via.refl e0 L1 (g := (mkF m 1 #[.val (.ref a1)] [(.ref a1)])) rfl rfl (hb hby d115_1)
  refine own_t1 (.ref b1) 4 st51 ?_
  obtain ⟨cl52, Ar52, -, Sz52, Nn52, -, -⟩ := (id V1)
  refine own_t1 (.int (Int32.ofNat cs.length)) 5 (fun t q => X51.arraylength hx (by rw [e51]; exact Ar52.1) (State.isArrayOf_alike hZ.alike Ar52.2.1) (g := (mkF m 4 #[.val (.ref a1)] [(.ref b1)])) rfl rfl (hb hby d115_4) _ (by rw [len_of Sz52 Nn52]; exact q)) ?_
  refine own_tp (.ref a1) 6 (fun _ q => XS.aloadN X51.here hx rfl (hb hby d115_5) rfl rfl q) ?_
  obtain ⟨cq53, kq53, q53a, q53b, q53c⟩ := isOf hZ e51 E1
  obtain ⟨_, _, ⟨T53, L53, k53, n53⟩, -, X53, ⟨Lc53, hQ53, l53, y53, z53⟩, st53⟩ := X51.virtualBack hx (y := (⟨"java/lang/String", "coder", "()B"⟩ : MethodName)) (z := (⟨"java/lang/String", "coder", "()B"⟩ : MethodName)) hown (mvT hZ (hw _ (List.mem_of_getElem? (i := 56) rfl))) (mvT hZ (hw _ (List.mem_of_getElem? (i := 57) rfl))) (notFace_of_selects (args := #[]) (mvT hZ (hw _ (List.mem_of_getElem? (i := 59) rfl)))) (mvT hZ (hw _ (List.mem_of_getElem? (i := 59) rfl))) (mvT hZ (hw _ (List.mem_of_getElem? (i := 58) rfl))) (by decide) (backOf (W := 1) (rm113 l Z a0 hw [] a1 b1 k1 cs h0 n0 hl hch G1 US O0 G3 rG3 Sf E1 C1 L1 hcs V1) hZ (hw _ (List.mem_of_getElem? (i := 60) rfl)) (hw _ (List.mem_of_getElem? (i := 11) rfl)) (by decide) (by decide)) q53a q53c (g := (mkF m 6 #[.val (.ref a1)] [(.ref a1), (.int (Int32.ofNat cs.length))])) rfl (by rw [hml]; rfl) (Steps.refl _) (argsL := []) (rest := [(.int (Int32.ofNat cs.length))]) (lenOf pd115_0 rfl) rfl (by show 2 * 0 + _ ≤ _; exact Nat.le_of_eq rfl) (hb hby d115_6) (fun _ _ => ⟨rfl, e51, (by decide : 0 + 0 ≤ _), (by decide : 0 + 0 ≤ _)⟩)
  dsimp only [Pt.U, Pt.locs, Pt.cells, Pt.slots] at X53 l53 y53 z53 st53 hQ53
  subst l53 y53 z53
  obtain ⟨rfl, Nq53, eq53⟩ := hQ53
  have N53 := Fr.app N0 Nq53
  refine own_csR [(.int (0 : Int32)), (.int (Int32.ofNat cs.length))] 9 st53 ?_
  refine own_t2 (.int ((Int32.ofNat cs.length) >>> ((0 : Int32) &&& 31))) 10 (fun _ q => XS.ishr X53.here hx rfl (hb hby d115_9) rfl q) ?_
  exact own_retI X53 hx hrt (hb hby d115_10) hlk (by decide) (by decide) eq53 (⟨by rw [own_shr0], N53, rfl⟩)

def Q116 (p1 : Int32) (cs : List Int32) (h0 : Heap) (n0 : Nat) (v : Option Value) (h : Heap) (L : List Loc) : Prop := ∃ r : Int32, v = some (.int r) ∧ own_R p1 cs r ∧ Fr n0 L ∧ h = h0

theorem d116_0 : decode jdk_42_method_80_code 0 = .ok (.aload_n 0, 1) := by decide +kernel
theorem d116_1 : decode jdk_42_method_80_code 1 = .ok (.invokevirtual 492, 3) := by decide +kernel
theorem d116_4 : decode jdk_42_method_80_code 4 = .ok (.ifCond .eq 19, 3) := by decide +kernel
theorem d116_7 : decode jdk_42_method_80_code 7 = .ok (.aload_n 0, 1) := by decide +kernel
theorem d116_8 : decode jdk_42_method_80_code 8 = .ok (.getfield 9, 3) := by decide +kernel
theorem d116_11 : decode jdk_42_method_80_code 11 = .ok (.iload_n 1, 1) := by decide +kernel
theorem d116_12 : decode jdk_42_method_80_code 12 = .ok (.iload_n 2, 1) := by decide +kernel
theorem d116_13 : decode jdk_42_method_80_code 13 = .ok (.aload_n 0, 1) := by decide +kernel
theorem d116_14 : decode jdk_42_method_80_code 14 = .ok (.invokevirtual 505, 3) := by decide +kernel
theorem d116_17 : decode jdk_42_method_80_code 17 = .ok (.invokestatic 637, 3) := by decide +kernel
theorem d116_20 : decode jdk_42_method_80_code 20 = .ok (.goto 16, 3) := by decide +kernel
theorem d116_36 : decode jdk_42_method_80_code 36 = .ok (.ireturn, 1) := by decide +kernel
theorem pn116 : plainName "java/lang/String" = true := by first | (simp [plainName, overriddenIn]; done) | decide +kernel
theorem pd116_0 : parseMethodDescriptor "()Z" = some ⟨[], some .boolean⟩ := by decide +kernel
theorem pd116_1 : parseMethodDescriptor "()I" = some ⟨[], some .int⟩ := by decide +kernel
theorem pd116_2 : parseMethodDescriptor "([BIII)I" = some ⟨[(.array .byte), .int, .int, .int], some .int⟩ := by decide +kernel
theorem ef116 (m : MethodId) (x0 : Addr) (x1 : Int32) (x2 : Int32) : entryFrame m #[(.ref x0), (.int x1), (.int x2)] 3 = mkF m 0 #[.val (.ref x0), .val (.int x1), .val (.int x2)] [] := by first | (simp [entryFrame, mkF, argsToLocals, Value.category]; done) | rfl
set_option maxRecDepth 65536 in
set_option maxHeartbeats 40000000 in
theorem rm116 (l : Launch) (Z : State) (a0 : Array Value) (hw : ∀ d ∈ tables_1, d.before a0 Z = true) (ws : List Jvm.Cond) (a1 b1 : Addr) (k1 : ClassId) (cs : List Int32) (p1 : Int32) (h0 : Heap) (n0 : Nat) (hl : cs.length ≤ 1000) (hch : ∀ c ∈ cs, 0 ≤ c.toInt ∧ c.toInt ≤ 65535) (G1 : Int32) (US : own_US Z G1) (O0 : Old Z n0 h0) (G3 : Value) (rG3 : G3.isRef = true) (Sf : Sta Z Z.heap "jdk/internal/util/Preconditions" "SIOOBE_FORMATTER" "Ljava/util/function/BiFunction;" G3) (E1 : Exa Z h0 a1 "java/lang/String") (C1 : Fld Z h0 a1 "java/lang/String" "coder" "B" (.int (0 : Int32))) (L1 : Fld Z h0 a1 "java/lang/String" "value" "[B" (.ref b1)) (hcs : ∀ c ∈ cs, ¬ (255 : Int32) < c) (V1 : Arv Z h0 b1 k1 .byte (Int32.ofNat cs.length) (own_lows cs) (.int (0 : Int32))) (hp : 0 ≤ p1.toInt ∧ p1.toInt ≤ 255) :
    own_Met l (⟨"java/lang/String", "indexOf", "(II)I"⟩ : MethodName) jdk_42_method_80_code 3 (some .int) ws ({ frames := 2, cells := 0, slots := 0, locals := 32 } : Room) Z #[(.ref a1), (.int p1), (.int (0 : Int32))] h0 (Q116 p1 cs h0 n0) := by
  refine own_enter #[.val (.ref a1), .val (.int p1), .val (.int (0 : Int32))] (plainFor_of_name pn116) (fun m => ef116 m a1 p1 (0 : Int32)) ?_
  intro p e s m below meth c s₁ hx hby hml hown hnm hZ hrt hlk X0 e0
  have N0 := Fr.nil n0
  refine own_tp (.ref a1) 1 (fun _ q => XS.aloadN X0.here hx rfl (hb hby d116_0) rfl rfl q) ?_
  obtain ⟨cq51, kq51, q51a, q51b, q51c⟩ := isOf hZ e0 E1
  obtain ⟨_, _, ⟨T51, L51, k51, n51⟩, -, X51, ⟨Lc51, hQ51, l51, y51, z51⟩, st51⟩ := X0.virtualBack hx (y := (⟨"java/lang/String", "isLatin1", "()Z"⟩ : MethodName)) (z := (⟨"java/lang/String", "isLatin1", "()Z"⟩ : MethodName)) hown (mvT hZ (hw _ (List.mem_of_getElem? (i := 45) rfl))) (mvT hZ (hw _ (List.mem_of_getElem? (i := 46) rfl))) (notFace_of_selects (args := #[]) (mvT hZ (hw _ (List.mem_of_getElem? (i := 48) rfl)))) (mvT hZ (hw _ (List.mem_of_getElem? (i := 48) rfl))) (mvT hZ (hw _ (List.mem_of_getElem? (i := 47) rfl))) (by decide) (backOf (W := 0) (rm114 l Z a0 hw [] a1 b1 k1 cs h0 n0 hl hch G1 US O0 G3 rG3 Sf E1 C1 L1 hcs V1) hZ (hw _ (List.mem_of_getElem? (i := 49) rfl)) (hw _ (List.mem_of_getElem? (i := 11) rfl)) (by decide) (by decide)) q51a q51c (g := (mkF m 1 #[.val (.ref a1), .val (.int p1), .val (.int (0 : Int32))] [(.ref a1)])) rfl (by rw [hml]; rfl) (Steps.refl _) (argsL := []) (rest := []) (lenOf pd116_0 rfl) rfl (by show 2 * 0 + _ ≤ _; exact Nat.le_of_eq rfl) (hb hby d116_1) (fun _ _ => ⟨rfl, e0, (by decide : 0 + 0 ≤ _), (by decide : 0 + 0 ≤ _)⟩)
  dsimp only [Pt.U, Pt.locs, Pt.cells, Pt.slots] at X51 l51 y51 z51 st51 hQ51
  subst l51 y51 z51
  obtain ⟨rfl, Nq51, eq51⟩ := hQ51
  have N51 := Fr.app N0 Nq51
  refine own_csR [(.int (1 : Int32))] 4 st51 ?_
  refine own_d1 7 (fun _ q => XS.ifNo X51.here hx rfl (hb hby d116_4) rfl ((if0 _ _).trans (feq (by decide : ¬ ((1 : Int32) = (0 : Int32)))).1) q) ?_
  refine own_tp (.ref a1) 8 (fun _ q => XS.aloadN X51.here hx rfl (hb hby d116_7) rfl rfl q) ?_
  obtain ⟨T52, X52, e52, st52⟩ := getF X51 hx hZ hown (host := "") (Or.inl (hw _ (List.mem_of_getElem? (i := 29) rfl))) Via.refl eq51 L1 (g := (mkF m 8 #[.val (.ref a1), .val (.int p1), .val (.int (0 : Int32))] [(.ref a1)])) rfl rfl (hb hby d116_8)
  refine own_t1 (.ref b1) 11 st52 ?_
  refine own_tp (.int p1) 12 (fun _ q => XS.iloadN X52.here hx rfl (hb hby d116_11) rfl q) ?_
  refine own_tp (.int (0 : Int32)) 13 (fun _ q => XS.iloadN X52.here hx rfl (hb hby d116_12) rfl q) ?_
  refine own_tp (.ref a1) 14 (fun _ q => XS.aloadN X52.here hx rfl (hb hby d116_13) rfl rfl q) ?_
  obtain ⟨cq53, kq53, q53a, q53b, q53c⟩ := isOf hZ e52 E1
  obtain ⟨_, _, ⟨T53, L53, k53, n53⟩, -, X53, ⟨Lc53, hQ53, l53, y53, z53⟩, st53⟩ := X52.virtualBack hx (y := (⟨"java/lang/String", "length", "()I"⟩ : MethodName)) (z := (⟨"java/lang/String", "length", "()I"⟩ : MethodName)) hown (mvT hZ (hw _ (List.mem_of_getElem? (i := 51) rfl))) (mvT hZ (hw _ (List.mem_of_getElem? (i := 52) rfl))) (notFace_of_selects (args := #[]) (mvT hZ (hw _ (List.mem_of_getElem? (i := 54) rfl)))) (mvT hZ (hw _ (List.mem_of_getElem? (i := 54) rfl))) (mvT hZ (hw _ (List.mem_of_getElem? (i := 53) rfl))) (by decide) (backOf (W := 3) (rm115 l Z a0 hw [] a1 b1 k1 cs h0 n0 hl hch G1 US O0 G3 rG3 Sf E1 C1 L1 hcs V1) hZ (hw _ (List.mem_of_getElem? (i := 55) rfl)) (hw _ (List.mem_of_getElem? (i := 11) rfl)) (by decide) (by decide)) q53a q53c (g := (mkF m 14 #[.val (.ref a1), .val (.int p1), .val (.int (0 : Int32))] [(.ref a1), (.int (0 : Int32)), (.int p1), (.ref b1)])) rfl (by rw [hml]; rfl) (Steps.refl _) (argsL := []) (rest := [(.int (0 : Int32)), (.int p1), (.ref b1)]) (lenOf pd116_1 rfl) rfl (by show 2 * 0 + _ ≤ _; exact Nat.le_of_eq rfl) (hb hby d116_14) (fun _ _ => ⟨rfl, e52, (by decide : 0 + 0 ≤ _), (by decide : 0 + 0 ≤ _)⟩)
  dsimp only [Pt.U, Pt.locs, Pt.cells, Pt.slots] at X53 l53 y53 z53 st53 hQ53
  subst l53 y53 z53
  obtain ⟨rfl, Nq53, eq53⟩ := hQ53
  have N53 := Fr.app N51 Nq53
  refine own_csR [(.int (Int32.ofNat cs.length)), (.int (0 : Int32)), (.int p1), (.ref b1)] 17 st53 ?_
  obtain ⟨_, _, ⟨T54, L54, k54, n54⟩, -, X54, ⟨Lc54, hQ54, l54, y54, z54⟩, st54⟩ := Jvm.LawKit.callS X53 hx (y := (⟨"java/lang/StringLatin1", "indexOf", "([BIII)I"⟩ : MethodName)) hown (mvT hZ (hw _ (List.mem_of_getElem? (i := 61) rfl))) (mvT hZ (hw _ (List.mem_of_getElem? (i := 62) rfl))) (mvT hZ (hw _ (List.mem_of_getElem? (i := 63) rfl))) (mvT hZ (hw _ (List.mem_of_getElem? (i := 64) rfl))) (by decide) (backOf (W := 0) (rm104 l Z a0 hw [] b1 k1 p1 cs h0 n0 hp hl hch hcs V1) hZ (hw _ (List.mem_of_getElem? (i := 64) rfl)) (hw _ (List.mem_of_getElem? (i := 63) rfl)) (by decide) (by decide)) (g := (mkF m 17 #[.val (.ref a1), .val (.int p1), .val (.int (0 : Int32))] [(.int (Int32.ofNat cs.length)), (.int (0 : Int32)), (.int p1), (.ref b1)])) rfl (by rw [hml]; rfl) (argsL := [(.ref b1), (.int p1), (.int (0 : Int32)), (.int (Int32.ofNat cs.length))]) (rest := []) (lenOf pd116_2 rfl) rfl (by show 2 * 0 + _ ≤ _; exact Nat.le_of_eq rfl) (hb hby d116_17) (fun _ _ => ⟨rfl, eq53, (by decide : 0 + 0 ≤ _), (by decide : 0 + 0 ≤ _)⟩)
  dsimp only [Pt.U, Pt.locs, Pt.cells, Pt.slots] at X54 l54 y54 z54 st54 hQ54
  subst l54 y54 z54
  obtain ⟨r54, rfl, hR54, Nq54, eq54⟩ := hQ54
  have N54 := Fr.app N53 Nq54
  refine own_cs [(.int r54)] 20 st54 ?_
  refine own_d0 36 (fun _ q => XS.goto X54.here hx rfl (pc0 := 20) (pc' := 36) rfl (hb hby d116_20) (by decide) (by decide) q) ?_
  exact own_retI X54 hx hrt (hb hby d116_36) hlk (by decide) (by decide) eq54 (⟨r54, rfl, hR54, N54, rfl⟩)

def Q117 (p1 : Int32) (cs : List Int32) (h0 : Heap) (n0 : Nat) (v : Option Value) (h : Heap) (L : List Loc) : Prop := ∃ r : Int32, v = some (.int r) ∧ own_R p1 cs r ∧ Fr n0 L ∧ h = h0

theorem d117_0 : decode jdk_42_method_79_code 0 = .ok (.aload_n 0, 1) := by decide +kernel
theorem d117_1 : decode jdk_42_method_79_code 1 = .ok (.iload_n 1, 1) := by decide +kernel
theorem d117_2 : decode jdk_42_method_79_code 2 = .ok (.iconst 0, 1) := by decide +kernel
theorem d117_3 : decode jdk_42_method_79_code 3 = .ok (.invokevirtual 633, 3) := by decide +kernel
theorem d117_6 : decode jdk_42_method_79_code 6 = .ok (.ireturn, 1) := by decide +kernel
theorem pn117 : plainName "java/lang/String" = true := by first | (simp [plainName, overriddenIn]; done) | decide +kernel
theorem pd117_0 : parseMethodDescriptor "(II)I" = some ⟨[.int, .int], some .int⟩ := by decide +kernel
theorem ef117 (m : MethodId) (x0 : Addr) (x1 : Int32) : entryFrame m #[(.ref x0), (.int x1)] 2 = mkF m 0 #[.val (.ref x0), .val (.int x1)] [] := by first | (simp [entryFrame, mkF, argsToLocals, Value.category]; done) | rfl
set_option maxRecDepth 65536 in
set_option maxHeartbeats 40000000 in
theorem rm117 (l : Launch) (Z : State) (a0 : Array Value) (hw : ∀ d ∈ tables_1, d.before a0 Z = true) (ws : List Jvm.Cond) (a1 b1 : Addr) (k1 : ClassId) (cs : List Int32) (p1 : Int32) (h0 : Heap) (n0 : Nat) (hl : cs.length ≤ 1000) (hch : ∀ c ∈ cs, 0 ≤ c.toInt ∧ c.toInt ≤ 65535) (G1 : Int32) (US : own_US Z G1) (O0 : Old Z n0 h0) (G3 : Value) (rG3 : G3.isRef = true) (Sf : Sta Z Z.heap "jdk/internal/util/Preconditions" "SIOOBE_FORMATTER" "Ljava/util/function/BiFunction;" G3) (E1 : Exa Z h0 a1 "java/lang/String") (C1 : Fld Z h0 a1 "java/lang/String" "coder" "B" (.int (0 : Int32))) (L1 : Fld Z h0 a1 "java/lang/String" "value" "[B" (.ref b1)) (hcs : ∀ c ∈ cs, ¬ (255 : Int32) < c) (V1 : Arv Z h0 b1 k1 .byte (Int32.ofNat cs.length) (own_lows cs) (.int (0 : Int32))) (hp : 0 ≤ p1.toInt ∧ p1.toInt ≤ 255) :
    own_Met l (⟨"java/lang/String", "indexOf", "(I)I"⟩ : MethodName) jdk_42_method_79_code 2 (some .int) ws ({ frames := 3, cells := 0, slots := 0, locals := 46 } : Room) Z #[(.ref a1), (.int p1)] h0 (Q117 p1 cs h0 n0) := by
  refine own_enter #[.val (.ref a1), .val (.int p1)] (plainFor_of_name pn117) (fun m => ef117 m a1 p1) ?_
  intro p e s m below meth c s₁ hx hby hml hown hnm hZ hrt hlk X0 e0
  have N0 := Fr.nil n0
  refine own_tp (.ref a1) 1 (fun _ q => XS.aloadN X0.here hx rfl (hb hby d117_0) rfl rfl q) ?_
  refine own_tp (.int p1) 2 (fun _ q => XS.iloadN X0.here hx rfl (hb hby d117_1) rfl q) ?_
  refine own_tp (.int (0 : Int32)) 3 (fun _ q => XS.iconst X0.here hx rfl (hb hby d117_2) q) ?_
  obtain ⟨cq51, kq51, q51a, q51b, q51c⟩ := isOf hZ e0 E1
  obtain ⟨_, _, ⟨T51, L51, k51, n51⟩, -, X51, ⟨Lc51, hQ51, l51, y51, z51⟩, st51⟩ := X0.virtualBack hx (y := (⟨"java/lang/String", "indexOf", "(II)I"⟩ : MethodName)) (z := (⟨"java/lang/String", "indexOf", "(II)I"⟩ : MethodName)) hown (mvT hZ (hw _ (List.mem_of_getElem? (i := 40) rfl))) (mvT hZ (hw _ (List.mem_of_getElem? (i := 41) rfl))) (notFace_of_selects (args := #[]) (mvT hZ (hw _ (List.mem_of_getElem? (i := 43) rfl)))) (mvT hZ (hw _ (List.mem_of_getElem? (i := 43) rfl))) (mvT hZ (hw _ (List.mem_of_getElem? (i := 42) rfl))) (by decide) (backOf (W := 0) (rm116 l Z a0 hw [] a1 b1 k1 cs p1 h0 n0 hl hch G1 US O0 G3 rG3 Sf E1 C1 L1 hcs V1 hp) hZ (hw _ (List.mem_of_getElem? (i := 44) rfl)) (hw _ (List.mem_of_getElem? (i := 11) rfl)) (by decide) (by decide)) q51a q51c (g := (mkF m 3 #[.val (.ref a1), .val (.int p1)] [(.int (0 : Int32)), (.int p1), (.ref a1)])) rfl (by rw [hml]; rfl) (Steps.refl _) (argsL := [(.int p1), (.int (0 : Int32))]) (rest := []) (lenOf pd117_0 rfl) rfl (by show 2 * 0 + _ ≤ _; exact Nat.le_of_eq rfl) (hb hby d117_3) (fun _ _ => ⟨rfl, e0, (by decide : 0 + 0 ≤ _), (by decide : 0 + 0 ≤ _)⟩)
  dsimp only [Pt.U, Pt.locs, Pt.cells, Pt.slots] at X51 l51 y51 z51 st51 hQ51
  subst l51 y51 z51
  obtain ⟨r51, rfl, hR51, Nq51, eq51⟩ := hQ51
  have N51 := Fr.app N0 Nq51
  refine own_csR [(.int r51)] 6 st51 ?_
  exact own_retI X51 hx hrt (hb hby d117_6) hlk (by decide) (by decide) eq51 (⟨r51, rfl, hR51, N51, rfl⟩)

def Q118 (z : Int32) (h0 : Heap) (n0 : Nat) (v : Option Value) (h : Heap) (L : List Loc) : Prop := v = some (.int z) ∧ Fr n0 L ∧ h = h0

theorem d118_0 : decode jdk_42_method_152_code 0 = .ok (.getstatic 38, 3) := by decide +kernel
theorem d118_3 : decode jdk_42_method_152_code 3 = .ok (.ifCond .eq 10, 3) := by decide +kernel
theorem d118_6 : decode jdk_42_method_152_code 6 = .ok (.aload_n 0, 1) := by decide +kernel
theorem d118_7 : decode jdk_42_method_152_code 7 = .ok (.getfield 15, 3) := by decide +kernel
theorem d118_10 : decode jdk_42_method_152_code 10 = .ok (.goto 4, 3) := by decide +kernel
theorem d118_14 : decode jdk_42_method_152_code 14 = .ok (.ireturn, 1) := by decide +kernel
theorem pn118 : plainName "java/lang/String" = true := by first | (simp [plainName, overriddenIn]; done) | decide +kernel
theorem ef118 (m : MethodId) (x0 : Addr) : entryFrame m #[(.ref x0)] 1 = mkF m 0 #[.val (.ref x0)] [] := by first | (simp [entryFrame, mkF, argsToLocals, Value.category]; done) | rfl
set_option maxRecDepth 65536 in
set_option maxHeartbeats 40000000 in
theorem rm118 (l : Launch) (Z : State) (a0 : Array Value) (hw : ∀ d ∈ tables_1, d.before a0 Z = true) (ws : List Jvm.Cond) (a1 b1 : Addr) (k1 : ClassId) (cs : List Int32) (h0 : Heap) (n0 : Nat) (hl : cs.length ≤ 1000) (hch : ∀ c ∈ cs, 0 ≤ c.toInt ∧ c.toInt ≤ 65535) (G1 : Int32) (US : own_US Z G1) (O0 : Old Z n0 h0) (G3 : Value) (rG3 : G3.isRef = true) (Sf : Sta Z Z.heap "jdk/internal/util/Preconditions" "SIOOBE_FORMATTER" "Ljava/util/function/BiFunction;" G3) (E1 : Exa Z h0 a1 "java/lang/String") (C1 : Fld Z h0 a1 "java/lang/String" "coder" "B" (.int (1 : Int32))) (L1 : Fld Z h0 a1 "java/lang/String" "value" "[B" (.ref b1)) (V1 : Arv Z h0 b1 k1 .byte (Int32.ofNat (2 * cs.length)) (own_wide cs) (.int (0 : Int32))) :
    own_Met l (⟨"java/lang/String", "coder", "()B"⟩ : MethodName) jdk_42_method_152_code 1 (some .byte) ws ({ frames := 0, cells := 0, slots := 0, locals := 0 } : Room) Z #[(.ref a1)] h0 (Q118 (1 : Int32) h0 n0) := by
  refine own_enter #[.val (.ref a1)] (plainFor_of_name pn118) (fun m => ef118 m a1) ?_
  intro p e s m below meth c s₁ hx hby hml hown hnm hZ hrt hlk X0 e0
  have N0 := Fr.nil n0
  obtain ⟨T51, X51, e51, st51⟩ := getS2 X0 hx hZ hown (host := "") (Or.inl (hw _ (List.mem_of_getElem? (i := 50) rfl))) Via.refl e0 (US.2.1.ext O0.2) (g := (mkF m 0 #[.val (.ref a1)] [])) rfl (hb hby d118_0)
  refine own_tp (.int G1) 3 st51 ?_
  refine own_d1 6 (fun _ q => XS.ifNo X51.here hx rfl (hb hby d118_3) rfl ((if0 _ _).trans (feq US.1).1) q) ?_
  refine own_tp (.ref a1) 7 (fun _ q => XS.aloadN X51.here hx rfl (hb hby d118_6) rfl rfl q) ?_
  obtain ⟨T52, X52, e52, st52⟩ := getF X51 hx hZ hown (host := "") (Or.inl (hw _ (List.mem_of_getElem? (i := 30) rfl))) Via.refl e51 C1 (g := (mkF m 7 #[.val (.ref a1)] [(.ref a1)])) rfl rfl (hb hby d118_7)
  refine own_t1 (.int (1 : Int32)) 10 st52 ?_
  refine own_d0 14 (fun _ q => XS.goto X52.here hx rfl (pc0 := 10) (pc' := 14) rfl (hb hby d118_10) (by decide) (by decide) q) ?_
  exact own_retN (t := .byte) X52 hx hrt (hb hby d118_14) (by simp) hlk (by decide) (by decide) e52 (⟨rfl, N0, rfl⟩)

def Q119 (z : Int32) (h0 : Heap) (n0 : Nat) (v : Option Value) (h : Heap) (L : List Loc) : Prop := v = some (.int z) ∧ Fr n0 L ∧ h = h0

theorem d119_0 : decode jdk_42_method_154_code 0 = .ok (.getstatic 38, 3) := by decide +kernel
theorem d119_3 : decode jdk_42_method_154_code 3 = .ok (.ifCond .eq 14, 3) := by decide +kernel
theorem d119_6 : decode jdk_42_method_154_code 6 = .ok (.aload_n 0, 1) := by decide +kernel
theorem d119_7 : decode jdk_42_method_154_code 7 = .ok (.getfield 15, 3) := by decide +kernel
theorem d119_10 : decode jdk_42_method_154_code 10 = .ok (.ifCond .ne 7, 3) := by decide +kernel
theorem d119_17 : decode jdk_42_method_154_code 17 = .ok (.iconst 0, 1) := by decide +kernel
theorem d119_18 : decode jdk_42_method_154_code 18 = .ok (.ireturn, 1) := by decide +kernel
theorem pn119 : plainName "java/lang/String" = true := by first | (simp [plainName, overriddenIn]; done) | decide +kernel
theorem ef119 (m : MethodId) (x0 : Addr) : entryFrame m #[(.ref x0)] 1 = mkF m 0 #[.val (.ref x0)] [] := by first | (simp [entryFrame, mkF, argsToLocals, Value.category]; done) | rfl
set_option maxRecDepth 65536 in
set_option maxHeartbeats 40000000 in
theorem rm119 (l : Launch) (Z : State) (a0 : Array Value) (hw : ∀ d ∈ tables_1, d.before a0 Z = true) (ws : List Jvm.Cond) (a1 b1 : Addr) (k1 : ClassId) (cs : List Int32) (h0 : Heap) (n0 : Nat) (hl : cs.length ≤ 1000) (hch : ∀ c ∈ cs, 0 ≤ c.toInt ∧ c.toInt ≤ 65535) (G1 : Int32) (US : own_US Z G1) (O0 : Old Z n0 h0) (G3 : Value) (rG3 : G3.isRef = true) (Sf : Sta Z Z.heap "jdk/internal/util/Preconditions" "SIOOBE_FORMATTER" "Ljava/util/function/BiFunction;" G3) (E1 : Exa Z h0 a1 "java/lang/String") (C1 : Fld Z h0 a1 "java/lang/String" "coder" "B" (.int (1 : Int32))) (L1 : Fld Z h0 a1 "java/lang/String" "value" "[B" (.ref b1)) (V1 : Arv Z h0 b1 k1 .byte (Int32.ofNat (2 * cs.length)) (own_wide cs) (.int (0 : Int32))) :
    own_Met l (⟨"java/lang/String", "isLatin1", "()Z"⟩ : MethodName) jdk_42_method_154_code 1 (some .boolean) ws ({ frames := 0, cells := 0, slots := 0, locals := 0 } : Room) Z #[(.ref a1)] h0 (Q119 (0 : Int32) h0 n0) := by
  refine own_enter #[.val (.ref a1)] (plainFor_of_name pn119) (fun m => ef119 m a1) ?_
  intro p e s m below meth c s₁ hx hby hml hown hnm hZ hrt hlk X0 e0
  have N0 := Fr.nil n0
  obtain ⟨T51, X51, e51, st51⟩ := getS2 X0 hx hZ hown (host := "") (Or.inl (hw _ (List.mem_of_getElem? (i := 50) rfl))) Via.refl e0 (US.2.1.ext O0.2) (g := (mkF m 0 #[.val (.ref a1)] [])) rfl (hb hby d119_0)
  refine own_tp (.int G1) 3 st51 ?_
  refine own_d1 6 (fun _ q => XS.ifNo X51.here hx rfl (hb hby d119_3) rfl ((if0 _ _).trans (feq US.1).1) q) ?_
  refine own_tp (.ref a1) 7 (fun _ q => XS.aloadN X51.here hx rfl (hb hby d119_6) rfl rfl q) ?_
  obtain ⟨T52, X52, e52, st52⟩ := getF X51 hx hZ hown (host := "") (Or.inl (hw _ (List.mem_of_getElem? (i := 30) rfl))) Via.refl e51 C1 (g := (mkF m 7 #[.val (.ref a1)] [(.ref a1)])) rfl rfl (hb hby d119_7)
  refine own_t1 (.int (1 : Int32)) 10 st52 ?_
  refine own_d1 17 (fun _ q => XS.ifYes X52.here hx rfl (pc0 := 10) (pc' := 17) rfl (hb hby d119_10) rfl ((if0 _ _).trans (feq (by decide : ¬ ((1 : Int32) = (0 : Int32)))).2) (by decide) (by decide) q) ?_
  refine own_tp (.int (0 : Int32)) 18 (fun _ q => XS.iconst X52.here hx rfl (hb hby d119_17) q) ?_
  exact own_retN (t := .boolean) X52 hx hrt (hb hby d119_18) (by simp) hlk (by decide) (by decide) e52 (⟨rfl, N0, rfl⟩)

def Q120 (z : Int32) (h0 : Heap) (n0 : Nat) (v : Option Value) (h : Heap) (L : List Loc) : Prop := v = some (.int z) ∧ Fr n0 L ∧ h = h0

theorem d120_0 : decode jdk_42_method_54_code 0 = .ok (.aload_n 0, 1) := by decide +kernel
theorem d120_1 : decode jdk_42_method_54_code 1 = .ok (.getfield 9, 3) := by decide +kernel
theorem d120_4 : decode jdk_42_method_54_code 4 = .ok (.arraylength, 1) := by decide +kernel
theorem d120_5 : decode jdk_42_method_54_code 5 = .ok (.aload_n 0, 1) := by decide +kernel
theorem d120_6 : decode jdk_42_method_54_code 6 = .ok (.invokevirtual 335, 3) := by decide +kernel
theorem d120_9 : decode jdk_42_method_54_code 9 = .ok (.ishr, 1) := by decide +kernel
theorem d120_10 : decode jdk_42_method_54_code 10 = .ok (.ireturn, 1) := by decide +kernel
theorem pn120 : plainName "java/lang/String" = true := by first | (simp [plainName, overriddenIn]; done) | decide +kernel
theorem pd120_0 : parseMethodDescriptor "()B" = some ⟨[], some .byte⟩ := by decide +kernel
theorem ef120 (m : MethodId) (x0 : Addr) : entryFrame m #[(.ref x0)] 1 = mkF m 0 #[.val (.ref x0)] [] := by first | (simp [entryFrame, mkF, argsToLocals, Value.category]; done) | rfl
set_option maxRecDepth 65536 in
set_option maxHeartbeats 40000000 in
theorem rm120 (l : Launch) (Z : State) (a0 : Array Value) (hw : ∀ d ∈ tables_1, d.before a0 Z = true) (ws : List Jvm.Cond) (a1 b1 : Addr) (k1 : ClassId) (cs : List Int32) (h0 : Heap) (n0 : Nat) (hl : cs.length ≤ 1000) (hch : ∀ c ∈ cs, 0 ≤ c.toInt ∧ c.toInt ≤ 65535) (G1 : Int32) (US : own_US Z G1) (O0 : Old Z n0 h0) (G3 : Value) (rG3 : G3.isRef = true) (Sf : Sta Z Z.heap "jdk/internal/util/Preconditions" "SIOOBE_FORMATTER" "Ljava/util/function/BiFunction;" G3) (E1 : Exa Z h0 a1 "java/lang/String") (C1 : Fld Z h0 a1 "java/lang/String" "coder" "B" (.int (1 : Int32))) (L1 : Fld Z h0 a1 "java/lang/String" "value" "[B" (.ref b1)) (V1 : Arv Z h0 b1 k1 .byte (Int32.ofNat (2 * cs.length)) (own_wide cs) (.int (0 : Int32))) :
    own_Met l (⟨"java/lang/String", "length", "()I"⟩ : MethodName) jdk_42_method_54_code 1 (some .int) ws ({ frames := 1, cells := 0, slots := 0, locals := 13 } : Room) Z #[(.ref a1)] h0 (Q120 (Int32.ofNat cs.length) h0 n0) := by
  refine own_enter #[.val (.ref a1)] (plainFor_of_name pn120) (fun m => ef120 m a1) ?_
  intro p e s m below meth c s₁ hx hby hml hown hnm hZ hrt hlk X0 e0
  have N0 := Fr.nil n0
  refine own_tp (.ref a1) 1 (fun _ q => XS.aloadN X0.here hx rfl (hb hby d120_0) rfl rfl q) ?_
  obtain ⟨T51, X51, e51, st51⟩ := getF X0 hx hZ hown (host := "") (Or.inl (hw _ (List.mem_of_getElem? (i := 29) rfl))) Via.refl e0 L1 (g := (mkF m 1 #[.val (.ref a1)] [(.ref a1)])) rfl rfl (hb hby d120_1)
  refine own_t1 (.ref b1) 4 st51 ?_
  obtain ⟨cl52, Ar52, -, Sz52, Nn52, -, -⟩ := (id V1)
  refine own_t1 (.int (Int32.ofNat (2 * cs.length))) 5 (fun t q => X51.arraylength hx (by rw [e51]; exact Ar52.1) (State.isArrayOf_alike hZ.alike Ar52.2.1) (g := (mkF m 4 #[.val (.ref a1)] [(.ref b1)])) rfl rfl (hb hby d120_4) _ (by rw [len_of Sz52 Nn52]; exact q)) ?_
  refine own_tp (.ref a1) 6 (fun _ q => XS.aloadN X51.here hx rfl (hb hby d120_5) rfl rfl q) ?_
  obtain ⟨cq53, kq53, q53a, q53b, q53c⟩ := isOf hZ e51 E1
  obtain ⟨_, _, ⟨T53, L53, k53, n53⟩, -, X53, ⟨Lc53, hQ53, l53, y53, z53⟩, st53⟩ := X51.virtualBack hx (y := (⟨"java/lang/String", "coder", "()B"⟩ : MethodName)) (z := (⟨"java/lang/String", "coder", "()B"⟩ : MethodName)) hown (mvT hZ (hw _ (List.mem_of_getElem? (i := 56) rfl))) (mvT hZ (hw _ (List.mem_of_getElem? (i := 57) rfl))) (notFace_of_selects (args := #[]) (mvT hZ (hw _ (List.mem_of_getElem? (i := 59) rfl)))) (mvT hZ (hw _ (List.mem_of_getElem? (i := 59) rfl))) (mvT hZ (hw _ (List.mem_of_getElem? (i := 58) rfl))) (by decide) (backOf (W := 1) (rm118 l Z a0 hw [] a1 b1 k1 cs h0 n0 hl hch G1 US O0 G3 rG3 Sf E1 C1 L1 V1) hZ (hw _ (List.mem_of_getElem? (i := 60) rfl)) (hw _ (List.mem_of_getElem? (i := 11) rfl)) (by decide) (by decide)) q53a q53c (g := (mkF m 6 #[.val (.ref a1)] [(.ref a1), (.int (Int32.ofNat (2 * cs.length)))])) rfl (by rw [hml]; rfl) (Steps.refl _) (argsL := []) (rest := [(.int (Int32.ofNat (2 * cs.length)))]) (lenOf pd120_0 rfl) rfl (by show 2 * 0 + _ ≤ _; exact Nat.le_of_eq rfl) (hb hby d120_6) (fun _ _ => ⟨rfl, e51, (by decide : 0 + 0 ≤ _), (by decide : 0 + 0 ≤ _)⟩)
  dsimp only [Pt.U, Pt.locs, Pt.cells, Pt.slots] at X53 l53 y53 z53 st53 hQ53
  subst l53 y53 z53
  obtain ⟨rfl, Nq53, eq53⟩ := hQ53
  have N53 := Fr.app N0 Nq53
  refine own_csR [(.int (1 : Int32)), (.int (Int32.ofNat (2 * cs.length)))] 9 st53 ?_
  refine own_t2 (.int ((Int32.ofNat (2 * cs.length)) >>> ((1 : Int32) &&& 31))) 10 (fun _ q => XS.ishr X53.here hx rfl (hb hby d120_9) rfl q) ?_
  exact own_retI X53 hx hrt (hb hby d120_10) hlk (by decide) (by decide) eq53 (⟨by rw [own_shr1 hl], N53, rfl⟩)

def Q121 (p1 : Int32) (cs : List Int32) (h0 : Heap) (n0 : Nat) (v : Option Value) (h : Heap) (L : List Loc) : Prop := ∃ r : Int32, v = some (.int r) ∧ own_R p1 cs r ∧ Fr n0 L ∧ h = h0

theorem d121_0 : decode jdk_42_method_80_code 0 = .ok (.aload_n 0, 1) := by decide +kernel
theorem d121_1 : decode jdk_42_method_80_code 1 = .ok (.invokevirtual 492, 3) := by decide +kernel
theorem d121_4 : decode jdk_42_method_80_code 4 = .ok (.ifCond .eq 19, 3) := by decide +kernel
theorem d121_23 : decode jdk_42_method_80_code 23 = .ok (.aload_n 0, 1) := by decide +kernel
theorem d121_24 : decode jdk_42_method_80_code 24 = .ok (.getfield 9, 3) := by decide +kernel
theorem d121_27 : decode jdk_42_method_80_code 27 = .ok (.iload_n 1, 1) := by decide +kernel
theorem d121_28 : decode jdk_42_method_80_code 28 = .ok (.iload_n 2, 1) := by decide +kernel
theorem d121_29 : decode jdk_42_method_80_code 29 = .ok (.aload_n 0, 1) := by decide +kernel
theorem d121_30 : decode jdk_42_method_80_code 30 = .ok (.invokevirtual 505, 3) := by decide +kernel
theorem d121_33 : decode jdk_42_method_80_code 33 = .ok (.invokestatic 640, 3) := by decide +kernel
theorem d121_36 : decode jdk_42_method_80_code 36 = .ok (.ireturn, 1) := by decide +kernel
theorem pn121 : plainName "java/lang/String" = true := by first | (simp [plainName, overriddenIn]; done) | decide +kernel
theorem pd121_0 : parseMethodDescriptor "()Z" = some ⟨[], some .boolean⟩ := by decide +kernel
theorem pd121_1 : parseMethodDescriptor "()I" = some ⟨[], some .int⟩ := by decide +kernel
theorem pd121_2 : parseMethodDescriptor "([BIII)I" = some ⟨[(.array .byte), .int, .int, .int], some .int⟩ := by decide +kernel
theorem ef121 (m : MethodId) (x0 : Addr) (x1 : Int32) (x2 : Int32) : entryFrame m #[(.ref x0), (.int x1), (.int x2)] 3 = mkF m 0 #[.val (.ref x0), .val (.int x1), .val (.int x2)] [] := by first | (simp [entryFrame, mkF, argsToLocals, Value.category]; done) | rfl
set_option maxRecDepth 65536 in
set_option maxHeartbeats 40000000 in
theorem rm121 (l : Launch) (Z : State) (a0 : Array Value) (hw : ∀ d ∈ tables_1, d.before a0 Z = true) (ws : List Jvm.Cond) (a1 b1 : Addr) (k1 : ClassId) (cs : List Int32) (p1 : Int32) (h0 : Heap) (n0 : Nat) (hl : cs.length ≤ 1000) (hch : ∀ c ∈ cs, 0 ≤ c.toInt ∧ c.toInt ≤ 65535) (G1 : Int32) (US : own_US Z G1) (O0 : Old Z n0 h0) (G3 : Value) (rG3 : G3.isRef = true) (Sf : Sta Z Z.heap "jdk/internal/util/Preconditions" "SIOOBE_FORMATTER" "Ljava/util/function/BiFunction;" G3) (E1 : Exa Z h0 a1 "java/lang/String") (C1 : Fld Z h0 a1 "java/lang/String" "coder" "B" (.int (1 : Int32))) (L1 : Fld Z h0 a1 "java/lang/String" "value" "[B" (.ref b1)) (V1 : Arv Z h0 b1 k1 .byte (Int32.ofNat (2 * cs.length)) (own_wide cs) (.int (0 : Int32))) (hp : 0 ≤ p1.toInt ∧ p1.toInt ≤ 255) :
    own_Met l (⟨"java/lang/String", "indexOf", "(II)I"⟩ : MethodName) jdk_42_method_80_code 3 (some .int) ws ({ frames := 5, cells := 0, slots := 0, locals := 75 } : Room) Z #[(.ref a1), (.int p1), (.int (0 : Int32))] h0 (Q121 p1 cs h0 n0) := by
  refine own_enter #[.val (.ref a1), .val (.int p1), .val (.int (0 : Int32))] (plainFor_of_name pn121) (fun m => ef121 m a1 p1 (0 : Int32)) ?_
  intro p e s m below meth c s₁ hx hby hml hown hnm hZ hrt hlk X0 e0
  have N0 := Fr.nil n0
  refine own_tp (.ref a1) 1 (fun _ q => XS.aloadN X0.here hx rfl (hb hby d121_0) rfl rfl q) ?_
  obtain ⟨cq51, kq51, q51a, q51b, q51c⟩ := isOf hZ e0 E1
  obtain ⟨_, _, ⟨T51, L51, k51, n51⟩, -, X51, ⟨Lc51, hQ51, l51, y51, z51⟩, st51⟩ := X0.virtualBack hx (y := (⟨"java/lang/String", "isLatin1", "()Z"⟩ : MethodName)) (z := (⟨"java/lang/String", "isLatin1", "()Z"⟩ : MethodName)) hown (mvT hZ (hw _ (List.mem_of_getElem? (i := 45) rfl))) (mvT hZ (hw _ (List.mem_of_getElem? (i := 46) rfl))) (notFace_of_selects (args := #[]) (mvT hZ (hw _ (List.mem_of_getElem? (i := 48) rfl)))) (mvT hZ (hw _ (List.mem_of_getElem? (i := 48) rfl))) (mvT hZ (hw _ (List.mem_of_getElem? (i := 47) rfl))) (by decide) (backOf (W := 0) (rm119 l Z a0 hw [] a1 b1 k1 cs h0 n0 hl hch G1 US O0 G3 rG3 Sf E1 C1 L1 V1) hZ (hw _ (List.mem_of_getElem? (i := 49) rfl)) (hw _ (List.mem_of_getElem? (i := 11) rfl)) (by decide) (by decide)) q51a q51c (g := (mkF m 1 #[.val (.ref a1), .val (.int p1), .val (.int (0 : Int32))] [(.ref a1)])) rfl (by rw [hml]; rfl) (Steps.refl _) (argsL := []) (rest := []) (lenOf pd121_0 rfl) rfl (by show 2 * 0 + _ ≤ _; exact Nat.le_of_eq rfl) (hb hby d121_1) (fun _ _ => ⟨rfl, e0, (by decide : 0 + 0 ≤ _), (by decide : 0 + 0 ≤ _)⟩)
  dsimp only [Pt.U, Pt.locs, Pt.cells, Pt.slots] at X51 l51 y51 z51 st51 hQ51
  subst l51 y51 z51
  obtain ⟨rfl, Nq51, eq51⟩ := hQ51
  have N51 := Fr.app N0 Nq51
  refine own_csR [(.int (0 : Int32))] 4 st51 ?_
  refine own_d1 23 (fun _ q => XS.ifYes X51.here hx rfl (pc0 := 4) (pc' := 23) rfl (hb hby d121_4) rfl ((if0 _ _).trans (teq (by decide : (0 : Int32) = (0 : Int32))).1) (by decide) (by decide) q) ?_
  refine own_tp (.ref a1) 24 (fun _ q => XS.aloadN X51.here hx rfl (hb hby d121_23) rfl rfl q) ?_
  obtain ⟨T52, X52, e52, st52⟩ := getF X51 hx hZ hown (host := "") (Or.inl (hw _ (List.mem_of_getElem? (i := 29) rfl))) Via.refl eq51 L1 (g := (mkF m 24 #[.val (.ref a1), .val (.int p1), .val (.int (0 : Int32))] [(.ref a1)])) rfl rfl (hb hby d121_24)
  refine own_t1 (.ref b1) 27 st52 ?_
  refine own_tp (.int p1) 28 (fun _ q => XS.iloadN X52.here hx rfl (hb hby d121_27) rfl q) ?_
  refine own_tp (.int (0 : Int32)) 29 (fun _ q => XS.iloadN X52.here hx rfl (hb hby d121_28) rfl q) ?_
  refine own_tp (.ref a1) 30 (fun _ q => XS.aloadN X52.here hx rfl (hb hby d121_29) rfl rfl q) ?_
  obtain ⟨cq53, kq53, q53a, q53b, q53c⟩ := isOf hZ e52 E1
  obtain ⟨_, _, ⟨T53, L53, k53, n53⟩, -, X53, ⟨Lc53, hQ53, l53, y53, z53⟩, st53⟩ := X52.virtualBack hx (y := (⟨"java/lang/String", "length", "()I"⟩ : MethodName)) (z := (⟨"java/lang/String", "length", "()I"⟩ : MethodName)) hown (mvT hZ (hw _ (List.mem_of_getElem? (i := 51) rfl))) (mvT hZ (hw _ (List.mem_of_getElem? (i := 52) rfl))) (notFace_of_selects (args := #[]) (mvT hZ (hw _ (List.mem_of_getElem? (i := 54) rfl)))) (mvT hZ (hw _ (List.mem_of_getElem? (i := 54) rfl))) (mvT hZ (hw _ (List.mem_of_getElem? (i := 53) rfl))) (by decide) (backOf (W := 3) (rm120 l Z a0 hw [] a1 b1 k1 cs h0 n0 hl hch G1 US O0 G3 rG3 Sf E1 C1 L1 V1) hZ (hw _ (List.mem_of_getElem? (i := 55) rfl)) (hw _ (List.mem_of_getElem? (i := 11) rfl)) (by decide) (by decide)) q53a q53c (g := (mkF m 30 #[.val (.ref a1), .val (.int p1), .val (.int (0 : Int32))] [(.ref a1), (.int (0 : Int32)), (.int p1), (.ref b1)])) rfl (by rw [hml]; rfl) (Steps.refl _) (argsL := []) (rest := [(.int (0 : Int32)), (.int p1), (.ref b1)]) (lenOf pd121_1 rfl) rfl (by show 2 * 0 + _ ≤ _; exact Nat.le_of_eq rfl) (hb hby d121_30) (fun _ _ => ⟨rfl, e52, (by decide : 0 + 0 ≤ _), (by decide : 0 + 0 ≤ _)⟩)
  dsimp only [Pt.U, Pt.locs, Pt.cells, Pt.slots] at X53 l53 y53 z53 st53 hQ53
  subst l53 y53 z53
  obtain ⟨rfl, Nq53, eq53⟩ := hQ53
  have N53 := Fr.app N51 Nq53
  refine own_csR [(.int (Int32.ofNat cs.length)), (.int (0 : Int32)), (.int p1), (.ref b1)] 33 st53 ?_
  obtain ⟨_, _, ⟨T54, L54, k54, n54⟩, -, X54, ⟨Lc54, hQ54, l54, y54, z54⟩, st54⟩ := Jvm.LawKit.callS X53 hx (y := (⟨"java/lang/StringUTF16", "indexOf", "([BIII)I"⟩ : MethodName)) hown (mvT hZ (hw _ (List.mem_of_getElem? (i := 111) rfl))) (mvT hZ (hw _ (List.mem_of_getElem? (i := 112) rfl))) (mvT hZ (hw _ (List.mem_of_getElem? (i := 77) rfl))) (mvT hZ (hw _ (List.mem_of_getElem? (i := 113) rfl))) (by decide) (backOf (W := 0) (rm112 l Z a0 hw [] b1 k1 p1 cs h0 n0 hp hl hch V1 G1 US O0 G3 rG3 Sf) hZ (hw _ (List.mem_of_getElem? (i := 113) rfl)) (hw _ (List.mem_of_getElem? (i := 77) rfl)) (by decide) (by decide)) (g := (mkF m 33 #[.val (.ref a1), .val (.int p1), .val (.int (0 : Int32))] [(.int (Int32.ofNat cs.length)), (.int (0 : Int32)), (.int p1), (.ref b1)])) rfl (by rw [hml]; rfl) (argsL := [(.ref b1), (.int p1), (.int (0 : Int32)), (.int (Int32.ofNat cs.length))]) (rest := []) (lenOf pd121_2 rfl) rfl (by show 2 * 0 + _ ≤ _; exact Nat.le_of_eq rfl) (hb hby d121_33) (fun _ _ => ⟨rfl, eq53, (by decide : 0 + 0 ≤ _), (by decide : 0 + 0 ≤ _)⟩)
  dsimp only [Pt.U, Pt.locs, Pt.cells, Pt.slots] at X54 l54 y54 z54 st54 hQ54
  subst l54 y54 z54
  obtain ⟨r54, rfl, hR54, Nq54, eq54⟩ := hQ54
  have N54 := Fr.app N53 Nq54
  refine own_cs [(.int r54)] 36 st54 ?_
  exact own_retI X54 hx hrt (hb hby d121_36) hlk (by decide) (by decide) eq54 (⟨r54, rfl, hR54, N54, rfl⟩)

def Q122 (p1 : Int32) (cs : List Int32) (h0 : Heap) (n0 : Nat) (v : Option Value) (h : Heap) (L : List Loc) : Prop := ∃ r : Int32, v = some (.int r) ∧ own_R p1 cs r ∧ Fr n0 L ∧ h = h0

theorem d122_0 : decode jdk_42_method_79_code 0 = .ok (.aload_n 0, 1) := by decide +kernel
theorem d122_1 : decode jdk_42_method_79_code 1 = .ok (.iload_n 1, 1) := by decide +kernel
theorem d122_2 : decode jdk_42_method_79_code 2 = .ok (.iconst 0, 1) := by decide +kernel
theorem d122_3 : decode jdk_42_method_79_code 3 = .ok (.invokevirtual 633, 3) := by decide +kernel
theorem d122_6 : decode jdk_42_method_79_code 6 = .ok (.ireturn, 1) := by decide +kernel
theorem pn122 : plainName "java/lang/String" = true := by first | (simp [plainName, overriddenIn]; done) | decide +kernel
theorem pd122_0 : parseMethodDescriptor "(II)I" = some ⟨[.int, .int], some .int⟩ := by decide +kernel
theorem ef122 (m : MethodId) (x0 : Addr) (x1 : Int32) : entryFrame m #[(.ref x0), (.int x1)] 2 = mkF m 0 #[.val (.ref x0), .val (.int x1)] [] := by first | (simp [entryFrame, mkF, argsToLocals, Value.category]; done) | rfl
set_option maxRecDepth 65536 in
set_option maxHeartbeats 40000000 in
theorem rm122 (l : Launch) (Z : State) (a0 : Array Value) (hw : ∀ d ∈ tables_1, d.before a0 Z = true) (ws : List Jvm.Cond) (a1 b1 : Addr) (k1 : ClassId) (cs : List Int32) (p1 : Int32) (h0 : Heap) (n0 : Nat) (hl : cs.length ≤ 1000) (hch : ∀ c ∈ cs, 0 ≤ c.toInt ∧ c.toInt ≤ 65535) (G1 : Int32) (US : own_US Z G1) (O0 : Old Z n0 h0) (G3 : Value) (rG3 : G3.isRef = true) (Sf : Sta Z Z.heap "jdk/internal/util/Preconditions" "SIOOBE_FORMATTER" "Ljava/util/function/BiFunction;" G3) (E1 : Exa Z h0 a1 "java/lang/String") (C1 : Fld Z h0 a1 "java/lang/String" "coder" "B" (.int (1 : Int32))) (L1 : Fld Z h0 a1 "java/lang/String" "value" "[B" (.ref b1)) (V1 : Arv Z h0 b1 k1 .byte (Int32.ofNat (2 * cs.length)) (own_wide cs) (.int (0 : Int32))) (hp : 0 ≤ p1.toInt ∧ p1.toInt ≤ 255) :
    own_Met l (⟨"java/lang/String", "indexOf", "(I)I"⟩ : MethodName) jdk_42_method_79_code 2 (some .int) ws ({ frames := 6, cells := 0, slots := 0, locals := 89 } : Room) Z #[(.ref a1), (.int p1)] h0 (Q122 p1 cs h0 n0) := by
  refine own_enter #[.val (.ref a1), .val (.int p1)] (plainFor_of_name pn122) (fun m => ef122 m a1 p1) ?_
  intro p e s m below meth c s₁ hx hby hml hown hnm hZ hrt hlk X0 e0
  have N0 := Fr.nil n0
  refine own_tp (.ref a1) 1 (fun _ q => XS.aloadN X0.here hx rfl (hb hby d122_0) rfl rfl q) ?_
  refine own_tp (.int p1) 2 (fun _ q => XS.iloadN X0.here hx rfl (hb hby d122_1) rfl q) ?_
  refine own_tp (.int (0 : Int32)) 3 (fun _ q => XS.iconst X0.here hx rfl (hb hby d122_2) q) ?_
  obtain ⟨cq51, kq51, q51a, q51b, q51c⟩ := isOf hZ e0 E1
  obtain ⟨_, _, ⟨T51, L51, k51, n51⟩, -, X51, ⟨Lc51, hQ51, l51, y51, z51⟩, st51⟩ := X0.virtualBack hx (y := (⟨"java/lang/String", "indexOf", "(II)I"⟩ : MethodName)) (z := (⟨"java/lang/String", "indexOf", "(II)I"⟩ : MethodName)) hown (mvT hZ (hw _ (List.mem_of_getElem? (i := 40) rfl))) (mvT hZ (hw _ (List.mem_of_getElem? (i := 41) rfl))) (notFace_of_selects (args := #[]) (mvT hZ (hw _ (List.mem_of_getElem? (i := 43) rfl)))) (mvT hZ (hw _ (List.mem_of_getElem? (i := 43) rfl))) (mvT hZ (hw _ (List.mem_of_getElem? (i := 42) rfl))) (by decide) (backOf (W := 0) (rm121 l Z a0 hw [] a1 b1 k1 cs p1 h0 n0 hl hch G1 US O0 G3 rG3 Sf E1 C1 L1 V1 hp) hZ (hw _ (List.mem_of_getElem? (i := 44) rfl)) (hw _ (List.mem_of_getElem? (i := 11) rfl)) (by decide) (by decide)) q51a q51c (g := (mkF m 3 #[.val (.ref a1), .val (.int p1)] [(.int (0 : Int32)), (.int p1), (.ref a1)])) rfl (by rw [hml]; rfl) (Steps.refl _) (argsL := [(.int p1), (.int (0 : Int32))]) (rest := []) (lenOf pd122_0 rfl) rfl (by show 2 * 0 + _ ≤ _; exact Nat.le_of_eq rfl) (hb hby d122_3) (fun _ _ => ⟨rfl, e0, (by decide : 0 + 0 ≤ _), (by decide : 0 + 0 ≤ _)⟩)
  dsimp only [Pt.U, Pt.locs, Pt.cells, Pt.slots] at X51 l51 y51 z51 st51 hQ51
  subst l51 y51 z51
  obtain ⟨r51, rfl, hR51, Nq51, eq51⟩ := hQ51
  have N51 := Fr.app N0 Nq51
  refine own_csR [(.int r51)] 6 st51 ?_
  exact own_retI X51 hx hrt (hb hby d122_6) hlk (by decide) (by decide) eq51 (⟨r51, rfl, hR51, N51, rfl⟩)

def Q123 (Z : State) (b1 : Addr) (k2 : ClassId) (c0 : Int32) (h0 : Heap) (n0 : Nat) (v : Option Value) (h : Heap) (L : List Loc) : Prop := Fr n0 L ∧ Keep h0 h [b1] ∧ ((v = some (.int (0 : Int32)) ∧ (255 : Int32) < c0) ∨ (v = some (.int (1 : Int32)) ∧ (¬ (255 : Int32) < c0) ∧ Arv Z h b1 k2 .byte (1 : Int32) [(.int (own_lo c0))] (.int (0 : Int32))))

theorem d123_0 : decode jdk_52_method_21_code 0 = .ok (.iconst 0, 1) := by decide +kernel
theorem d123_1 : decode jdk_52_method_21_code 1 = .ok (.istore 5, 2) := by decide +kernel
theorem d123_3 : decode jdk_52_method_21_code 3 = .ok (.iload 5, 2) := by decide +kernel
theorem d123_5 : decode jdk_52_method_21_code 5 = .ok (.iload 4, 2) := by decide +kernel
theorem d123_7 : decode jdk_52_method_21_code 7 = .ok (.if_icmp .ge 37, 3) := by decide +kernel
theorem d123_10 : decode jdk_52_method_21_code 10 = .ok (.aload_n 0, 1) := by decide +kernel
theorem d123_11 : decode jdk_52_method_21_code 11 = .ok (.iload_n 1, 1) := by decide +kernel
theorem d123_12 : decode jdk_52_method_21_code 12 = .ok (.caload, 1) := by decide +kernel
theorem d123_13 : decode jdk_52_method_21_code 13 = .ok (.istore 6, 2) := by decide +kernel
theorem d123_15 : decode jdk_52_method_21_code 15 = .ok (.iload 6, 2) := by decide +kernel
theorem d123_17 : decode jdk_52_method_21_code 17 = .ok (.sipush 255, 3) := by decide +kernel
theorem d123_20 : decode jdk_52_method_21_code 20 = .ok (.if_icmp .le 6, 3) := by decide +kernel
theorem d123_23 : decode jdk_52_method_21_code 23 = .ok (.iload 5, 2) := by decide +kernel
theorem d123_25 : decode jdk_52_method_21_code 25 = .ok (.ireturn, 1) := by decide +kernel
theorem d123_26 : decode jdk_52_method_21_code 26 = .ok (.aload_n 2, 1) := by decide +kernel
theorem d123_27 : decode jdk_52_method_21_code 27 = .ok (.iload_n 3, 1) := by decide +kernel
theorem d123_28 : decode jdk_52_method_21_code 28 = .ok (.iload 6, 2) := by decide +kernel
theorem d123_30 : decode jdk_52_method_21_code 30 = .ok (.i2b, 1) := by decide +kernel
theorem d123_31 : decode jdk_52_method_21_code 31 = .ok (.bastore, 1) := by decide +kernel
theorem d123_32 : decode jdk_52_method_21_code 32 = .ok (.iinc 1 1, 3) := by decide +kernel
theorem d123_35 : decode jdk_52_method_21_code 35 = .ok (.iinc 3 1, 3) := by decide +kernel
theorem d123_38 : decode jdk_52_method_21_code 38 = .ok (.iinc 5 1, 3) := by decide +kernel
theorem d123_41 : decode jdk_52_method_21_code 41 = .ok (.goto (-38), 3) := by decide +kernel
theorem d123_44 : decode jdk_52_method_21_code 44 = .ok (.iload 4, 2) := by decide +kernel
theorem d123_46 : decode jdk_52_method_21_code 46 = .ok (.ireturn, 1) := by decide +kernel
theorem pn123 : plainName "java/lang/StringUTF16" = true := by first | (simp [plainName, overriddenIn]; done) | decide +kernel
theorem ef123 (m : MethodId) (x0 : Addr) (x1 : Int32) (x2 : Addr) (x3 : Int32) (x4 : Int32) : entryFrame m #[(.ref x0), (.int x1), (.ref x2), (.int x3), (.int x4)] 7 = mkF m 0 #[.val (.ref x0), .val (.int x1), .val (.ref x2), .val (.int x3), .val (.int x4), .unset, .unset] [] := by first | (simp [entryFrame, mkF, argsToLocals, Value.category]; done) | rfl
set_option maxRecDepth 65536 in
set_option maxHeartbeats 40000000 in
theorem rm123 (l : Launch) (Z : State) (a0 : Array Value) (hw : ∀ d ∈ tables_1, d.before a0 Z = true) (ws : List Jvm.Cond) (a1 b1 : Addr) (k1 k2 : ClassId) (c0 : Int32) (h0 : Heap) (n0 : Nat) (Z0 : n0 ≤ h0.size) (g1 : n0 ≤ b1) (hab : a1 ≠ b1) (V1 : Arv Z h0 a1 k1 .char (1 : Int32) [(.int c0)] (.int (0 : Int32))) (V2 : Arv Z h0 b1 k2 .byte (1 : Int32) [(.int (0 : Int32))] (.int (0 : Int32))) :
    own_Met l (⟨"java/lang/StringUTF16", "compress", "([CI[BII)I"⟩ : MethodName) jdk_52_method_21_code 7 (some .int) ws ({ frames := 0, cells := 0, slots := 0, locals := 0 } : Room) Z #[(.ref a1), (.int (0 : Int32)), (.ref b1), (.int (0 : Int32)), (.int (1 : Int32))] h0 (Q123 Z b1 k2 c0 h0 n0) := by
  refine own_enter #[.val (.ref a1), .val (.int (0 : Int32)), .val (.ref b1), .val (.int (0 : Int32)), .val (.int (1 : Int32)), .unset, .unset] (plainFor_of_name pn123) (fun m => ef123 m a1 (0 : Int32) b1 (0 : Int32) (1 : Int32)) ?_
  intro p e s m below meth c s₁ hx hby hml hown hnm hZ hrt hlk X0 e0
  have N0 := Fr.nil n0
  refine own_tp (.int (0 : Int32)) 1 (fun _ q => XS.iconst X0.here hx rfl (hb hby d123_0) q) ?_
  refine own_ls #[.val (.ref a1), .val (.int (0 : Int32)), .val (.ref b1), .val (.int (0 : Int32)), .val (.int (1 : Int32)), .val (.int (0 : Int32)), .unset] 3 (fun _ q => XS.istore X0.here hx rfl (hb hby d123_1) rfl (l' := #[.val (.ref a1), .val (.int (0 : Int32)), .val (.ref b1), .val (.int (0 : Int32)), .val (.int (1 : Int32)), .val (.int (0 : Int32)), .unset]) rfl q) ?_
  refine own_tp (.int (0 : Int32)) 5 (fun _ q => XS.iload X0.here hx rfl (hb hby d123_3) rfl q) ?_
  refine own_tp (.int (1 : Int32)) 7 (fun _ q => XS.iload X0.here hx rfl (hb hby d123_5) rfl q) ?_
  refine own_d2 10 (fun _ q => XS.icmpNo X0.here hx rfl (hb hby d123_7) rfl (tlt (by decide : (0 : Int32) < (1 : Int32))).2.1 q) ?_
  refine own_tp (.ref a1) 11 (fun _ q => XS.aloadN X0.here hx rfl (hb hby d123_10) rfl rfl q) ?_
  refine own_tp (.int (0 : Int32)) 12 (fun _ q => XS.iloadN X0.here hx rfl (hb hby d123_11) rfl q) ?_
  obtain ⟨cl51, Ar51, q51, S51, Nn51, H51, G51⟩ := (id V1)
  have hin51 : ¬ ((0 : Int32) < 0 ∨ cl51.slots.size ≤ ((0 : Int32)).toNatClampNeg) := inb_of S51 ⟨by decide, by decide⟩
  have hat51 : cl51.slots[((0 : Int32)).toNatClampNeg]? = some (.int c0) := H51.at hin51 rfl
  refine own_t2 (.int c0) 13 (fun _ q => X0.caload hx (j := (0 : Int32)) (v := (.int c0)) (by rw [e0]; exact Ar51.1) (State.isArrayOf_alike hZ.alike Ar51.2.1) Ar51.2.2 hin51 hat51 (g := (mkF m 12 #[.val (.ref a1), .val (.int (0 : Int32)), .val (.ref b1), .val (.int (0 : Int32)), .val (.int (1 : Int32)), .val (.int (0 : Int32)), .unset] [(.int (0 : Int32)), (.ref a1)])) rfl rfl (hb hby d123_12) _ q) ?_
  refine own_ls #[.val (.ref a1), .val (.int (0 : Int32)), .val (.ref b1), .val (.int (0 : Int32)), .val (.int (1 : Int32)), .val (.int (0 : Int32)), .val (.int c0)] 15 (fun _ q => XS.istore X0.here hx rfl (hb hby d123_13) rfl (l' := #[.val (.ref a1), .val (.int (0 : Int32)), .val (.ref b1), .val (.int (0 : Int32)), .val (.int (1 : Int32)), .val (.int (0 : Int32)), .val (.int c0)]) rfl q) ?_
  refine own_tp (.int c0) 17 (fun _ q => XS.iload X0.here hx rfl (hb hby d123_15) rfl q) ?_
  refine own_tp (.int (255 : Int32)) 20 (fun _ q => XS.sipush X0.here hx rfl (hb hby d123_17) q) ?_
  by_cases c52 : (255 : Int32) < c0
  ·
    refine own_d2 23 (fun _ q => XS.icmpNo X0.here hx rfl (hb hby d123_20) rfl (tlt c52).2.2.2 q) ?_
    refine own_tp (.int (0 : Int32)) 25 (fun _ q => XS.iload X0.here hx rfl (hb hby d123_23) rfl q) ?_
    exact own_retI X0 hx hrt (hb hby d123_25) hlk (by decide) (by decide) e0 (⟨N0, (Keep.refl h0 [b1]), (Or.inl ⟨rfl, c52⟩)⟩)
  ·
    refine own_d2 26 (fun _ q => XS.icmpYes X0.here hx rfl (pc0 := 20) (pc' := 26) rfl (hb hby d123_20) rfl (flt c52).2.2.2 (by decide) (by decide) q) ?_
    refine own_tp (.ref b1) 27 (fun _ q => XS.aloadN X0.here hx rfl (hb hby d123_26) rfl rfl q) ?_
    refine own_tp (.int (0 : Int32)) 28 (fun _ q => XS.iloadN X0.here hx rfl (hb hby d123_27) rfl q) ?_
    refine own_tp (.int c0) 30 (fun _ q => XS.iload X0.here hx rfl (hb hby d123_28) rfl q) ?_
    refine own_t1 (.int (c0.toInt8.toInt32)) 31 (fun _ q => XS.i2b X0.here hx rfl (hb hby d123_30) rfl q) ?_
    obtain ⟨cl53, Ar53, q53, S53, Nn53, H53, G53⟩ := (id V2)
    have hin53 : ¬ ((0 : Int32) < 0 ∨ cl53.slots.size ≤ ((0 : Int32)).toNatClampNeg) := inb_of S53 ⟨by decide, by decide⟩
    obtain ⟨T54, h54, X54, e54, W54, st54⟩ := stB X0 hx hZ e0 Ar53 (j := (0 : Int32)) hin53 (g := (mkF m 31 #[.val (.ref a1), .val (.int (0 : Int32)), .val (.ref b1), .val (.int (0 : Int32)), .val (.int (1 : Int32)), .val (.int (0 : Int32)), .val (.int c0)] [(.int (c0.toInt8.toInt32)), (.int (0 : Int32)), (.ref b1)])) rfl rfl (hb hby d123_31)
    have V54 := Arv.set Ar53 q53 S53 Nn53 H53 G53 (fits_nar_byte _) W54 0 rfl (Nat.le_of_ble_eq_true rfl)
    have N54 := Fr.snoc X54 N0 g1
    have K54 : Keep h0 h54 [b1] := (Keep.refl h0 [b1]).wr W54 (Or.inl (List.mem_of_getElem? (i := 0) rfl))
    have Z54 : n0 ≤ h54.size := Nat.le_trans Z0 (Nat.le_of_eq W54.size.symm)
    have V54' : Arv Z h54 b1 k2 .byte (1 : Int32) [(.int (c0.toInt8.toInt32))] (.int (0 : Int32)) := by have q := V54; first | (rw [own_nb] at q; exact q) | (rw [own_nb2] at q; exact q)
    refine own_cs [] 32 st54 ?_
    refine own_li #[.val (.ref a1), .val (.int (1 : Int32)), .val (.ref b1), .val (.int (0 : Int32)), .val (.int (1 : Int32)), .val (.int (0 : Int32)), .val (.int c0)] 35 (fun _ q => XS.iinc X54.here hx rfl (hb hby d123_32) rfl (l' := #[.val (.ref a1), .val (.int (1 : Int32)), .val (.ref b1), .val (.int (0 : Int32)), .val (.int (1 : Int32)), .val (.int (0 : Int32)), .val (.int c0)]) rfl q) ?_
    refine own_li #[.val (.ref a1), .val (.int (1 : Int32)), .val (.ref b1), .val (.int (1 : Int32)), .val (.int (1 : Int32)), .val (.int (0 : Int32)), .val (.int c0)] 38 (fun _ q => XS.iinc X54.here hx rfl (hb hby d123_35) rfl (l' := #[.val (.ref a1), .val (.int (1 : Int32)), .val (.ref b1), .val (.int (1 : Int32)), .val (.int (1 : Int32)), .val (.int (0 : Int32)), .val (.int c0)]) rfl q) ?_
    refine own_li #[.val (.ref a1), .val (.int (1 : Int32)), .val (.ref b1), .val (.int (1 : Int32)), .val (.int (1 : Int32)), .val (.int (1 : Int32)), .val (.int c0)] 41 (fun _ q => XS.iinc X54.here hx rfl (hb hby d123_38) rfl (l' := #[.val (.ref a1), .val (.int (1 : Int32)), .val (.ref b1), .val (.int (1 : Int32)), .val (.int (1 : Int32)), .val (.int (1 : Int32)), .val (.int c0)]) rfl q) ?_
    refine own_d0 3 (fun _ q => XS.goto X54.here hx rfl (pc0 := 41) (pc' := 3) rfl (hb hby d123_41) (by decide) (by decide) q) ?_
    refine own_tp (.int (1 : Int32)) 5 (fun _ q => XS.iload X54.here hx rfl (hb hby d123_3) rfl q) ?_
    refine own_tp (.int (1 : Int32)) 7 (fun _ q => XS.iload X54.here hx rfl (hb hby d123_5) rfl q) ?_
    refine own_d2 44 (fun _ q => XS.icmpYes X54.here hx rfl (pc0 := 7) (pc' := 44) rfl (hb hby d123_7) rfl (flt (by decide : ¬ ((1 : Int32) < (1 : Int32)))).2.1 (by decide) (by decide) q) ?_
    refine own_tp (.int (1 : Int32)) 46 (fun _ q => XS.iload X54.here hx rfl (hb hby d123_44) rfl q) ?_
    exact own_retI X54 hx hrt (hb hby d123_46) hlk (by decide) (by decide) e54 (⟨N54, K54, (Or.inr ⟨rfl, c52, V54'⟩)⟩)

def Q124  (h0 : Heap) (n0 : Nat) (v : Option Value) (h : Heap) (L : List Loc) : Prop := v = some (.int (2 : Int32)) ∧ Fr n0 L ∧ h = h0

theorem d124_0 : decode jdk_52_method_3_code 0 = .ok (.iload_n 0, 1) := by decide +kernel
theorem d124_1 : decode jdk_52_method_3_code 1 = .ok (.ifCond .ge 11, 3) := by decide +kernel
theorem d124_12 : decode jdk_52_method_3_code 12 = .ok (.iload_n 0, 1) := by decide +kernel
theorem d124_13 : decode jdk_52_method_3_code 13 = .ok (.ldc 20, 2) := by decide +kernel
theorem d124_15 : decode jdk_52_method_3_code 15 = .ok (.if_icmp .lt 40, 3) := by decide +kernel
theorem d124_55 : decode jdk_52_method_3_code 55 = .ok (.iload_n 0, 1) := by decide +kernel
theorem d124_56 : decode jdk_52_method_3_code 56 = .ok (.iconst 1, 1) := by decide +kernel
theorem d124_57 : decode jdk_52_method_3_code 57 = .ok (.ishl, 1) := by decide +kernel
theorem d124_58 : decode jdk_52_method_3_code 58 = .ok (.ireturn, 1) := by decide +kernel
theorem pn124 : plainName "java/lang/StringUTF16" = true := by first | (simp [plainName, overriddenIn]; done) | decide +kernel
theorem ef124 (m : MethodId) (x0 : Int32) : entryFrame m #[(.int x0)] 1 = mkF m 0 #[.val (.int x0)] [] := by first | (simp [entryFrame, mkF, argsToLocals, Value.category]; done) | rfl
set_option maxRecDepth 65536 in
set_option maxHeartbeats 40000000 in
theorem rm124 (l : Launch) (Z : State) (a0 : Array Value) (hw : ∀ d ∈ tables_1, d.before a0 Z = true) (ws : List Jvm.Cond)  (h0 : Heap) (n0 : Nat)  :
    own_Met l (⟨"java/lang/StringUTF16", "newBytesLength", "(I)I"⟩ : MethodName) jdk_52_method_3_code 1 (some .int) ws ({ frames := 0, cells := 0, slots := 0, locals := 0 } : Room) Z #[(.int (1 : Int32))] h0 (Q124 h0 n0) := by
  refine own_enter #[.val (.int (1 : Int32))] (plainFor_of_name pn124) (fun m => ef124 m (1 : Int32)) ?_
  intro p e s m below meth c s₁ hx hby hml hown hnm hZ hrt hlk X0 e0
  have N0 := Fr.nil n0
  refine own_tp (.int (1 : Int32)) 1 (fun _ q => XS.iloadN X0.here hx rfl (hb hby d124_0) rfl q) ?_
  refine own_d1 12 (fun _ q => XS.ifYes X0.here hx rfl (pc0 := 1) (pc' := 12) rfl (hb hby d124_1) rfl ((if0 _ _).trans (flt (by decide : ¬ ((1 : Int32) < (0 : Int32)))).2.1) (by decide) (by decide) q) ?_
  refine own_tp (.int (1 : Int32)) 13 (fun _ q => XS.iloadN X0.here hx rfl (hb hby d124_12) rfl q) ?_
  refine own_tp (.int (1073741823 : Int32)) 15 (fun _ q => X0.ldcInt hx hown (mvT hZ (hw _ (List.mem_of_getElem? (i := 101) rfl))) (g := (mkF m 13 #[.val (.int (1 : Int32))] [(.int (1 : Int32))])) rfl (hb hby d124_13) _ q) ?_
  refine own_d2 55 (fun _ q => XS.icmpYes X0.here hx rfl (pc0 := 15) (pc' := 55) rfl (hb hby d124_15) rfl (tlt (by decide : (1 : Int32) < (1073741823 : Int32))).1 (by decide) (by decide) q) ?_
  refine own_tp (.int (1 : Int32)) 56 (fun _ q => XS.iloadN X0.here hx rfl (hb hby d124_55) rfl q) ?_
  refine own_tp (.int (1 : Int32)) 57 (fun _ q => XS.iconst X0.here hx rfl (hb hby d124_56) q) ?_
  refine own_t2 (.int (2 : Int32)) 58 (fun _ q => XS.ishl X0.here hx rfl (hb hby d124_57) rfl q) ?_
  exact own_retI X0 hx hrt (hb hby d124_58) hlk (by decide) (by decide) e0 (⟨rfl, N0, rfl⟩)

def Q125 (Z : State) (h0 : Heap) (n0 : Nat) (v : Option Value) (h : Heap) (L : List Loc) : Prop := ∃ (b : Addr) (k : ClassId), v = some (.ref b) ∧ Fr n0 L ∧ Keep h0 h [] ∧ n0 ≤ b ∧ h0.size ≤ b ∧ Arv Z h b k .byte (2 : Int32) [(.int (0 : Int32)), (.int (0 : Int32))] (.int (0 : Int32))

theorem d125_0 : decode jdk_52_method_2_code 0 = .ok (.iload_n 0, 1) := by decide +kernel
theorem d125_1 : decode jdk_52_method_2_code 1 = .ok (.invokestatic 11, 3) := by decide +kernel
theorem d125_4 : decode jdk_52_method_2_code 4 = .ok (.newarray .byte, 2) := by decide +kernel
theorem d125_6 : decode jdk_52_method_2_code 6 = .ok (.areturn, 1) := by decide +kernel
theorem pn125 : plainName "java/lang/StringUTF16" = true := by first | (simp [plainName, overriddenIn]; done) | decide +kernel
theorem pd125_0 : parseMethodDescriptor "(I)I" = some ⟨[.int], some .int⟩ := by decide +kernel
theorem ef125 (m : MethodId) (x0 : Int32) : entryFrame m #[(.int x0)] 1 = mkF m 0 #[.val (.int x0)] [] := by first | (simp [entryFrame, mkF, argsToLocals, Value.category]; done) | rfl
set_option maxRecDepth 65536 in
set_option maxHeartbeats 40000000 in
theorem rm125 (l : Launch) (Z : State) (a0 : Array Value) (hw : ∀ d ∈ tables_1, d.before a0 Z = true) (ws : List Jvm.Cond)  (h0 : Heap) (n0 : Nat) (Z0 : n0 ≤ h0.size) :
    own_Met l (⟨"java/lang/StringUTF16", "newBytesFor", "(I)[B"⟩ : MethodName) jdk_52_method_2_code 1 (some (.array .byte)) ws ({ frames := 1, cells := 1, slots := 2, locals := 12 } : Room) Z #[(.int (1 : Int32))] h0 (Q125 Z h0 n0) := by
  refine own_enter #[.val (.int (1 : Int32))] (plainFor_of_name pn125) (fun m => ef125 m (1 : Int32)) ?_
  intro p e s m below meth c s₁ hx hby hml hown hnm hZ hrt hlk X0 e0
  have N0 := Fr.nil n0
  refine own_tp (.int (1 : Int32)) 1 (fun _ q => XS.iloadN X0.here hx rfl (hb hby d125_0) rfl q) ?_
  obtain ⟨_, _, ⟨T51, L51, k51, n51⟩, -, X51, ⟨Lc51, hQ51, l51, y51, z51⟩, st51⟩ := Jvm.LawKit.callS X0 hx (y := (⟨"java/lang/StringUTF16", "newBytesLength", "(I)I"⟩ : MethodName)) hown (mvT hZ (hw _ (List.mem_of_getElem? (i := 98) rfl))) (mvT hZ (hw _ (List.mem_of_getElem? (i := 99) rfl))) (mvT hZ (hw _ (List.mem_of_getElem? (i := 77) rfl))) (mvT hZ (hw _ (List.mem_of_getElem? (i := 100) rfl))) (by decide) (backOf (W := 0) (rm124 l Z a0 hw [] h0 n0) hZ (hw _ (List.mem_of_getElem? (i := 100) rfl)) (hw _ (List.mem_of_getElem? (i := 77) rfl)) (by decide) (by decide)) (g := (mkF m 1 #[.val (.int (1 : Int32))] [(.int (1 : Int32))])) rfl (by rw [hml]; rfl) (argsL := [(.int (1 : Int32))]) (rest := []) (lenOf pd125_0 rfl) rfl (by show 2 * 0 + _ ≤ _; exact Nat.le_of_eq rfl) (hb hby d125_1) (fun _ _ => ⟨rfl, e0, (by decide : 0 + 0 ≤ _), (by decide : 0 + 0 ≤ _)⟩)
  dsimp only [Pt.U, Pt.locs, Pt.cells, Pt.slots] at X51 l51 y51 z51 st51 hQ51
  subst l51 y51 z51
  obtain ⟨rfl, Nq51, eq51⟩ := hQ51
  have N51 := Fr.app N0 Nq51
  refine own_t1 (.int (2 : Int32)) 4 st51 ?_
  obtain ⟨T52, h52, k52, X52, e52, E52, A52, st52⟩ := newP X51 hx hZ (hw _ (List.mem_of_getElem? (i := 24) rfl)) eq51 (g := (mkF m 4 #[.val (.int (1 : Int32))] [(.int (2 : Int32))])) rfl (hb hby d125_4) rfl (by decide) (cap := 2) (by decide) (by decide) (by decide) (by decide)
  obtain ⟨b52, g52⟩ : ∃ z, z = h0.size := ⟨_, rfl⟩
  rw [← g52] at A52 st52
  have V52 : Arv Z h52 b52 k52 .byte (2 : Int32) [(.int (0 : Int32)), (.int (0 : Int32))] (.int (0 : Int32)) := (Arv.new A52 (by decide)).pad (pad_rep [] (.int (0 : Int32)) 2)
  have ge52 : n0 ≤ b52 := Nat.le_trans Z0 (Nat.le_of_eq g52.symm)
  have sz52 : h0.size ≤ b52 := Nat.le_trans (Keep.refl h0 []).1 (Nat.le_of_eq g52.symm)
  have K52 : Keep h0 h52 [] := (Keep.refl h0 []).ext E52
  have Z52 : n0 ≤ h52.size := Nat.le_trans Z0 E52.1
  refine own_t1 (.ref b52) 6 st52 ?_
  exact own_retR X52 hx hrt (hb hby d125_6) rfl rfl hlk (by decide) (by decide) e52 (⟨b52, _, rfl, N51, K52, ge52, sz52, V52⟩)

def Q126 (Z : State) (b1 : Addr) (k1 : ClassId) (i : Nat) (p1 : Int32) (vs1 : List Value) (h0 : Heap) (n0 : Nat) (v : Option Value) (h : Heap) (L : List Loc) : Prop := v = none ∧ Fr n0 L ∧ Keep h0 h [b1] ∧ Arv Z h b1 k1 .byte (Int32.ofNat vs1.length) ((vs1.set (2 * i) (.int (own_b0 p1))).set (2 * i + 1) (.int (own_b1 p1))) (.int (0 : Int32))

theorem d126_0 : decode jdk_52_method_4_code 0 = .ok (.getstatic 44, 3) := by decide +kernel
theorem d126_3 : decode jdk_52_method_4_code 3 = .ok (.ifCond .ne 25, 3) := by decide +kernel
theorem d126_28 : decode jdk_52_method_4_code 28 = .ok (.iload_n 1, 1) := by decide +kernel
theorem d126_29 : decode jdk_52_method_4_code 29 = .ok (.iconst 1, 1) := by decide +kernel
theorem d126_30 : decode jdk_52_method_4_code 30 = .ok (.ishl, 1) := by decide +kernel
theorem d126_31 : decode jdk_52_method_4_code 31 = .ok (.istore_n 1, 1) := by decide +kernel
theorem d126_32 : decode jdk_52_method_4_code 32 = .ok (.aload_n 0, 1) := by decide +kernel
theorem d126_33 : decode jdk_52_method_4_code 33 = .ok (.iload_n 1, 1) := by decide +kernel
theorem d126_34 : decode jdk_52_method_4_code 34 = .ok (.iinc 1 1, 3) := by decide +kernel
theorem d126_37 : decode jdk_52_method_4_code 37 = .ok (.iload_n 2, 1) := by decide +kernel
theorem d126_38 : decode jdk_52_method_4_code 38 = .ok (.getstatic 59, 3) := by decide +kernel
theorem d126_41 : decode jdk_52_method_4_code 41 = .ok (.ishr, 1) := by decide +kernel
theorem d126_42 : decode jdk_52_method_4_code 42 = .ok (.i2b, 1) := by decide +kernel
theorem d126_43 : decode jdk_52_method_4_code 43 = .ok (.bastore, 1) := by decide +kernel
theorem d126_44 : decode jdk_52_method_4_code 44 = .ok (.aload_n 0, 1) := by decide +kernel
theorem d126_45 : decode jdk_52_method_4_code 45 = .ok (.iload_n 1, 1) := by decide +kernel
theorem d126_46 : decode jdk_52_method_4_code 46 = .ok (.iload_n 2, 1) := by decide +kernel
theorem d126_47 : decode jdk_52_method_4_code 47 = .ok (.getstatic 63, 3) := by decide +kernel
theorem d126_50 : decode jdk_52_method_4_code 50 = .ok (.ishr, 1) := by decide +kernel
theorem d126_51 : decode jdk_52_method_4_code 51 = .ok (.i2b, 1) := by decide +kernel
theorem d126_52 : decode jdk_52_method_4_code 52 = .ok (.bastore, 1) := by decide +kernel
theorem d126_53 : decode jdk_52_method_4_code 53 = .ok (.return_, 1) := by decide +kernel
theorem pn126 : plainName "java/lang/StringUTF16" = true := by first | (simp [plainName, overriddenIn]; done) | decide +kernel
theorem ef126 (m : MethodId) (x0 : Addr) (x1 : Int32) (x2 : Int32) : entryFrame m #[(.ref x0), (.int x1), (.int x2)] 3 = mkF m 0 #[.val (.ref x0), .val (.int x1), .val (.int x2)] [] := by first | (simp [entryFrame, mkF, argsToLocals, Value.category]; done) | rfl
set_option maxRecDepth 65536 in
set_option maxHeartbeats 40000000 in
theorem rm126 (l : Launch) (Z : State) (a0 : Array Value) (hw : ∀ d ∈ tables_1, d.before a0 Z = true) (ws : List Jvm.Cond) (b1 : Addr) (k1 : ClassId) (i : Nat) (p1 : Int32) (vs1 : List Value) (h0 : Heap) (n0 : Nat) (Z0 : n0 ≤ h0.size) (g1 : n0 ≤ b1) (hi : 2 * i + 1 < vs1.length) (hv : vs1.length ≤ 4000) (V1 : Arv Z h0 b1 k1 .byte (Int32.ofNat vs1.length) vs1 (.int (0 : Int32))) (G1 : Int32) (US : own_US Z G1) (O0 : Old Z n0 h0) :
    own_Met l (⟨"java/lang/StringUTF16", "putChar", "([BII)V"⟩ : MethodName) jdk_52_method_4_code 3 none ws ({ frames := 0, cells := 0, slots := 0, locals := 0 } : Room) Z #[(.ref b1), (.int (Int32.ofNat i)), (.int p1)] h0 (Q126 Z b1 k1 i p1 vs1 h0 n0) := by
  refine own_enter #[.val (.ref b1), .val (.int (Int32.ofNat i)), .val (.int p1)] (plainFor_of_name pn126) (fun m => ef126 m b1 (Int32.ofNat i) p1) ?_
  intro p e s m below meth c s₁ hx hby hml hown hnm hZ hrt hlk X0 e0
  have N0 := Fr.nil n0
  obtain ⟨T51, X51, e51, st51⟩ := getS2 X0 hx hZ hown (host := "") (Or.inl (hw _ (List.mem_of_getElem? (i := 105) rfl))) Via.refl e0 (US.2.2.1.ext O0.2) (g := (mkF m 0 #[.val (.ref b1), .val (.int (Int32.ofNat i)), .val (.int p1)] [])) rfl (hb hby d126_0)
  refine own_tp (.int (1 : Int32)) 3 st51 ?_
  refine own_d1 28 (fun _ q => XS.ifYes X51.here hx rfl (pc0 := 3) (pc' := 28) rfl (hb hby d126_3) rfl ((if0 _ _).trans (feq (by decide : ¬ ((1 : Int32) = (0 : Int32)))).2) (by decide) (by decide) q) ?_
  refine own_tp (.int (Int32.ofNat i)) 29 (fun _ q => XS.iloadN X51.here hx rfl (hb hby d126_28) rfl q) ?_
  refine own_tp (.int (1 : Int32)) 30 (fun _ q => XS.iconst X51.here hx rfl (hb hby d126_29) q) ?_
  refine own_t2 (.int ((Int32.ofNat i) <<< ((1 : Int32) &&& 31))) 31 (fun _ q => XS.ishl X51.here hx rfl (hb hby d126_30) rfl q) ?_
  rw [own_shl1 (by omega)]
  refine own_ls #[.val (.ref b1), .val (.int (Int32.ofNat (2 * i))), .val (.int p1)] 32 (fun _ q => XS.istoreN X51.here hx rfl (hb hby d126_31) rfl (l' := #[.val (.ref b1), .val (.int (Int32.ofNat (2 * i))), .val (.int p1)]) rfl q) ?_
  refine own_tp (.ref b1) 33 (fun _ q => XS.aloadN X51.here hx rfl (hb hby d126_32) rfl rfl q) ?_
  refine own_tp (.int (Int32.ofNat (2 * i))) 34 (fun _ q => XS.iloadN X51.here hx rfl (hb hby d126_33) rfl q) ?_
  refine own_li #[.val (.ref b1), .val (.int ((Int32.ofNat (2 * i)) + (1 : Int32))), .val (.int p1)] 37 (fun _ q => XS.iinc X51.here hx rfl (hb hby d126_34) rfl (l' := #[.val (.ref b1), .val (.int ((Int32.ofNat (2 * i)) + (1 : Int32))), .val (.int p1)]) rfl q) ?_
  rw [own_succ]
  refine own_tp (.int p1) 38 (fun _ q => XS.iloadN X51.here hx rfl (hb hby d126_37) rfl q) ?_
  obtain ⟨T52, X52, e52, st52⟩ := getS2 X51 hx hZ hown (host := "") (Or.inl (hw _ (List.mem_of_getElem? (i := 106) rfl))) Via.refl e51 (US.2.2.2.1.ext O0.2) (g := (mkF m 38 #[.val (.ref b1), .val (.int (Int32.ofNat (2 * i + 1))), .val (.int p1)] [(.int p1), (.int (Int32.ofNat (2 * i))), (.ref b1)])) rfl (hb hby d126_38)
  refine own_tp (.int (0 : Int32)) 41 st52 ?_
  refine own_t2 (.int (p1 >>> ((0 : Int32) &&& 31))) 42 (fun _ q => XS.ishr X52.here hx rfl (hb hby d126_41) rfl q) ?_
  refine own_t1 (.int ((p1 >>> ((0 : Int32) &&& 31)).toInt8.toInt32)) 43 (fun _ q => XS.i2b X52.here hx rfl (hb hby d126_42) rfl q) ?_
  obtain ⟨cl53, Ar53, q53, S53, Nn53, H53, G53⟩ := (id V1)
  have hin53 : ¬ ((Int32.ofNat (2 * i)) < 0 ∨ cl53.slots.size ≤ ((Int32.ofNat (2 * i))).toNatClampNeg) := inb_of S53 (own_inb (by omega) (by omega))
  obtain ⟨T54, h54, X54, e54, W54, st54⟩ := stB X52 hx hZ e52 Ar53 (j := (Int32.ofNat (2 * i))) hin53 (g := (mkF m 43 #[.val (.ref b1), .val (.int (Int32.ofNat (2 * i + 1))), .val (.int p1)] [(.int ((p1 >>> ((0 : Int32) &&& 31)).toInt8.toInt32)), (.int (Int32.ofNat (2 * i))), (.ref b1)])) rfl rfl (hb hby d126_43)
  have V54 := Arv.set Ar53 q53 S53 Nn53 H53 G53 (fits_nar_byte _) W54 (2 * i) (own_ofn (by omega)).2 (by omega)
  have N54 := Fr.snoc X54 N0 g1
  have O54 := Old.wr O0 W54 g1
  have K54 : Keep h0 h54 [b1] := (Keep.refl h0 [b1]).wr W54 (Or.inl (List.mem_of_getElem? (i := 0) rfl))
  have Z54 : n0 ≤ h54.size := Nat.le_trans Z0 (Nat.le_of_eq W54.size.symm)
  have V54' : Arv Z h54 b1 k1 .byte (Int32.ofNat vs1.length) (vs1.set (2 * i) (.int ((p1 >>> ((0 : Int32) &&& 31)).toInt8.toInt32))) (.int (0 : Int32)) := by have q := V54; first | (rw [own_nb] at q; exact q) | (rw [own_nb2] at q; exact q)
  refine own_cs [] 44 st54 ?_
  refine own_tp (.ref b1) 45 (fun _ q => XS.aloadN X54.here hx rfl (hb hby d126_44) rfl rfl q) ?_
  refine own_tp (.int (Int32.ofNat (2 * i + 1))) 46 (fun _ q => XS.iloadN X54.here hx rfl (hb hby d126_45) rfl q) ?_
  refine own_tp (.int p1) 47 (fun _ q => XS.iloadN X54.here hx rfl (hb hby d126_46) rfl q) ?_
  obtain ⟨T55, X55, e55, st55⟩ := getS2 X54 hx hZ hown (host := "") (Or.inl (hw _ (List.mem_of_getElem? (i := 107) rfl))) Via.refl e54 (US.2.2.2.2.ext O54.2) (g := (mkF m 47 #[.val (.ref b1), .val (.int (Int32.ofNat (2 * i + 1))), .val (.int p1)] [(.int p1), (.int (Int32.ofNat (2 * i + 1))), (.ref b1)])) rfl (hb hby d126_47)
  refine own_tp (.int (8 : Int32)) 50 st55 ?_
  refine own_t2 (.int (p1 >>> ((8 : Int32) &&& 31))) 51 (fun _ q => XS.ishr X55.here hx rfl (hb hby d126_50) rfl q) ?_
  refine own_t1 (.int ((p1 >>> ((8 : Int32) &&& 31)).toInt8.toInt32)) 52 (fun _ q => XS.i2b X55.here hx rfl (hb hby d126_51) rfl q) ?_
  obtain ⟨cl56, Ar56, q56, S56, Nn56, H56, G56⟩ := (id V54')
  have hin56 : ¬ ((Int32.ofNat (2 * i + 1)) < 0 ∨ cl56.slots.size ≤ ((Int32.ofNat (2 * i + 1))).toNatClampNeg) := inb_of S56 (own_inb (by omega) (by omega))
  obtain ⟨T57, h57, X57, e57, W57, st57⟩ := stB X55 hx hZ e55 Ar56 (j := (Int32.ofNat (2 * i + 1))) hin56 (g := (mkF m 52 #[.val (.ref b1), .val (.int (Int32.ofNat (2 * i + 1))), .val (.int p1)] [(.int ((p1 >>> ((8 : Int32) &&& 31)).toInt8.toInt32)), (.int (Int32.ofNat (2 * i + 1))), (.ref b1)])) rfl rfl (hb hby d126_52)
  have V57 := Arv.set Ar56 q56 S56 Nn56 H56 G56 (fits_nar_byte _) W57 (2 * i + 1) (own_ofn (by omega)).2 (by simp; omega)
  have N57 := Fr.snoc X57 N54 g1
  have O57 := Old.wr O54 W57 g1
  have K57 : Keep h0 h57 [b1] := K54.wr W57 (Or.inl (List.mem_of_getElem? (i := 0) rfl))
  have Z57 : n0 ≤ h57.size := Nat.le_trans Z54 (Nat.le_of_eq W57.size.symm)
  have V57' : Arv Z h57 b1 k1 .byte (Int32.ofNat vs1.length) ((vs1.set (2 * i) (.int ((p1 >>> ((0 : Int32) &&& 31)).toInt8.toInt32))).set (2 * i + 1) (.int ((p1 >>> ((8 : Int32) &&& 31)).toInt8.toInt32))) (.int (0 : Int32)) := by have q := V57; first | (rw [own_nb] at q; exact q) | (rw [own_nb2] at q; exact q)
  refine own_cs [] 53 st57 ?_
  exact own_retV X57 hx hrt (hb hby d126_53) hlk (by decide) (by decide) e57 (⟨rfl, N57, K57, V57'⟩)

def Q127 (Z : State) (c0 : Int32) (h0 : Heap) (n0 : Nat) (v : Option Value) (h : Heap) (L : List Loc) : Prop := ∃ (b : Addr) (k : ClassId), v = some (.ref b) ∧ Fr n0 L ∧ Keep h0 h [] ∧ n0 ≤ b ∧ h0.size ≤ b ∧ Arv Z h b k .byte (2 : Int32) [(.int (own_b0 c0)), (.int (own_b1 c0))] (.int (0 : Int32))

theorem d127_0 : decode jdk_52_method_14_code 0 = .ok (.iload_n 2, 1) := by decide +kernel
theorem d127_1 : decode jdk_52_method_14_code 1 = .ok (.invokestatic 107, 3) := by decide +kernel
theorem d127_4 : decode jdk_52_method_14_code 4 = .ok (.astore_n 3, 1) := by decide +kernel
theorem d127_5 : decode jdk_52_method_14_code 5 = .ok (.iconst 0, 1) := by decide +kernel
theorem d127_6 : decode jdk_52_method_14_code 6 = .ok (.istore 4, 2) := by decide +kernel
theorem d127_8 : decode jdk_52_method_14_code 8 = .ok (.iload 4, 2) := by decide +kernel
theorem d127_10 : decode jdk_52_method_14_code 10 = .ok (.iload_n 2, 1) := by decide +kernel
theorem d127_11 : decode jdk_52_method_14_code 11 = .ok (.if_icmp .ge 21, 3) := by decide +kernel
theorem d127_14 : decode jdk_52_method_14_code 14 = .ok (.aload_n 3, 1) := by decide +kernel
theorem d127_15 : decode jdk_52_method_14_code 15 = .ok (.iload 4, 2) := by decide +kernel
theorem d127_17 : decode jdk_52_method_14_code 17 = .ok (.aload_n 0, 1) := by decide +kernel
theorem d127_18 : decode jdk_52_method_14_code 18 = .ok (.iload_n 1, 1) := by decide +kernel
theorem d127_19 : decode jdk_52_method_14_code 19 = .ok (.caload, 1) := by decide +kernel
theorem d127_20 : decode jdk_52_method_14_code 20 = .ok (.invokestatic 111, 3) := by decide +kernel
theorem d127_23 : decode jdk_52_method_14_code 23 = .ok (.iinc 1 1, 3) := by decide +kernel
theorem d127_26 : decode jdk_52_method_14_code 26 = .ok (.iinc 4 1, 3) := by decide +kernel
theorem d127_29 : decode jdk_52_method_14_code 29 = .ok (.goto (-21), 3) := by decide +kernel
theorem d127_32 : decode jdk_52_method_14_code 32 = .ok (.aload_n 3, 1) := by decide +kernel
theorem d127_33 : decode jdk_52_method_14_code 33 = .ok (.areturn, 1) := by decide +kernel
theorem pn127 : plainName "java/lang/StringUTF16" = true := by first | (simp [plainName, overriddenIn]; done) | decide +kernel
theorem pd127_0 : parseMethodDescriptor "(I)[B" = some ⟨[.int], some (.array .byte)⟩ := by decide +kernel
theorem pd127_1 : parseMethodDescriptor "([BII)V" = some ⟨[(.array .byte), .int, .int], none⟩ := by decide +kernel
theorem ef127 (m : MethodId) (x0 : Addr) (x1 : Int32) (x2 : Int32) : entryFrame m #[(.ref x0), (.int x1), (.int x2)] 5 = mkF m 0 #[.val (.ref x0), .val (.int x1), .val (.int x2), .unset, .unset] [] := by first | (simp [entryFrame, mkF, argsToLocals, Value.category]; done) | rfl
set_option maxRecDepth 65536 in
set_option maxHeartbeats 40000000 in
theorem rm127 (l : Launch) (Z : State) (a0 : Array Value) (hw : ∀ d ∈ tables_1, d.before a0 Z = true) (ws : List Jvm.Cond) (a1 : Addr) (k1 : ClassId) (c0 : Int32) (h0 : Heap) (n0 : Nat) (Z0 : n0 ≤ h0.size) (V1 : Arv Z h0 a1 k1 .char (1 : Int32) [(.int c0)] (.int (0 : Int32))) (G1 : Int32) (US : own_US Z G1) (O0 : Old Z n0 h0) :
    own_Met l (⟨"java/lang/StringUTF16", "toBytes", "([CII)[B"⟩ : MethodName) jdk_52_method_14_code 5 (some (.array .byte)) ws ({ frames := 2, cells := 1, slots := 2, locals := 24 } : Room) Z #[(.ref a1), (.int (0 : Int32)), (.int (1 : Int32))] h0 (Q127 Z c0 h0 n0) := by
  refine own_enter #[.val (.ref a1), .val (.int (0 : Int32)), .val (.int (1 : Int32)), .unset, .unset] (plainFor_of_name pn127) (fun m => ef127 m a1 (0 : Int32) (1 : Int32)) ?_
  intro p e s m below meth c s₁ hx hby hml hown hnm hZ hrt hlk X0 e0
  have N0 := Fr.nil n0
  refine own_tp (.int (1 : Int32)) 1 (fun _ q => XS.iloadN X0.here hx rfl (hb hby d127_0) rfl q) ?_
  obtain ⟨_, _, ⟨T51, L51, k51, n51⟩, -, X51, ⟨Lc51, hQ51, l51, y51, z51⟩, st51⟩ := Jvm.LawKit.callS X0 hx (y := (⟨"java/lang/StringUTF16", "newBytesFor", "(I)[B"⟩ : MethodName)) hown (mvT hZ (hw _ (List.mem_of_getElem? (i := 95) rfl))) (mvT hZ (hw _ (List.mem_of_getElem? (i := 96) rfl))) (mvT hZ (hw _ (List.mem_of_getElem? (i := 77) rfl))) (mvT hZ (hw _ (List.mem_of_getElem? (i := 97) rfl))) (by decide) (backOf (W := 0) (rm125 l Z a0 hw [] h0 n0 Z0) hZ (hw _ (List.mem_of_getElem? (i := 97) rfl)) (hw _ (List.mem_of_getElem? (i := 77) rfl)) (by decide) (by decide)) (g := (mkF m 1 #[.val (.ref a1), .val (.int (0 : Int32)), .val (.int (1 : Int32)), .unset, .unset] [(.int (1 : Int32))])) rfl (by rw [hml]; rfl) (argsL := [(.int (1 : Int32))]) (rest := []) (lenOf pd127_0 rfl) rfl (by show 2 * 0 + _ ≤ _; exact Nat.le_of_eq rfl) (hb hby d127_1) (fun _ _ => ⟨rfl, e0, (by decide : 0 + 1 ≤ _), (by decide : 0 + 2 ≤ _)⟩)
  dsimp only [Pt.U, Pt.locs, Pt.cells, Pt.slots] at X51 l51 y51 z51 st51 hQ51
  subst l51 y51 z51
  obtain ⟨nb51, kn51, rfl, Nq51, Kp51, ge51, sz51, V51⟩ := hQ51
  have ne52 : a1 ≠ nb51 := Nat.ne_of_lt (Nat.lt_of_lt_of_le V1.lt sz51)
  have s0nb51 : h0.size ≤ nb51 := Nat.le_trans (Keep.refl h0 []).1 sz51
  have N51 := Fr.app N0 Nq51
  have O51 := Old.keep O0 Kp51 all0
  have Z51 : n0 ≤ T51.heap.size := Nat.le_trans Z0 Kp51.1
  have K51 : Keep h0 T51.heap [] := Keep.trans (Keep.refl h0 []) Kp51 all0
  refine own_t1 (.ref nb51) 4 st51 ?_
  refine own_ls #[.val (.ref a1), .val (.int (0 : Int32)), .val (.int (1 : Int32)), .val (.ref nb51), .unset] 5 (fun _ q => XS.astoreN X51.here hx rfl (hb hby d127_4) rfl rfl (l' := #[.val (.ref a1), .val (.int (0 : Int32)), .val (.int (1 : Int32)), .val (.ref nb51), .unset]) rfl q) ?_
  refine own_tp (.int (0 : Int32)) 6 (fun _ q => XS.iconst X51.here hx rfl (hb hby d127_5) q) ?_
  refine own_ls #[.val (.ref a1), .val (.int (0 : Int32)), .val (.int (1 : Int32)), .val (.ref nb51), .val (.int (0 : Int32))] 8 (fun _ q => XS.istore X51.here hx rfl (hb hby d127_6) rfl (l' := #[.val (.ref a1), .val (.int (0 : Int32)), .val (.int (1 : Int32)), .val (.ref nb51), .val (.int (0 : Int32))]) rfl q) ?_
  refine own_tp (.int (0 : Int32)) 10 (fun _ q => XS.iload X51.here hx rfl (hb hby d127_8) rfl q) ?_
  refine own_tp (.int (1 : Int32)) 11 (fun _ q => XS.iloadN X51.here hx rfl (hb hby d127_10) rfl q) ?_
  refine own_d2 14 (fun _ q => XS.icmpNo X51.here hx rfl (hb hby d127_11) rfl (tlt (by decide : (0 : Int32) < (1 : Int32))).2.1 q) ?_
  refine own_tp (.ref nb51) 15 (fun _ q => XS.aloadN X51.here hx rfl (hb hby d127_14) rfl rfl q) ?_
  refine own_tp (.int (0 : Int32)) 17 (fun _ q => XS.iload X51.here hx rfl (hb hby d127_15) rfl q) ?_
  refine own_tp (.ref a1) 18 (fun _ q => XS.aloadN X51.here hx rfl (hb hby d127_17) rfl rfl q) ?_
  refine own_tp (.int (0 : Int32)) 19 (fun _ q => XS.iloadN X51.here hx rfl (hb hby d127_18) rfl q) ?_
  have f53 := (V1.keep Kp51 nin0)
  obtain ⟨cl54, Ar54, q54, S54, Nn54, H54, G54⟩ := (id f53)
  have hin54 : ¬ ((0 : Int32) < 0 ∨ cl54.slots.size ≤ ((0 : Int32)).toNatClampNeg) := inb_of S54 ⟨by decide, by decide⟩
  have hat54 : cl54.slots[((0 : Int32)).toNatClampNeg]? = some (.int c0) := H54.at hin54 rfl
  refine own_t2 (.int c0) 20 (fun _ q => X51.caload hx (j := (0 : Int32)) (v := (.int c0)) Ar54.1 (State.isArrayOf_alike hZ.alike Ar54.2.1) Ar54.2.2 hin54 hat54 (g := (mkF m 19 #[.val (.ref a1), .val (.int (0 : Int32)), .val (.int (1 : Int32)), .val (.ref nb51), .val (.int (0 : Int32))] [(.int (0 : Int32)), (.ref a1), (.int (0 : Int32)), (.ref nb51)])) rfl rfl (hb hby d127_19) _ q) ?_
  obtain ⟨_, _, ⟨T55, L55, k55, n55⟩, -, X55, ⟨Lc55, hQ55, l55, y55, z55⟩, st55⟩ := Jvm.LawKit.callS X51 hx (y := (⟨"java/lang/StringUTF16", "putChar", "([BII)V"⟩ : MethodName)) hown (mvT hZ (hw _ (List.mem_of_getElem? (i := 102) rfl))) (mvT hZ (hw _ (List.mem_of_getElem? (i := 103) rfl))) (mvT hZ (hw _ (List.mem_of_getElem? (i := 77) rfl))) (mvT hZ (hw _ (List.mem_of_getElem? (i := 104) rfl))) (by decide) (backOf (W := 0) (rm126 l Z a0 hw [] nb51 kn51 0 c0 [(.int (0 : Int32)), (.int (0 : Int32))] T51.heap n0 Z51 ge51 (by simp) (by simp) V51 G1 US O51) hZ (hw _ (List.mem_of_getElem? (i := 104) rfl)) (hw _ (List.mem_of_getElem? (i := 77) rfl)) (by decide) (by decide)) (g := (mkF m 20 #[.val (.ref a1), .val (.int (0 : Int32)), .val (.int (1 : Int32)), .val (.ref nb51), .val (.int (0 : Int32))] [(.int c0), (.int (0 : Int32)), (.ref nb51)])) rfl (by rw [hml]; rfl) (argsL := [(.ref nb51), (.int (0 : Int32)), (.int c0)]) (rest := []) (lenOf pd127_1 rfl) rfl (by show 2 * 0 + _ ≤ _; exact Nat.le_of_eq rfl) (hb hby d127_20) (fun _ _ => ⟨rfl, rfl, (by decide : 1 + 0 ≤ _), (by decide : 2 + 0 ≤ _)⟩)
  dsimp only [Pt.U, Pt.locs, Pt.cells, Pt.slots] at X55 l55 y55 z55 st55 hQ55
  subst l55 y55 z55
  obtain ⟨rfl, Nq55, Kp55, V55⟩ := hQ55
  have N55 := Fr.app N51 Nq55
  have O55 := Old.keep O51 Kp55 (allS ge51 all0)
  have Z55 : n0 ≤ T55.heap.size := Nat.le_trans Z51 Kp55.1
  have K55 : Keep h0 T55.heap [] := Keep.trans K51 Kp55 (allS (Or.inr s0nb51) all0)
  have V55' : Arv Z T55.heap nb51 kn51 .byte (2 : Int32) [(.int (own_b0 c0)), (.int (own_b1 c0))] (.int (0 : Int32)) := V55
  refine own_cs [] 23 st55 ?_
  refine own_li #[.val (.ref a1), .val (.int (1 : Int32)), .val (.int (1 : Int32)), .val (.ref nb51), .val (.int (0 : Int32))] 26 (fun _ q => XS.iinc X55.here hx rfl (hb hby d127_23) rfl (l' := #[.val (.ref a1), .val (.int (1 : Int32)), .val (.int (1 : Int32)), .val (.ref nb51), .val (.int (0 : Int32))]) rfl q) ?_
  refine own_li #[.val (.ref a1), .val (.int (1 : Int32)), .val (.int (1 : Int32)), .val (.ref nb51), .val (.int (1 : Int32))] 29 (fun _ q => XS.iinc X55.here hx rfl (hb hby d127_26) rfl (l' := #[.val (.ref a1), .val (.int (1 : Int32)), .val (.int (1 : Int32)), .val (.ref nb51), .val (.int (1 : Int32))]) rfl q) ?_
  refine own_d0 8 (fun _ q => XS.goto X55.here hx rfl (pc0 := 29) (pc' := 8) rfl (hb hby d127_29) (by decide) (by decide) q) ?_
  refine own_tp (.int (1 : Int32)) 10 (fun _ q => XS.iload X55.here hx rfl (hb hby d127_8) rfl q) ?_
  refine own_tp (.int (1 : Int32)) 11 (fun _ q => XS.iloadN X55.here hx rfl (hb hby d127_10) rfl q) ?_
  refine own_d2 32 (fun _ q => XS.icmpYes X55.here hx rfl (pc0 := 11) (pc' := 32) rfl (hb hby d127_11) rfl (flt (by decide : ¬ ((1 : Int32) < (1 : Int32)))).2.1 (by decide) (by decide) q) ?_
  refine own_tp (.ref nb51) 33 (fun _ q => XS.aloadN X55.here hx rfl (hb hby d127_32) rfl rfl q) ?_
  exact own_retR X55 hx hrt (hb hby d127_33) rfl rfl hlk (by decide) (by decide) rfl (⟨nb51, _, rfl, N55, K55, ge51, s0nb51, V55'⟩)

def Q128 (Z : State) (c0 : Int32) (h0 : Heap) (n0 : Nat) (v : Option Value) (h : Heap) (L : List Loc) : Prop := ∃ (b : Addr) (k : ClassId), v = some (.ref b) ∧ Fr n0 L ∧ Keep h0 h [] ∧ n0 ≤ b ∧ h0.size ≤ b ∧ (((¬ (255 : Int32) < c0) ∧ Arv Z h b k .byte (1 : Int32) [(.int (own_lo c0))] (.int (0 : Int32))) ∨ ((∃ c ∈ ([c0] : List Int32), (255 : Int32) < c) ∧ Arv Z h b k .byte (2 : Int32) [(.int (own_b0 c0)), (.int (own_b1 c0))] (.int (0 : Int32))))

theorem d128_0 : decode jdk_52_method_16_code 0 = .ok (.iload_n 2, 1) := by decide +kernel
theorem d128_1 : decode jdk_52_method_16_code 1 = .ok (.newarray .byte, 2) := by decide +kernel
theorem d128_3 : decode jdk_52_method_16_code 3 = .ok (.astore_n 3, 1) := by decide +kernel
theorem d128_4 : decode jdk_52_method_16_code 4 = .ok (.aload_n 0, 1) := by decide +kernel
theorem d128_5 : decode jdk_52_method_16_code 5 = .ok (.iload_n 1, 1) := by decide +kernel
theorem d128_6 : decode jdk_52_method_16_code 6 = .ok (.aload_n 3, 1) := by decide +kernel
theorem d128_7 : decode jdk_52_method_16_code 7 = .ok (.iconst 0, 1) := by decide +kernel
theorem d128_8 : decode jdk_52_method_16_code 8 = .ok (.iload_n 2, 1) := by decide +kernel
theorem d128_9 : decode jdk_52_method_16_code 9 = .ok (.invokestatic 115, 3) := by decide +kernel
theorem d128_12 : decode jdk_52_method_16_code 12 = .ok (.istore 4, 2) := by decide +kernel
theorem d128_14 : decode jdk_52_method_16_code 14 = .ok (.iload 4, 2) := by decide +kernel
theorem d128_16 : decode jdk_52_method_16_code 16 = .ok (.iload_n 2, 1) := by decide +kernel
theorem d128_17 : decode jdk_52_method_16_code 17 = .ok (.if_icmp .eq 40, 3) := by decide +kernel
theorem d128_20 : decode jdk_52_method_16_code 20 = .ok (.aload_n 0, 1) := by decide +kernel
theorem d128_21 : decode jdk_52_method_16_code 21 = .ok (.iload_n 1, 1) := by decide +kernel
theorem d128_22 : decode jdk_52_method_16_code 22 = .ok (.iload_n 2, 1) := by decide +kernel
theorem d128_23 : decode jdk_52_method_16_code 23 = .ok (.invokestatic 119, 3) := by decide +kernel
theorem d128_26 : decode jdk_52_method_16_code 26 = .ok (.astore 5, 2) := by decide +kernel
theorem d128_28 : decode jdk_52_method_16_code 28 = .ok (.aload 5, 2) := by decide +kernel
theorem d128_30 : decode jdk_52_method_16_code 30 = .ok (.iload 4, 2) := by decide +kernel
theorem d128_32 : decode jdk_52_method_16_code 32 = .ok (.invokestatic 71, 3) := by decide +kernel
theorem d128_35 : decode jdk_52_method_16_code 35 = .ok (.sipush 255, 3) := by decide +kernel
theorem d128_38 : decode jdk_52_method_16_code 38 = .ok (.if_icmp .gt 16, 3) := by decide +kernel
theorem d128_54 : decode jdk_52_method_16_code 54 = .ok (.aload 5, 2) := by decide +kernel
theorem d128_56 : decode jdk_52_method_16_code 56 = .ok (.areturn, 1) := by decide +kernel
theorem d128_57 : decode jdk_52_method_16_code 57 = .ok (.aload_n 3, 1) := by decide +kernel
theorem d128_58 : decode jdk_52_method_16_code 58 = .ok (.areturn, 1) := by decide +kernel
theorem pn128 : plainName "java/lang/StringUTF16" = true := by first | (simp [plainName, overriddenIn]; done) | decide +kernel
theorem pd128_0 : parseMethodDescriptor "([CI[BII)I" = some ⟨[(.array .char), .int, (.array .byte), .int, .int], some .int⟩ := by decide +kernel
theorem pd128_1 : parseMethodDescriptor "([CII)[B" = some ⟨[(.array .char), .int, .int], some (.array .byte)⟩ := by decide +kernel
theorem pd128_2 : parseMethodDescriptor "([BI)C" = some ⟨[(.array .byte), .int], some .char⟩ := by decide +kernel
theorem ef128 (m : MethodId) (x0 : Addr) (x1 : Int32) (x2 : Int32) : entryFrame m #[(.ref x0), (.int x1), (.int x2)] 6 = mkF m 0 #[.val (.ref x0), .val (.int x1), .val (.int x2), .unset, .unset, .unset] [] := by first | (simp [entryFrame, mkF, argsToLocals, Value.category]; done) | rfl
set_option maxRecDepth 65536 in
set_option maxHeartbeats 40000000 in
theorem rm128 (l : Launch) (Z : State) (a0 : Array Value) (hw : ∀ d ∈ tables_1, d.before a0 Z = true) (ws : List Jvm.Cond) (a1 : Addr) (k1 : ClassId) (c0 : Int32) (h0 : Heap) (n0 : Nat) (Z0 : n0 ≤ h0.size) (hc0 : 0 ≤ c0.toInt ∧ c0.toInt ≤ 65535) (V1 : Arv Z h0 a1 k1 .char (1 : Int32) [(.int c0)] (.int (0 : Int32))) (G1 : Int32) (US : own_US Z G1) (O0 : Old Z n0 h0) :
    own_Met l (⟨"java/lang/StringUTF16", "compress", "([CII)[B"⟩ : MethodName) jdk_52_method_16_code 6 (some (.array .byte)) ws ({ frames := 3, cells := 2, slots := 3, locals := 42 } : Room) Z #[(.ref a1), (.int (0 : Int32)), (.int (1 : Int32))] h0 (Q128 Z c0 h0 n0) := by
  refine own_enter #[.val (.ref a1), .val (.int (0 : Int32)), .val (.int (1 : Int32)), .unset, .unset, .unset] (plainFor_of_name pn128) (fun m => ef128 m a1 (0 : Int32) (1 : Int32)) ?_
  intro p e s m below meth c s₁ hx hby hml hown hnm hZ hrt hlk X0 e0
  have N0 := Fr.nil n0
  refine own_tp (.int (1 : Int32)) 1 (fun _ q => XS.iloadN X0.here hx rfl (hb hby d128_0) rfl q) ?_
  obtain ⟨T51, h51, k51, X51, e51, E51, A51, st51⟩ := newP X0 hx hZ (hw _ (List.mem_of_getElem? (i := 24) rfl)) e0 (g := (mkF m 1 #[.val (.ref a1), .val (.int (0 : Int32)), .val (.int (1 : Int32)), .unset, .unset, .unset] [(.int (1 : Int32))])) rfl (hb hby d128_1) rfl (by decide) (cap := 1) (by decide) (by decide) (by decide) (by decide)
  obtain ⟨b51, g51⟩ : ∃ z, z = h0.size := ⟨_, rfl⟩
  rw [← g51] at A51 st51
  have V51 : Arv Z h51 b51 k51 .byte (1 : Int32) [(.int (0 : Int32))] (.int (0 : Int32)) := (Arv.new A51 (by decide)).pad (pad_rep [] (.int (0 : Int32)) 1)
  have ge51 : n0 ≤ b51 := Nat.le_trans Z0 (Nat.le_of_eq g51.symm)
  have sz51 : h0.size ≤ b51 := Nat.le_trans (Keep.refl h0 []).1 (Nat.le_of_eq g51.symm)
  have ne52 : a1 ≠ b51 := Nat.ne_of_lt (Nat.lt_of_lt_of_le V1.lt (Nat.le_of_eq g51.symm))
  have O51 := Old.ext O0 E51
  have K51 : Keep h0 h51 [] := (Keep.refl h0 []).ext E51
  have Z51 : n0 ≤ h51.size := Nat.le_trans Z0 E51.1
  refine own_t1 (.ref b51) 3 st51 ?_
  refine own_ls #[.val (.ref a1), .val (.int (0 : Int32)), .val (.int (1 : Int32)), .val (.ref b51), .unset, .unset] 4 (fun _ q => XS.astoreN X51.here hx rfl (hb hby d128_3) rfl rfl (l' := #[.val (.ref a1), .val (.int (0 : Int32)), .val (.int (1 : Int32)), .val (.ref b51), .unset, .unset]) rfl q) ?_
  refine own_tp (.ref a1) 5 (fun _ q => XS.aloadN X51.here hx rfl (hb hby d128_4) rfl rfl q) ?_
  refine own_tp (.int (0 : Int32)) 6 (fun _ q => XS.iloadN X51.here hx rfl (hb hby d128_5) rfl q) ?_
  refine own_tp (.ref b51) 7 (fun _ q => XS.aloadN X51.here hx rfl (hb hby d128_6) rfl rfl q) ?_
  refine own_tp (.int (0 : Int32)) 8 (fun _ q => XS.iconst X51.here hx rfl (hb hby d128_7) q) ?_
  refine own_tp (.int (1 : Int32)) 9 (fun _ q => XS.iloadN X51.here hx rfl (hb hby d128_8) rfl q) ?_
  have f53 := (V1.ext E51)
  obtain ⟨_, _, ⟨T54, L54, k54, n54⟩, -, X54, ⟨Lc54, hQ54, l54, y54, z54⟩, st54⟩ := Jvm.LawKit.callS X51 hx (y := (⟨"java/lang/StringUTF16", "compress", "([CI[BII)I"⟩ : MethodName)) hown (mvT hZ (hw _ (List.mem_of_getElem? (i := 79) rfl))) (mvT hZ (hw _ (List.mem_of_getElem? (i := 80) rfl))) (mvT hZ (hw _ (List.mem_of_getElem? (i := 77) rfl))) (mvT hZ (hw _ (List.mem_of_getElem? (i := 81) rfl))) (by decide) (backOf (W := 0) (rm123 l Z a0 hw [] a1 b51 k1 k51 c0 h51 n0 Z51 ge51 ne52 f53 V51) hZ (hw _ (List.mem_of_getElem? (i := 81) rfl)) (hw _ (List.mem_of_getElem? (i := 77) rfl)) (by decide) (by decide)) (g := (mkF m 9 #[.val (.ref a1), .val (.int (0 : Int32)), .val (.int (1 : Int32)), .val (.ref b51), .unset, .unset] [(.int (1 : Int32)), (.int (0 : Int32)), (.ref b51), (.int (0 : Int32)), (.ref a1)])) rfl (by rw [hml]; rfl) (argsL := [(.ref a1), (.int (0 : Int32)), (.ref b51), (.int (0 : Int32)), (.int (1 : Int32))]) (rest := []) (lenOf pd128_0 rfl) rfl (by show 2 * 0 + _ ≤ _; exact Nat.le_of_eq rfl) (hb hby d128_9) (fun _ _ => ⟨rfl, e51, (by decide : 1 + 0 ≤ _), (by decide : 1 + 0 ≤ _)⟩)
  dsimp only [Pt.U, Pt.locs, Pt.cells, Pt.slots] at X54 l54 y54 z54 st54 hQ54
  subst l54 y54 z54
  obtain ⟨Nq54, Kp54, hD54⟩ := hQ54
  have N54 := Fr.app N0 Nq54
  have O54 := Old.keep O51 Kp54 (allS ge51 all0)
  have Z54 : n0 ≤ T54.heap.size := Nat.le_trans Z51 Kp54.1
  have K54 : Keep h0 T54.heap [] := Keep.trans K51 Kp54 (allS (Or.inr sz51) all0)
  rcases hD54 with ⟨rfl, hxw⟩ | ⟨rfl, hxw, VL⟩
  ·
    refine own_cs [(.int (0 : Int32))] 12 st54 ?_
    refine own_ls #[.val (.ref a1), .val (.int (0 : Int32)), .val (.int (1 : Int32)), .val (.ref b51), .val (.int (0 : Int32)), .unset] 14 (fun _ q => XS.istore X54.here hx rfl (hb hby d128_12) rfl (l' := #[.val (.ref a1), .val (.int (0 : Int32)), .val (.int (1 : Int32)), .val (.ref b51), .val (.int (0 : Int32)), .unset]) rfl q) ?_
    refine own_tp (.int (0 : Int32)) 16 (fun _ q => XS.iload X54.here hx rfl (hb hby d128_14) rfl q) ?_
    refine own_tp (.int (1 : Int32)) 17 (fun _ q => XS.iloadN X54.here hx rfl (hb hby d128_16) rfl q) ?_
    refine own_d2 20 (fun _ q => XS.icmpNo X54.here hx rfl (hb hby d128_17) rfl (feq (by decide : ¬ ((0 : Int32) = (1 : Int32)))).1 q) ?_
    refine own_tp (.ref a1) 21 (fun _ q => XS.aloadN X54.here hx rfl (hb hby d128_20) rfl rfl q) ?_
    refine own_tp (.int (0 : Int32)) 22 (fun _ q => XS.iloadN X54.here hx rfl (hb hby d128_21) rfl q) ?_
    refine own_tp (.int (1 : Int32)) 23 (fun _ q => XS.iloadN X54.here hx rfl (hb hby d128_22) rfl q) ?_
    have f55 := (f53.keep Kp54 (ninS ne52 nin0))
    obtain ⟨_, _, ⟨T56, L56, k56, n56⟩, -, X56, ⟨Lc56, hQ56, l56, y56, z56⟩, st56⟩ := Jvm.LawKit.callS X54 hx (y := (⟨"java/lang/StringUTF16", "toBytes", "([CII)[B"⟩ : MethodName)) hown (mvT hZ (hw _ (List.mem_of_getElem? (i := 92) rfl))) (mvT hZ (hw _ (List.mem_of_getElem? (i := 93) rfl))) (mvT hZ (hw _ (List.mem_of_getElem? (i := 77) rfl))) (mvT hZ (hw _ (List.mem_of_getElem? (i := 94) rfl))) (by decide) (backOf (W := 0) (rm127 l Z a0 hw [] a1 k1 c0 T54.heap n0 Z54 f55 G1 US O54) hZ (hw _ (List.mem_of_getElem? (i := 94) rfl)) (hw _ (List.mem_of_getElem? (i := 77) rfl)) (by decide) (by decide)) (g := (mkF m 23 #[.val (.ref a1), .val (.int (0 : Int32)), .val (.int (1 : Int32)), .val (.ref b51), .val (.int (0 : Int32)), .unset] [(.int (1 : Int32)), (.int (0 : Int32)), (.ref a1)])) rfl (by rw [hml]; rfl) (argsL := [(.ref a1), (.int (0 : Int32)), (.int (1 : Int32))]) (rest := []) (lenOf pd128_1 rfl) rfl (by show 2 * 0 + _ ≤ _; exact Nat.le_of_eq rfl) (hb hby d128_23) (fun _ _ => ⟨rfl, rfl, (by decide : 1 + 1 ≤ _), (by decide : 1 + 2 ≤ _)⟩)
    dsimp only [Pt.U, Pt.locs, Pt.cells, Pt.slots] at X56 l56 y56 z56 st56 hQ56
    subst l56 y56 z56
    obtain ⟨ub56, ku56, rfl, Nq56, Kp56, ge56, sz56, V56⟩ := hQ56
    have ne57 : a1 ≠ ub56 := Nat.ne_of_lt (Nat.lt_of_lt_of_le f55.lt sz56)
    have s0ub56 : h0.size ≤ ub56 := Nat.le_trans K54.1 sz56
    have N56 := Fr.app N54 Nq56
    have O56 := Old.keep O54 Kp56 all0
    have Z56 : n0 ≤ T56.heap.size := Nat.le_trans Z54 Kp56.1
    have K56 : Keep h0 T56.heap [] := Keep.trans K54 Kp56 all0
    refine own_cs [(.ref ub56)] 26 st56 ?_
    refine own_ls #[.val (.ref a1), .val (.int (0 : Int32)), .val (.int (1 : Int32)), .val (.ref b51), .val (.int (0 : Int32)), .val (.ref ub56)] 28 (fun _ q => XS.astore X56.here hx rfl (hb hby d128_26) rfl rfl (l' := #[.val (.ref a1), .val (.int (0 : Int32)), .val (.int (1 : Int32)), .val (.ref b51), .val (.int (0 : Int32)), .val (.ref ub56)]) rfl q) ?_
    refine own_tp (.ref ub56) 30 (fun _ q => XS.aload X56.here hx rfl (hb hby d128_28) rfl rfl q) ?_
    refine own_tp (.int (0 : Int32)) 32 (fun _ q => XS.iload X56.here hx rfl (hb hby d128_30) rfl q) ?_
    obtain ⟨_, _, ⟨T58, L58, k58, n58⟩, -, X58, ⟨Lc58, hQ58, l58, y58, z58⟩, st58⟩ := Jvm.LawKit.callS X56 hx (y := (⟨"java/lang/StringUTF16", "getChar", "([BI)C"⟩ : MethodName)) hown (mvT hZ (hw _ (List.mem_of_getElem? (i := 108) rfl))) (mvT hZ (hw _ (List.mem_of_getElem? (i := 109) rfl))) (mvT hZ (hw _ (List.mem_of_getElem? (i := 77) rfl))) (mvT hZ (hw _ (List.mem_of_getElem? (i := 110) rfl))) (by decide) (backOf (W := 0) (rm109 l Z a0 hw [] ub56 ku56 0 [c0] T56.heap n0 (by simp) (by simp) hc0 V56 G1 US O56) hZ (hw _ (List.mem_of_getElem? (i := 110) rfl)) (hw _ (List.mem_of_getElem? (i := 77) rfl)) (by decide) (by decide)) (g := (mkF m 32 #[.val (.ref a1), .val (.int (0 : Int32)), .val (.int (1 : Int32)), .val (.ref b51), .val (.int (0 : Int32)), .val (.ref ub56)] [(.int (0 : Int32)), (.ref ub56)])) rfl (by rw [hml]; rfl) (argsL := [(.ref ub56), (.int (0 : Int32))]) (rest := []) (lenOf pd128_2 rfl) rfl (by show 2 * 0 + _ ≤ _; exact Nat.le_of_eq rfl) (hb hby d128_32) (fun _ _ => ⟨rfl, rfl, (by decide : 2 + 0 ≤ _), (by decide : 3 + 0 ≤ _)⟩)
    dsimp only [Pt.U, Pt.locs, Pt.cells, Pt.slots] at X58 l58 y58 z58 st58 hQ58
    subst l58 y58 z58
    obtain ⟨rfl, Nq58, eq58⟩ := hQ58
    have N58 := Fr.app N56 Nq58
    refine own_t2 (.int c0) 35 st58 ?_
    refine own_tp (.int (255 : Int32)) 38 (fun _ q => XS.sipush X58.here hx rfl (hb hby d128_35) q) ?_
    refine own_d2 54 (fun _ q => XS.icmpYes X58.here hx rfl (pc0 := 38) (pc' := 54) rfl (hb hby d128_38) rfl (tlt hxw).2.2.1 (by decide) (by decide) q) ?_
    refine own_tp (.ref ub56) 56 (fun _ q => XS.aload X58.here hx rfl (hb hby d128_54) rfl rfl q) ?_
    exact own_retR X58 hx hrt (hb hby d128_56) rfl rfl hlk (by decide) (by decide) eq58 (⟨ub56, _, rfl, N58, K56, ge56, s0ub56, Or.inr ⟨⟨c0, by simp, hxw⟩, V56⟩⟩)
  ·
    refine own_cs [(.int (1 : Int32))] 12 st54 ?_
    refine own_ls #[.val (.ref a1), .val (.int (0 : Int32)), .val (.int (1 : Int32)), .val (.ref b51), .val (.int (1 : Int32)), .unset] 14 (fun _ q => XS.istore X54.here hx rfl (hb hby d128_12) rfl (l' := #[.val (.ref a1), .val (.int (0 : Int32)), .val (.int (1 : Int32)), .val (.ref b51), .val (.int (1 : Int32)), .unset]) rfl q) ?_
    refine own_tp (.int (1 : Int32)) 16 (fun _ q => XS.iload X54.here hx rfl (hb hby d128_14) rfl q) ?_
    refine own_tp (.int (1 : Int32)) 17 (fun _ q => XS.iloadN X54.here hx rfl (hb hby d128_16) rfl q) ?_
    refine own_d2 57 (fun _ q => XS.icmpYes X54.here hx rfl (pc0 := 17) (pc' := 57) rfl (hb hby d128_17) rfl (teq (by decide : (1 : Int32) = (1 : Int32))).1 (by decide) (by decide) q) ?_
    refine own_tp (.ref b51) 58 (fun _ q => XS.aloadN X54.here hx rfl (hb hby d128_57) rfl rfl q) ?_
    exact own_retR X54 hx hrt (hb hby d128_58) rfl rfl hlk (by decide) (by decide) rfl (⟨b51, _, rfl, N54, K54, ge51, sz51, Or.inl ⟨hxw, VL⟩⟩)

def Q129  (h0 : Heap) (n0 : Nat) (v : Option Value) (h : Heap) (L : List Loc) : Prop := v = some (.int (0 : Int32)) ∧ Fr n0 L ∧ h = h0

theorem d129_0 : decode jdk_52_method_15_code 0 = .ok (.iload_n 1, 1) := by decide +kernel
theorem d129_1 : decode jdk_52_method_15_code 1 = .ok (.aload_n 0, 1) := by decide +kernel
theorem d129_2 : decode jdk_52_method_15_code 2 = .ok (.arraylength, 1) := by decide +kernel
theorem d129_3 : decode jdk_52_method_15_code 3 = .ok (.isub, 1) := by decide +kernel
theorem d129_4 : decode jdk_52_method_15_code 4 = .ok (.bipush 31, 2) := by decide +kernel
theorem d129_6 : decode jdk_52_method_15_code 6 = .ok (.iushr, 1) := by decide +kernel
theorem d129_7 : decode jdk_52_method_15_code 7 = .ok (.i2b, 1) := by decide +kernel
theorem d129_8 : decode jdk_52_method_15_code 8 = .ok (.ireturn, 1) := by decide +kernel
theorem pn129 : plainName "java/lang/StringUTF16" = true := by first | (simp [plainName, overriddenIn]; done) | decide +kernel
theorem ef129 (m : MethodId) (x0 : Addr) (x1 : Int32) : entryFrame m #[(.ref x0), (.int x1)] 2 = mkF m 0 #[.val (.ref x0), .val (.int x1)] [] := by first | (simp [entryFrame, mkF, argsToLocals, Value.category]; done) | rfl
set_option maxRecDepth 65536 in
set_option maxHeartbeats 40000000 in
theorem rm129 (l : Launch) (Z : State) (a0 : Array Value) (hw : ∀ d ∈ tables_1, d.before a0 Z = true) (ws : List Jvm.Cond) (b1 : Addr) (k1 : ClassId) (vs1 : List Value) (h0 : Heap) (n0 : Nat) (V1 : Arv Z h0 b1 k1 .byte (1 : Int32) vs1 (.int (0 : Int32))) :
    own_Met l (⟨"java/lang/StringUTF16", "coderFromArrayLen", "([BI)B"⟩ : MethodName) jdk_52_method_15_code 2 (some .byte) ws ({ frames := 0, cells := 0, slots := 0, locals := 0 } : Room) Z #[(.ref b1), (.int (1 : Int32))] h0 (Q129 h0 n0) := by
  refine own_enter #[.val (.ref b1), .val (.int (1 : Int32))] (plainFor_of_name pn129) (fun m => ef129 m b1 (1 : Int32)) ?_
  intro p e s m below meth c s₁ hx hby hml hown hnm hZ hrt hlk X0 e0
  have N0 := Fr.nil n0
  refine own_tp (.int (1 : Int32)) 1 (fun _ q => XS.iloadN X0.here hx rfl (hb hby d129_0) rfl q) ?_
  refine own_tp (.ref b1) 2 (fun _ q => XS.aloadN X0.here hx rfl (hb hby d129_1) rfl rfl q) ?_
  obtain ⟨cl51, Ar51, -, Sz51, Nn51, -, -⟩ := (id V1)
  refine own_t1 (.int (1 : Int32)) 3 (fun t q => X0.arraylength hx (by rw [e0]; exact Ar51.1) (State.isArrayOf_alike hZ.alike Ar51.2.1) (g := (mkF m 2 #[.val (.ref b1), .val (.int (1 : Int32))] [(.ref b1), (.int (1 : Int32))])) rfl rfl (hb hby d129_2) _ (by rw [len_of Sz51 Nn51]; exact q)) ?_
  refine own_t2 (.int (0 : Int32)) 4 (fun _ q => XS.isub X0.here hx rfl (hb hby d129_3) rfl q) ?_
  refine own_tp (.int (31 : Int32)) 6 (fun _ q => XS.bipush X0.here hx rfl (hb hby d129_4) q) ?_
  refine own_d1 7 (fun _ q => XS.iushr X0.here hx rfl (hb hby d129_6) rfl q) ?_
  refine own_d0 8 (fun _ q => XS.i2b X0.here hx rfl (hb hby d129_7) rfl q) ?_
  exact own_retN (t := .byte) X0 hx hrt (hb hby d129_8) (by simp) hlk (by decide) (by decide) e0 (⟨rfl, N0, rfl⟩)

def Q130  (h0 : Heap) (n0 : Nat) (v : Option Value) (h : Heap) (L : List Loc) : Prop := v = some (.int (1 : Int32)) ∧ Fr n0 L ∧ h = h0

theorem d130_0 : decode jdk_52_method_15_code 0 = .ok (.iload_n 1, 1) := by decide +kernel
theorem d130_1 : decode jdk_52_method_15_code 1 = .ok (.aload_n 0, 1) := by decide +kernel
theorem d130_2 : decode jdk_52_method_15_code 2 = .ok (.arraylength, 1) := by decide +kernel
theorem d130_3 : decode jdk_52_method_15_code 3 = .ok (.isub, 1) := by decide +kernel
theorem d130_4 : decode jdk_52_method_15_code 4 = .ok (.bipush 31, 2) := by decide +kernel
theorem d130_6 : decode jdk_52_method_15_code 6 = .ok (.iushr, 1) := by decide +kernel
theorem d130_7 : decode jdk_52_method_15_code 7 = .ok (.i2b, 1) := by decide +kernel
theorem d130_8 : decode jdk_52_method_15_code 8 = .ok (.ireturn, 1) := by decide +kernel
theorem pn130 : plainName "java/lang/StringUTF16" = true := by first | (simp [plainName, overriddenIn]; done) | decide +kernel
theorem ef130 (m : MethodId) (x0 : Addr) (x1 : Int32) : entryFrame m #[(.ref x0), (.int x1)] 2 = mkF m 0 #[.val (.ref x0), .val (.int x1)] [] := by first | (simp [entryFrame, mkF, argsToLocals, Value.category]; done) | rfl
set_option maxRecDepth 65536 in
set_option maxHeartbeats 40000000 in
theorem rm130 (l : Launch) (Z : State) (a0 : Array Value) (hw : ∀ d ∈ tables_1, d.before a0 Z = true) (ws : List Jvm.Cond) (b1 : Addr) (k1 : ClassId) (vs1 : List Value) (h0 : Heap) (n0 : Nat) (V1 : Arv Z h0 b1 k1 .byte (2 : Int32) vs1 (.int (0 : Int32))) :
    own_Met l (⟨"java/lang/StringUTF16", "coderFromArrayLen", "([BI)B"⟩ : MethodName) jdk_52_method_15_code 2 (some .byte) ws ({ frames := 0, cells := 0, slots := 0, locals := 0 } : Room) Z #[(.ref b1), (.int (1 : Int32))] h0 (Q130 h0 n0) := by
  refine own_enter #[.val (.ref b1), .val (.int (1 : Int32))] (plainFor_of_name pn130) (fun m => ef130 m b1 (1 : Int32)) ?_
  intro p e s m below meth c s₁ hx hby hml hown hnm hZ hrt hlk X0 e0
  have N0 := Fr.nil n0
  refine own_tp (.int (1 : Int32)) 1 (fun _ q => XS.iloadN X0.here hx rfl (hb hby d130_0) rfl q) ?_
  refine own_tp (.ref b1) 2 (fun _ q => XS.aloadN X0.here hx rfl (hb hby d130_1) rfl rfl q) ?_
  obtain ⟨cl51, Ar51, -, Sz51, Nn51, -, -⟩ := (id V1)
  refine own_t1 (.int (2 : Int32)) 3 (fun t q => X0.arraylength hx (by rw [e0]; exact Ar51.1) (State.isArrayOf_alike hZ.alike Ar51.2.1) (g := (mkF m 2 #[.val (.ref b1), .val (.int (1 : Int32))] [(.ref b1), (.int (1 : Int32))])) rfl rfl (hb hby d130_2) _ (by rw [len_of Sz51 Nn51]; exact q)) ?_
  refine own_t2 (.int (-1 : Int32)) 4 (fun _ q => XS.isub X0.here hx rfl (hb hby d130_3) rfl q) ?_
  refine own_tp (.int (31 : Int32)) 6 (fun _ q => XS.bipush X0.here hx rfl (hb hby d130_4) q) ?_
  refine own_t2 (.int (1 : Int32)) 7 (fun _ q => XS.iushr X0.here hx rfl (hb hby d130_6) rfl q) ?_
  refine own_d0 8 (fun _ q => XS.i2b X0.here hx rfl (hb hby d130_7) rfl q) ?_
  exact own_retN (t := .byte) X0 hx hrt (hb hby d130_8) (by simp) hlk (by decide) (by decide) e0 (⟨rfl, N0, rfl⟩)

theorem own_all1 {c0 : Int32} (h : ¬ (255 : Int32) < c0) : ∀ c ∈ ([c0] : List Int32), ¬ (255 : Int32) < c := by
  intro c hc
  simp only [List.mem_cons, List.not_mem_nil, or_false] at hc
  rcases hc with rfl
  · exact h

def Q131 (Z : State) (x1 : Addr) (c0 : Int32) (h0 : Heap) (n0 : Nat) (v : Option Value) (h : Heap) (L : List Loc) : Prop := v = none ∧ Fr n0 L ∧ Keep h0 h [x1] ∧ ∃ (t : Addr) (kb : ClassId) (cd N : Int32) (vs : List Value), n0 ≤ t ∧ h0.size ≤ t ∧ Exa Z h x1 "java/lang/String" ∧ Fld Z h x1 "java/lang/String" "value" "[B" (.ref t) ∧ Fld Z h x1 "java/lang/String" "coder" "B" (.int cd) ∧ Arv Z h t kb .byte N vs (.int (0 : Int32)) ∧ own_Cod ([c0] : List Int32) cd N vs

theorem d131_0 : decode jdk_42_method_149_code 0 = .ok (.aload_n 0, 1) := by decide +kernel
theorem d131_1 : decode jdk_42_method_149_code 1 = .ok (.invokespecial 1, 3) := by decide +kernel
theorem d131_4 : decode jdk_42_method_149_code 4 = .ok (.iload_n 3, 1) := by decide +kernel
theorem d131_5 : decode jdk_42_method_149_code 5 = .ok (.ifCond .ne 22, 3) := by decide +kernel
theorem d131_27 : decode jdk_42_method_149_code 27 = .ok (.getstatic 38, 3) := by decide +kernel
theorem d131_30 : decode jdk_42_method_149_code 30 = .ok (.ifCond .eq 28, 3) := by decide +kernel
theorem d131_33 : decode jdk_42_method_149_code 33 = .ok (.aload_n 1, 1) := by decide +kernel
theorem d131_34 : decode jdk_42_method_149_code 34 = .ok (.iload_n 2, 1) := by decide +kernel
theorem d131_35 : decode jdk_42_method_149_code 35 = .ok (.iload_n 3, 1) := by decide +kernel
theorem d131_36 : decode jdk_42_method_149_code 36 = .ok (.invokestatic 177, 3) := by decide +kernel
theorem d131_39 : decode jdk_42_method_149_code 39 = .ok (.astore 5, 2) := by decide +kernel
theorem d131_41 : decode jdk_42_method_149_code 41 = .ok (.aload_n 0, 1) := by decide +kernel
theorem d131_42 : decode jdk_42_method_149_code 42 = .ok (.aload 5, 2) := by decide +kernel
theorem d131_44 : decode jdk_42_method_149_code 44 = .ok (.iload_n 3, 1) := by decide +kernel
theorem d131_45 : decode jdk_42_method_149_code 45 = .ok (.invokestatic 47, 3) := by decide +kernel
theorem d131_48 : decode jdk_42_method_149_code 48 = .ok (.putfield 15, 3) := by decide +kernel
theorem d131_51 : decode jdk_42_method_149_code 51 = .ok (.aload_n 0, 1) := by decide +kernel
theorem d131_52 : decode jdk_42_method_149_code 52 = .ok (.aload 5, 2) := by decide +kernel
theorem d131_54 : decode jdk_42_method_149_code 54 = .ok (.putfield 9, 3) := by decide +kernel
theorem d131_57 : decode jdk_42_method_149_code 57 = .ok (.return_, 1) := by decide +kernel
theorem pn131 : plainName "java/lang/String" = true := by first | (simp [plainName, overriddenIn]; done) | decide +kernel
theorem pd131_0 : parseMethodDescriptor "([CII)[B" = some ⟨[(.array .char), .int, .int], some (.array .byte)⟩ := by decide +kernel
theorem pd131_1 : parseMethodDescriptor "([BI)B" = some ⟨[(.array .byte), .int], some .byte⟩ := by decide +kernel
theorem ef131 (m : MethodId) (x0 : Addr) (x1 : Addr) (x2 : Int32) (x3 : Int32) : entryFrame m #[(.ref x0), (.ref x1), (.int x2), (.int x3), .null] 6 = mkF m 0 #[.val (.ref x0), .val (.ref x1), .val (.int x2), .val (.int x3), .val .null, .unset] [] := by first | (simp [entryFrame, mkF, argsToLocals, Value.category]; done) | rfl
set_option maxRecDepth 65536 in
set_option maxHeartbeats 40000000 in
theorem rm131 (l : Launch) (Z : State) (a0 : Array Value) (hw : ∀ d ∈ tables_1, d.before a0 Z = true) (ws : List Jvm.Cond) (x1 a1 : Addr) (k1 : ClassId) (c0 : Int32) (u1 u2 : Value) (h0 : Heap) (n0 : Nat) (Z0 : n0 ≤ h0.size) (g1 : n0 ≤ x1) (hxa : x1 ≠ a1) (hc0 : 0 ≤ c0.toInt ∧ c0.toInt ≤ 65535) (V1 : Arv Z h0 a1 k1 .char (1 : Int32) [(.int c0)] (.int (0 : Int32))) (E1 : Exa Z h0 x1 "java/lang/String") (F1 : Fld Z h0 x1 "java/lang/String" "value" "[B" u1) (F2 : Fld Z h0 x1 "java/lang/String" "coder" "B" u2) (G1 : Int32) (US : own_US Z G1) (O0 : Old Z n0 h0) :
    own_Met l (⟨"java/lang/String", "<init>", "([CIILjava/lang/Void;)V"⟩ : MethodName) jdk_42_method_149_code 6 none ws ({ frames := 4, cells := 2, slots := 3, locals := 61 } : Room) Z #[(.ref x1), (.ref a1), (.int (0 : Int32)), (.int (1 : Int32)), .null] h0 (Q131 Z x1 c0 h0 n0) := by
  refine own_enter #[.val (.ref x1), .val (.ref a1), .val (.int (0 : Int32)), .val (.int (1 : Int32)), .val .null, .unset] (plainFor_of_name pn131) (fun m => ef131 m x1 a1 (0 : Int32) (1 : Int32)) ?_
  intro p e s m below meth c s₁ hx hby hml hown hnm hZ hrt hlk X0 e0
  have N0 := Fr.nil n0
  refine own_tp (.ref x1) 1 (fun _ q => XS.aloadN X0.here hx rfl (hb hby d131_0) rfl rfl q) ?_
  obtain ⟨T51, X51, e51, st51⟩ := initO X0 hx hZ hown (hw _ (List.mem_of_getElem? (i := 20) rfl)) (hw _ (List.mem_of_getElem? (i := 21) rfl)) (hw _ (List.mem_of_getElem? (i := 22) rfl)) e0 (g := (mkF m 1 #[.val (.ref x1), .val (.ref a1), .val (.int (0 : Int32)), .val (.int (1 : Int32)), .val .null, .unset] [(.ref x1)])) rfl (by rw [hml]; rfl) rfl (hb hby d131_1) (by decide) (W := 0) (by show 2 * 0 + _ ≤ _; exact Nat.le_of_eq rfl) (by decide)
  refine own_d1 4 st51 ?_
  refine own_tp (.int (1 : Int32)) 5 (fun _ q => XS.iloadN X51.here hx rfl (hb hby d131_4) rfl q) ?_
  refine own_d1 27 (fun _ q => XS.ifYes X51.here hx rfl (pc0 := 5) (pc' := 27) rfl (hb hby d131_5) rfl ((if0 _ _).trans (feq (by decide : ¬ ((1 : Int32) = (0 : Int32)))).2) (by decide) (by decide) q) ?_
  obtain ⟨T52, X52, e52, st52⟩ := getS2 X51 hx hZ hown (host := "") (Or.inl (hw _ (List.mem_of_getElem? (i := 50) rfl))) Via.refl e51 (US.2.1.ext O0.2) (g := (mkF m 27 #[.val (.ref x1), .val (.ref a1), .val (.int (0 : Int32)), .val (.int (1 : Int32)), .val .null, .unset] [])) rfl (hb hby d131_27)
  refine own_tp (.int G1) 30 st52 ?_
  refine own_d1 33 (fun _ q => XS.ifNo X52.here hx rfl (hb hby d131_30) rfl ((if0 _ _).trans (feq US.1).1) q) ?_
  refine own_tp (.ref a1) 34 (fun _ q => XS.aloadN X52.here hx rfl (hb hby d131_33) rfl rfl q) ?_
  refine own_tp (.int (0 : Int32)) 35 (fun _ q => XS.iloadN X52.here hx rfl (hb hby d131_34) rfl q) ?_
  refine own_tp (.int (1 : Int32)) 36 (fun _ q => XS.iloadN X52.here hx rfl (hb hby d131_35) rfl q) ?_
  obtain ⟨_, _, ⟨T53, L53, k53, n53⟩, -, X53, ⟨Lc53, hQ53, l53, y53, z53⟩, st53⟩ := Jvm.LawKit.callS X52 hx (y := (⟨"java/lang/StringUTF16", "compress", "([CII)[B"⟩ : MethodName)) hown (mvT hZ (hw _ (List.mem_of_getElem? (i := 75) rfl))) (mvT hZ (hw _ (List.mem_of_getElem? (i := 76) rfl))) (mvT hZ (hw _ (List.mem_of_getElem? (i := 77) rfl))) (mvT hZ (hw _ (List.mem_of_getElem? (i := 78) rfl))) (by decide) (backOf (W := 0) (rm128 l Z a0 hw [] a1 k1 c0 h0 n0 Z0 hc0 V1 G1 US O0) hZ (hw _ (List.mem_of_getElem? (i := 78) rfl)) (hw _ (List.mem_of_getElem? (i := 77) rfl)) (by decide) (by decide)) (g := (mkF m 36 #[.val (.ref x1), .val (.ref a1), .val (.int (0 : Int32)), .val (.int (1 : Int32)), .val .null, .unset] [(.int (1 : Int32)), (.int (0 : Int32)), (.ref a1)])) rfl (by rw [hml]; rfl) (argsL := [(.ref a1), (.int (0 : Int32)), (.int (1 : Int32))]) (rest := []) (lenOf pd131_0 rfl) rfl (by show 2 * 0 + _ ≤ _; exact Nat.le_of_eq rfl) (hb hby d131_36) (fun _ _ => ⟨rfl, e52, (by decide : 0 + 2 ≤ _), (by decide : 0 + 3 ≤ _)⟩)
  dsimp only [Pt.U, Pt.locs, Pt.cells, Pt.slots] at X53 l53 y53 z53 st53 hQ53
  subst l53 y53 z53
  obtain ⟨vb53, kv53, rfl, Nq53, Kp53, ge53, sz53, hD53⟩ := hQ53
  have ne54 : a1 ≠ vb53 := Nat.ne_of_lt (Nat.lt_of_lt_of_le V1.lt sz53)
  have ne55 : x1 ≠ vb53 := Nat.ne_of_lt (Nat.lt_of_lt_of_le E1.lt sz53)
  have s0vb53 : h0.size ≤ vb53 := Nat.le_trans (Keep.refl h0 [x1]).1 sz53
  have N53 := Fr.app N0 Nq53
  have O53 := Old.keep O0 Kp53 all0
  have Z53 : n0 ≤ T53.heap.size := Nat.le_trans Z0 Kp53.1
  have K53 : Keep h0 T53.heap [x1] := Keep.trans (Keep.refl h0 [x1]) Kp53 all0
  refine own_cs [(.ref vb53)] 39 st53 ?_
  rcases hD53 with ⟨hxw, VL⟩ | ⟨hxw, VL⟩
  ·
    refine own_ls #[.val (.ref x1), .val (.ref a1), .val (.int (0 : Int32)), .val (.int (1 : Int32)), .val .null, .val (.ref vb53)] 41 (fun _ q => XS.astore X53.here hx rfl (hb hby d131_39) rfl rfl (l' := #[.val (.ref x1), .val (.ref a1), .val (.int (0 : Int32)), .val (.int (1 : Int32)), .val .null, .val (.ref vb53)]) rfl q) ?_
    refine own_tp (.ref x1) 42 (fun _ q => XS.aloadN X53.here hx rfl (hb hby d131_41) rfl rfl q) ?_
    refine own_tp (.ref vb53) 44 (fun _ q => XS.aload X53.here hx rfl (hb hby d131_42) rfl rfl q) ?_
    refine own_tp (.int (1 : Int32)) 45 (fun _ q => XS.iloadN X53.here hx rfl (hb hby d131_44) rfl q) ?_
    obtain ⟨_, _, ⟨T56, L56, k56, n56⟩, -, X56, ⟨Lc56, hQ56, l56, y56, z56⟩, st56⟩ := Jvm.LawKit.callS X53 hx (y := (⟨"java/lang/StringUTF16", "coderFromArrayLen", "([BI)B"⟩ : MethodName)) hown (mvT hZ (hw _ (List.mem_of_getElem? (i := 82) rfl))) (mvT hZ (hw _ (List.mem_of_getElem? (i := 83) rfl))) (mvT hZ (hw _ (List.mem_of_getElem? (i := 77) rfl))) (mvT hZ (hw _ (List.mem_of_getElem? (i := 84) rfl))) (by decide) (backOf (W := 1) (rm129 l Z a0 hw [] vb53 _ _ T53.heap n0 VL) hZ (hw _ (List.mem_of_getElem? (i := 84) rfl)) (hw _ (List.mem_of_getElem? (i := 77) rfl)) (by decide) (by decide)) (g := (mkF m 45 #[.val (.ref x1), .val (.ref a1), .val (.int (0 : Int32)), .val (.int (1 : Int32)), .val .null, .val (.ref vb53)] [(.int (1 : Int32)), (.ref vb53), (.ref x1)])) rfl (by rw [hml]; rfl) (argsL := [(.ref vb53), (.int (1 : Int32))]) (rest := [(.ref x1)]) (lenOf pd131_1 rfl) rfl (by show 2 * 0 + _ ≤ _; exact Nat.le_of_eq rfl) (hb hby d131_45) (fun _ _ => ⟨rfl, rfl, (by decide : 2 + 0 ≤ _), (by decide : 3 + 0 ≤ _)⟩)
    dsimp only [Pt.U, Pt.locs, Pt.cells, Pt.slots] at X56 l56 y56 z56 st56 hQ56
    subst l56 y56 z56
    obtain ⟨rfl, Nq56, eq56⟩ := hQ56
    have N56 := Fr.app N53 Nq56
    refine own_t2 (.int (0 : Int32)) 48 st56 ?_
    have f57 := (F2.keep Kp53 nin0)
    have f58 := (E1.keep Kp53)
    obtain ⟨T59, h59, X59, e59, W59, st59⟩ := putFN X56 hx hZ hown (hw _ (List.mem_of_getElem? (i := 30) rfl)) Via.refl eq56 f57 f58 (Or.inr ⟨(hw _ (List.mem_of_getElem? (i := 26) rfl)), rfl, hnm⟩) (hw _ (List.mem_of_getElem? (i := 10) rfl)) (ty := .byte) (v' := (.int (0 : Int32))) (by decide) rfl rfl (g := (mkF m 48 #[.val (.ref x1), .val (.ref a1), .val (.int (0 : Int32)), .val (.int (1 : Int32)), .val .null, .val (.ref vb53)] [(.int (0 : Int32)), (.ref x1)])) rfl rfl (hb hby d131_48)
    have Fw59 := f57.same W59
    have N59 := Fr.snoc X59 N56 g1
    have O59 := Old.wr O53 W59 g1
    have K59 : Keep h0 h59 [x1] := K53.wr W59 (Or.inl (List.mem_of_getElem? (i := 0) rfl))
    have Z59 : n0 ≤ h59.size := Nat.le_trans Z53 (Nat.le_of_eq W59.size.symm)
    refine own_d2 51 st59 ?_
    refine own_tp (.ref x1) 52 (fun _ q => XS.aloadN X59.here hx rfl (hb hby d131_51) rfl rfl q) ?_
    refine own_tp (.ref vb53) 54 (fun _ q => XS.aload X59.here hx rfl (hb hby d131_52) rfl rfl q) ?_
    have f60 := ((F1.keep Kp53 nin0).other W59 (Or.inr (slot_ne (Or.inr (hw _ (List.mem_of_getElem? (i := 25) rfl))) (Or.inr (hw _ (List.mem_of_getElem? (i := 26) rfl))) (by decide) (t := (.array .byte)) (t' := .byte) (by decide) (by decide))))
    have f61 := (f58.wr W59)
    obtain ⟨T62, h62, X62, e62, W62, st62⟩ := putF X59 hx hZ hown (host := "") (Or.inl (hw _ (List.mem_of_getElem? (i := 29) rfl))) Via.refl e59 f60 f61 (Or.inr ⟨(hw _ (List.mem_of_getElem? (i := 25) rfl)), rfl, hnm⟩) (hw _ (List.mem_of_getElem? (i := 10) rfl)) (ty := (.array .byte)) (by decide) rfl rfl (g := (mkF m 54 #[.val (.ref x1), .val (.ref a1), .val (.int (0 : Int32)), .val (.int (1 : Int32)), .val .null, .val (.ref vb53)] [(.ref vb53), (.ref x1)])) rfl rfl (hb hby d131_54)
    have Fw62 := f60.same W62
    have N62 := Fr.snoc X62 N59 g1
    have O62 := Old.wr O59 W62 g1
    have K62 : Keep h0 h62 [x1] := K59.wr W62 (Or.inl (List.mem_of_getElem? (i := 0) rfl))
    have Z62 : n0 ≤ h62.size := Nat.le_trans Z59 (Nat.le_of_eq W62.size.symm)
    refine own_d2 57 st62 ?_
    have f63 := (f61.wr W62)
    have f64 := (Fw59.other W62 (Or.inr (slot_ne (Or.inr (hw _ (List.mem_of_getElem? (i := 26) rfl))) (Or.inr (hw _ (List.mem_of_getElem? (i := 25) rfl))) (by decide) (t := .byte) (t' := (.array .byte)) (by decide) (by decide))))
    have f65 := ((VL.other W59 (Ne.symm ne55)).other W62 (Ne.symm ne55))
    exact own_retV X62 hx hrt (hb hby d131_57) hlk (by decide) (by decide) e62 (⟨rfl, N62, K62, vb53, _, _, _, _, ge53, s0vb53, f63, Fw62, f64, f65, Or.inl ⟨rfl, rfl, rfl, (own_all1 hxw)⟩⟩)
  ·
    refine own_ls #[.val (.ref x1), .val (.ref a1), .val (.int (0 : Int32)), .val (.int (1 : Int32)), .val .null, .val (.ref vb53)] 41 (fun _ q => XS.astore X53.here hx rfl (hb hby d131_39) rfl rfl (l' := #[.val (.ref x1), .val (.ref a1), .val (.int (0 : Int32)), .val (.int (1 : Int32)), .val .null, .val (.ref vb53)]) rfl q) ?_
    refine own_tp (.ref x1) 42 (fun _ q => XS.aloadN X53.here hx rfl (hb hby d131_41) rfl rfl q) ?_
    refine own_tp (.ref vb53) 44 (fun _ q => XS.aload X53.here hx rfl (hb hby d131_42) rfl rfl q) ?_
    refine own_tp (.int (1 : Int32)) 45 (fun _ q => XS.iloadN X53.here hx rfl (hb hby d131_44) rfl q) ?_
    obtain ⟨_, _, ⟨T66, L66, k66, n66⟩, -, X66, ⟨Lc66, hQ66, l66, y66, z66⟩, st66⟩ := Jvm.LawKit.callS X53 hx (y := (⟨"java/lang/StringUTF16", "coderFromArrayLen", "([BI)B"⟩ : MethodName)) hown (mvT hZ (hw _ (List.mem_of_getElem? (i := 82) rfl))) (mvT hZ (hw _ (List.mem_of_getElem? (i := 83) rfl))) (mvT hZ (hw _ (List.mem_of_getElem? (i := 77) rfl))) (mvT hZ (hw _ (List.mem_of_getElem? (i := 84) rfl))) (by decide) (backOf (W := 1) (rm130 l Z a0 hw [] vb53 _ _ T53.heap n0 VL) hZ (hw _ (List.mem_of_getElem? (i := 84) rfl)) (hw _ (List.mem_of_getElem? (i := 77) rfl)) (by decide) (by decide)) (g := (mkF m 45 #[.val (.ref x1), .val (.ref a1), .val (.int (0 : Int32)), .val (.int (1 : Int32)), .val .null, .val (.ref vb53)] [(.int (1 : Int32)), (.ref vb53), (.ref x1)])) rfl (by rw [hml]; rfl) (argsL := [(.ref vb53), (.int (1 : Int32))]) (rest := [(.ref x1)]) (lenOf pd131_1 rfl) rfl (by show 2 * 0 + _ ≤ _; exact Nat.le_of_eq rfl) (hb hby d131_45) (fun _ _ => ⟨rfl, rfl, (by decide : 2 + 0 ≤ _), (by decide : 3 + 0 ≤ _)⟩)
    dsimp only [Pt.U, Pt.locs, Pt.cells, Pt.slots] at X66 l66 y66 z66 st66 hQ66
    subst l66 y66 z66
    obtain ⟨rfl, Nq66, eq66⟩ := hQ66
    have N66 := Fr.app N53 Nq66
    refine own_t2 (.int (1 : Int32)) 48 st66 ?_
    have f67 := (F2.keep Kp53 nin0)
    have f68 := (E1.keep Kp53)
    obtain ⟨T69, h69, X69, e69, W69, st69⟩ := putFN X66 hx hZ hown (hw _ (List.mem_of_getElem? (i := 30) rfl)) Via.refl eq66 f67 f68 (Or.inr ⟨(hw _ (List.mem_of_getElem? (i := 26) rfl)), rfl, hnm⟩) (hw _ (List.mem_of_getElem? (i := 10) rfl)) (ty := .byte) (v' := (.int (1 : Int32))) (by decide) rfl rfl (g := (mkF m 48 #[.val (.ref x1), .val (.ref a1), .val (.int (0 : Int32)), .val (.int (1 : Int32)), .val .null, .val (.ref vb53)] [(.int (1 : Int32)), (.ref x1)])) rfl rfl (hb hby d131_48)
    have Fw69 := f67.same W69
    have N69 := Fr.snoc X69 N66 g1
    have O69 := Old.wr O53 W69 g1
    have K69 : Keep h0 h69 [x1] := K53.wr W69 (Or.inl (List.mem_of_getElem? (i := 0) rfl))
    have Z69 : n0 ≤ h69.size := Nat.le_trans Z53 (Nat.le_of_eq W69.size.symm)
    refine own_d2 51 st69 ?_
    refine own_tp (.ref x1) 52 (fun _ q => XS.aloadN X69.here hx rfl (hb hby d131_51) rfl rfl q) ?_
    refine own_tp (.ref vb53) 54 (fun _ q => XS.aload X69.here hx rfl (hb hby d131_52) rfl rfl q) ?_
    have f70 := ((F1.keep Kp53 nin0).other W69 (Or.inr (slot_ne (Or.inr (hw _ (List.mem_of_getElem? (i := 25) rfl))) (Or.inr (hw _ (List.mem_of_getElem? (i := 26) rfl))) (by decide) (t := (.array .byte)) (t' := .byte) (by decide) (by decide))))
    have f71 := (f68.wr W69)
    obtain ⟨T72, h72, X72, e72, W72, st72⟩ := putF X69 hx hZ hown (host := "") (Or.inl (hw _ (List.mem_of_getElem? (i := 29) rfl))) Via.refl e69 f70 f71 (Or.inr ⟨(hw _ (List.mem_of_getElem? (i := 25) rfl)), rfl, hnm⟩) (hw _ (List.mem_of_getElem? (i := 10) rfl)) (ty := (.array .byte)) (by decide) rfl rfl (g := (mkF m 54 #[.val (.ref x1), .val (.ref a1), .val (.int (0 : Int32)), .val (.int (1 : Int32)), .val .null, .val (.ref vb53)] [(.ref vb53), (.ref x1)])) rfl rfl (hb hby d131_54)
    have Fw72 := f70.same W72
    have N72 := Fr.snoc X72 N69 g1
    have O72 := Old.wr O69 W72 g1
    have K72 : Keep h0 h72 [x1] := K69.wr W72 (Or.inl (List.mem_of_getElem? (i := 0) rfl))
    have Z72 : n0 ≤ h72.size := Nat.le_trans Z69 (Nat.le_of_eq W72.size.symm)
    refine own_d2 57 st72 ?_
    have f73 := (f71.wr W72)
    have f74 := (Fw69.other W72 (Or.inr (slot_ne (Or.inr (hw _ (List.mem_of_getElem? (i := 26) rfl))) (Or.inr (hw _ (List.mem_of_getElem? (i := 25) rfl))) (by decide) (t := .byte) (t' := (.array .byte)) (by decide) (by decide))))
    have f75 := ((VL.other W69 (Ne.symm ne55)).other W72 (Ne.symm ne55))
    exact own_retV X72 hx hrt (hb hby d131_57) hlk (by decide) (by decide) e72 (⟨rfl, N72, K72, vb53, _, _, _, _, ge53, s0vb53, f73, Fw72, f74, f75, Or.inr ⟨rfl, rfl, rfl, hxw⟩⟩)

def Q132 (Z : State) (x1 : Addr) (c0 : Int32) (h0 : Heap) (n0 : Nat) (v : Option Value) (h : Heap) (L : List Loc) : Prop := v = none ∧ Fr n0 L ∧ Keep h0 h [x1] ∧ ∃ (t : Addr) (kb : ClassId) (cd N : Int32) (vs : List Value), n0 ≤ t ∧ h0.size ≤ t ∧ Exa Z h x1 "java/lang/String" ∧ Fld Z h x1 "java/lang/String" "value" "[B" (.ref t) ∧ Fld Z h x1 "java/lang/String" "coder" "B" (.int cd) ∧ Arv Z h t kb .byte N vs (.int (0 : Int32)) ∧ own_Cod ([c0] : List Int32) cd N vs

theorem d132_0 : decode jdk_42_method_3_code 0 = .ok (.aload_n 0, 1) := by decide +kernel
theorem d132_1 : decode jdk_42_method_3_code 1 = .ok (.aload_n 1, 1) := by decide +kernel
theorem d132_2 : decode jdk_42_method_3_code 2 = .ok (.iconst 0, 1) := by decide +kernel
theorem d132_3 : decode jdk_42_method_3_code 3 = .ok (.aload_n 1, 1) := by decide +kernel
theorem d132_4 : decode jdk_42_method_3_code 4 = .ok (.arraylength, 1) := by decide +kernel
theorem d132_5 : decode jdk_42_method_3_code 5 = .ok (.aconst_null, 1) := by decide +kernel
theorem d132_6 : decode jdk_42_method_3_code 6 = .ok (.invokespecial 27, 3) := by decide +kernel
theorem d132_9 : decode jdk_42_method_3_code 9 = .ok (.return_, 1) := by decide +kernel
theorem pn132 : plainName "java/lang/String" = true := by first | (simp [plainName, overriddenIn]; done) | decide +kernel
theorem pd132_0 : parseMethodDescriptor "([CIILjava/lang/Void;)V" = some ⟨[(.array .char), .int, .int, (.object "java/lang/Void")], none⟩ := by decide +kernel
theorem ef132 (m : MethodId) (x0 : Addr) (x1 : Addr) : entryFrame m #[(.ref x0), (.ref x1)] 2 = mkF m 0 #[.val (.ref x0), .val (.ref x1)] [] := by first | (simp [entryFrame, mkF, argsToLocals, Value.category]; done) | rfl
set_option maxRecDepth 65536 in
set_option maxHeartbeats 40000000 in
theorem rm132 (l : Launch) (Z : State) (a0 : Array Value) (hw : ∀ d ∈ tables_1, d.before a0 Z = true) (ws : List Jvm.Cond) (x1 a1 : Addr) (k1 : ClassId) (c0 : Int32) (u1 u2 : Value) (h0 : Heap) (n0 : Nat) (Z0 : n0 ≤ h0.size) (g1 : n0 ≤ x1) (hxa : x1 ≠ a1) (hc0 : 0 ≤ c0.toInt ∧ c0.toInt ≤ 65535) (V1 : Arv Z h0 a1 k1 .char (1 : Int32) [(.int c0)] (.int (0 : Int32))) (E1 : Exa Z h0 x1 "java/lang/String") (F1 : Fld Z h0 x1 "java/lang/String" "value" "[B" u1) (F2 : Fld Z h0 x1 "java/lang/String" "coder" "B" u2) (G1 : Int32) (US : own_US Z G1) (O0 : Old Z n0 h0) :
    own_Met l (⟨"java/lang/String", "<init>", "([C)V"⟩ : MethodName) jdk_42_method_3_code 2 none ws ({ frames := 5, cells := 2, slots := 3, locals := 78 } : Room) Z #[(.ref x1), (.ref a1)] h0 (Q132 Z x1 c0 h0 n0) := by
  refine own_enter #[.val (.ref x1), .val (.ref a1)] (plainFor_of_name pn132) (fun m => ef132 m x1 a1) ?_
  intro p e s m below meth c s₁ hx hby hml hown hnm hZ hrt hlk X0 e0
  have N0 := Fr.nil n0
  refine own_tp (.ref x1) 1 (fun _ q => XS.aloadN X0.here hx rfl (hb hby d132_0) rfl rfl q) ?_
  refine own_tp (.ref a1) 2 (fun _ q => XS.aloadN X0.here hx rfl (hb hby d132_1) rfl rfl q) ?_
  refine own_tp (.int (0 : Int32)) 3 (fun _ q => XS.iconst X0.here hx rfl (hb hby d132_2) q) ?_
  refine own_tp (.ref a1) 4 (fun _ q => XS.aloadN X0.here hx rfl (hb hby d132_3) rfl rfl q) ?_
  obtain ⟨cl51, Ar51, -, Sz51, Nn51, -, -⟩ := (id V1)
  refine own_t1 (.int (1 : Int32)) 5 (fun t q => X0.arraylength hx (by rw [e0]; exact Ar51.1) (State.isArrayOf_alike hZ.alike Ar51.2.1) (g := (mkF m 4 #[.val (.ref x1), .val (.ref a1)] [(.ref a1), (.int (0 : Int32)), (.ref a1), (.ref x1)])) rfl rfl (hb hby d132_4) _ (by rw [len_of Sz51 Nn51]; exact q)) ?_
  refine own_tp .null 6 (fun _ q => XS.aconstNull X0.here hx rfl (hb hby d132_5) q) ?_
  obtain ⟨_, _, ⟨T52, L52, k52, n52⟩, -, X52, ⟨Lc52, hQ52, l52, y52, z52⟩, st52⟩ := X0.specialBack hx (y := (⟨"java/lang/String", "<init>", "([CIILjava/lang/Void;)V"⟩ : MethodName)) rfl hown (mvT hZ (hw _ (List.mem_of_getElem? (i := 16) rfl))) (mvT hZ (hw _ (List.mem_of_getElem? (i := 17) rfl))) (mvT hZ (hw _ (List.mem_of_getElem? (i := 19) rfl))) (by decide) (backOf (W := 0) (rm131 l Z a0 hw [] x1 a1 k1 c0 _ _ h0 n0 Z0 g1 hxa hc0 V1 E1 F1 F2 G1 US O0) hZ (hw _ (List.mem_of_getElem? (i := 19) rfl)) (hw _ (List.mem_of_getElem? (i := 11) rfl)) (by decide) (by decide)) (g := (mkF m 6 #[.val (.ref x1), .val (.ref a1)] [.null, (.int (1 : Int32)), (.int (0 : Int32)), (.ref a1), (.ref x1)])) rfl (by rw [hml]; rfl) (Steps.refl _) (a := x1) (argsL := [(.ref a1), (.int (0 : Int32)), (.int (1 : Int32)), .null]) (rest := []) (lenOf pd132_0 rfl) rfl (by show 2 * 0 + _ ≤ _; exact Nat.le_of_eq rfl) (hb hby d132_6) (fun _ _ => ⟨rfl, e0, (by decide : 0 + 2 ≤ _), (by decide : 0 + 3 ≤ _)⟩)
  dsimp only [Pt.U, Pt.locs, Pt.cells, Pt.slots] at X52 l52 y52 z52 st52 hQ52
  subst l52 y52 z52
  obtain ⟨rfl, Nq52, Kp52, rest52⟩ := hQ52
  refine own_csR [] 9 st52 ?_
  exact own_retV X52 hx hrt (hb hby d132_9) hlk (by decide) (by decide) rfl (⟨rfl, Fr.app N0 Nq52, Kp52, rest52⟩)

def Q133 (Z : State) (b1 : Addr) (k2 : ClassId) (c0 c1 : Int32) (h0 : Heap) (n0 : Nat) (v : Option Value) (h : Heap) (L : List Loc) : Prop := Fr n0 L ∧ Keep h0 h [b1] ∧ ((v = some (.int (0 : Int32)) ∧ (255 : Int32) < c0) ∨ (v = some (.int (1 : Int32)) ∧ (255 : Int32) < c1) ∨ (v = some (.int (2 : Int32)) ∧ (¬ (255 : Int32) < c0 ∧ ¬ (255 : Int32) < c1) ∧ Arv Z h b1 k2 .byte (2 : Int32) [(.int (own_lo c0)), (.int (own_lo c1))] (.int (0 : Int32))))

theorem d133_0 : decode jdk_52_method_21_code 0 = .ok (.iconst 0, 1) := by decide +kernel
theorem d133_1 : decode jdk_52_method_21_code 1 = .ok (.istore 5, 2) := by decide +kernel
theorem d133_3 : decode jdk_52_method_21_code 3 = .ok (.iload 5, 2) := by decide +kernel
theorem d133_5 : decode jdk_52_method_21_code 5 = .ok (.iload 4, 2) := by decide +kernel
theorem d133_7 : decode jdk_52_method_21_code 7 = .ok (.if_icmp .ge 37, 3) := by decide +kernel
theorem d133_10 : decode jdk_52_method_21_code 10 = .ok (.aload_n 0, 1) := by decide +kernel
theorem d133_11 : decode jdk_52_method_21_code 11 = .ok (.iload_n 1, 1) := by decide +kernel
theorem d133_12 : decode jdk_52_method_21_code 12 = .ok (.caload, 1) := by decide +kernel
theorem d133_13 : decode jdk_52_method_21_code 13 = .ok (.istore 6, 2) := by decide +kernel
theorem d133_15 : decode jdk_52_method_21_code 15 = .ok (.iload 6, 2) := by decide +kernel
theorem d133_17 : decode jdk_52_method_21_code 17 = .ok (.sipush 255, 3) := by decide +kernel
theorem d133_20 : decode jdk_52_method_21_code 20 = .ok (.if_icmp .le 6, 3) := by decide +kernel
theorem d133_23 : decode jdk_52_method_21_code 23 = .ok (.iload 5, 2) := by decide +kernel
theorem d133_25 : decode jdk_52_method_21_code 25 = .ok (.ireturn, 1) := by decide +kernel
theorem d133_26 : decode jdk_52_method_21_code 26 = .ok (.aload_n 2, 1) := by decide +kernel
theorem d133_27 : decode jdk_52_method_21_code 27 = .ok (.iload_n 3, 1) := by decide +kernel
theorem d133_28 : decode jdk_52_method_21_code 28 = .ok (.iload 6, 2) := by decide +kernel
theorem d133_30 : decode jdk_52_method_21_code 30 = .ok (.i2b, 1) := by decide +kernel
theorem d133_31 : decode jdk_52_method_21_code 31 = .ok (.bastore, 1) := by decide +kernel
theorem d133_32 : decode jdk_52_method_21_code 32 = .ok (.iinc 1 1, 3) := by decide +kernel
theorem d133_35 : decode jdk_52_method_21_code 35 = .ok (.iinc 3 1, 3) := by decide +kernel
theorem d133_38 : decode jdk_52_method_21_code 38 = .ok (.iinc 5 1, 3) := by decide +kernel
theorem d133_41 : decode jdk_52_method_21_code 41 = .ok (.goto (-38), 3) := by decide +kernel
theorem d133_44 : decode jdk_52_method_21_code 44 = .ok (.iload 4, 2) := by decide +kernel
theorem d133_46 : decode jdk_52_method_21_code 46 = .ok (.ireturn, 1) := by decide +kernel
theorem pn133 : plainName "java/lang/StringUTF16" = true := by first | (simp [plainName, overriddenIn]; done) | decide +kernel
theorem ef133 (m : MethodId) (x0 : Addr) (x1 : Int32) (x2 : Addr) (x3 : Int32) (x4 : Int32) : entryFrame m #[(.ref x0), (.int x1), (.ref x2), (.int x3), (.int x4)] 7 = mkF m 0 #[.val (.ref x0), .val (.int x1), .val (.ref x2), .val (.int x3), .val (.int x4), .unset, .unset] [] := by first | (simp [entryFrame, mkF, argsToLocals, Value.category]; done) | rfl
set_option maxRecDepth 65536 in
set_option maxHeartbeats 40000000 in
theorem rm133 (l : Launch) (Z : State) (a0 : Array Value) (hw : ∀ d ∈ tables_1, d.before a0 Z = true) (ws : List Jvm.Cond) (a1 b1 : Addr) (k1 k2 : ClassId) (c0 c1 : Int32) (h0 : Heap) (n0 : Nat) (Z0 : n0 ≤ h0.size) (g1 : n0 ≤ b1) (hab : a1 ≠ b1) (V1 : Arv Z h0 a1 k1 .char (2 : Int32) [(.int c0), (.int c1)] (.int (0 : Int32))) (V2 : Arv Z h0 b1 k2 .byte (2 : Int32) [(.int (0 : Int32)), (.int (0 : Int32))] (.int (0 : Int32))) :
    own_Met l (⟨"java/lang/StringUTF16", "compress", "([CI[BII)I"⟩ : MethodName) jdk_52_method_21_code 7 (some .int) ws ({ frames := 0, cells := 0, slots := 0, locals := 0 } : Room) Z #[(.ref a1), (.int (0 : Int32)), (.ref b1), (.int (0 : Int32)), (.int (2 : Int32))] h0 (Q133 Z b1 k2 c0 c1 h0 n0) := by
  refine own_enter #[.val (.ref a1), .val (.int (0 : Int32)), .val (.ref b1), .val (.int (0 : Int32)), .val (.int (2 : Int32)), .unset, .unset] (plainFor_of_name pn133) (fun m => ef133 m a1 (0 : Int32) b1 (0 : Int32) (2 : Int32)) ?_
  intro p e s m below meth c s₁ hx hby hml hown hnm hZ hrt hlk X0 e0
  have N0 := Fr.nil n0
  refine own_tp (.int (0 : Int32)) 1 (fun _ q => XS.iconst X0.here hx rfl (hb hby d133_0) q) ?_
  refine own_ls #[.val (.ref a1), .val (.int (0 : Int32)), .val (.ref b1), .val (.int (0 : Int32)), .val (.int (2 : Int32)), .val (.int (0 : Int32)), .unset] 3 (fun _ q => XS.istore X0.here hx rfl (hb hby d133_1) rfl (l' := #[.val (.ref a1), .val (.int (0 : Int32)), .val (.ref b1), .val (.int (0 : Int32)), .val (.int (2 : Int32)), .val (.int (0 : Int32)), .unset]) rfl q) ?_
  refine own_tp (.int (0 : Int32)) 5 (fun _ q => XS.iload X0.here hx rfl (hb hby d133_3) rfl q) ?_
  refine own_tp (.int (2 : Int32)) 7 (fun _ q => XS.iload X0.here hx rfl (hb hby d133_5) rfl q) ?_
  refine own_d2 10 (fun _ q => XS.icmpNo X0.here hx rfl (hb hby d133_7) rfl (tlt (by decide : (0 : Int32) < (2 : Int32))).2.1 q) ?_
  refine own_tp (.ref a1) 11 (fun _ q => XS.aloadN X0.here hx rfl (hb hby d133_10) rfl rfl q) ?_
  refine own_tp (.int (0 : Int32)) 12 (fun _ q => XS.iloadN X0.here hx rfl (hb hby d133_11) rfl q) ?_
  obtain ⟨cl51, Ar51, q51, S51, Nn51, H51, G51⟩ := (id V1)
  have hin51 : ¬ ((0 : Int32) < 0 ∨ cl51.slots.size ≤ ((0 : Int32)).toNatClampNeg) := inb_of S51 ⟨by decide, by decide⟩
  have hat51 : cl51.slots[((0 : Int32)).toNatClampNeg]? = some (.int c0) := H51.at hin51 rfl
  refine own_t2 (.int c0) 13 (fun _ q => X0.caload hx (j := (0 : Int32)) (v := (.int c0)) (by rw [e0]; exact Ar51.1) (State.isArrayOf_alike hZ.alike Ar51.2.1) Ar51.2.2 hin51 hat51 (g := (mkF m 12 #[.val (.ref a1), .val (.int (0 : Int32)), .val (.ref b1), .val (.int (0 : Int32)), .val (.int (2 : Int32)), .val (.int (0 : Int32)), .unset] [(.int (0 : Int32)), (.ref a1)])) rfl rfl (hb hby d133_12) _ q) ?_
  refine own_ls #[.val (.ref a1), .val (.int (0 : Int32)), .val (.ref b1), .val (.int (0 : Int32)), .val (.int (2 : Int32)), .val (.int (0 : Int32)), .val (.int c0)] 15 (fun _ q => XS.istore X0.here hx rfl (hb hby d133_13) rfl (l' := #[.val (.ref a1), .val (.int (0 : Int32)), .val (.ref b1), .val (.int (0 : Int32)), .val (.int (2 : Int32)), .val (.int (0 : Int32)), .val (.int c0)]) rfl q) ?_
  refine own_tp (.int c0) 17 (fun _ q => XS.iload X0.here hx rfl (hb hby d133_15) rfl q) ?_
  refine own_tp (.int (255 : Int32)) 20 (fun _ q => XS.sipush X0.here hx rfl (hb hby d133_17) q) ?_
  by_cases c52 : (255 : Int32) < c0
  ·
    refine own_d2 23 (fun _ q => XS.icmpNo X0.here hx rfl (hb hby d133_20) rfl (tlt c52).2.2.2 q) ?_
    refine own_tp (.int (0 : Int32)) 25 (fun _ q => XS.iload X0.here hx rfl (hb hby d133_23) rfl q) ?_
    exact own_retI X0 hx hrt (hb hby d133_25) hlk (by decide) (by decide) e0 (⟨N0, (Keep.refl h0 [b1]), (Or.inl ⟨rfl, c52⟩)⟩)
  ·
    refine own_d2 26 (fun _ q => XS.icmpYes X0.here hx rfl (pc0 := 20) (pc' := 26) rfl (hb hby d133_20) rfl (flt c52).2.2.2 (by decide) (by decide) q) ?_
    refine own_tp (.ref b1) 27 (fun _ q => XS.aloadN X0.here hx rfl (hb hby d133_26) rfl rfl q) ?_
    refine own_tp (.int (0 : Int32)) 28 (fun _ q => XS.iloadN X0.here hx rfl (hb hby d133_27) rfl q) ?_
    refine own_tp (.int c0) 30 (fun _ q => XS.iload X0.here hx rfl (hb hby d133_28) rfl q) ?_
    refine own_t1 (.int (c0.toInt8.toInt32)) 31 (fun _ q => XS.i2b X0.here hx rfl (hb hby d133_30) rfl q) ?_
    obtain ⟨cl53, Ar53, q53, S53, Nn53, H53, G53⟩ := (id V2)
    have hin53 : ¬ ((0 : Int32) < 0 ∨ cl53.slots.size ≤ ((0 : Int32)).toNatClampNeg) := inb_of S53 ⟨by decide, by decide⟩
    obtain ⟨T54, h54, X54, e54, W54, st54⟩ := stB X0 hx hZ e0 Ar53 (j := (0 : Int32)) hin53 (g := (mkF m 31 #[.val (.ref a1), .val (.int (0 : Int32)), .val (.ref b1), .val (.int (0 : Int32)), .val (.int (2 : Int32)), .val (.int (0 : Int32)), .val (.int c0)] [(.int (c0.toInt8.toInt32)), (.int (0 : Int32)), (.ref b1)])) rfl rfl (hb hby d133_31)
    have V54 := Arv.set Ar53 q53 S53 Nn53 H53 G53 (fits_nar_byte _) W54 0 rfl (Nat.le_of_ble_eq_true rfl)
    have N54 := Fr.snoc X54 N0 g1
    have K54 : Keep h0 h54 [b1] := (Keep.refl h0 [b1]).wr W54 (Or.inl (List.mem_of_getElem? (i := 0) rfl))
    have Z54 : n0 ≤ h54.size := Nat.le_trans Z0 (Nat.le_of_eq W54.size.symm)
    have V54' : Arv Z h54 b1 k2 .byte (2 : Int32) [(.int (c0.toInt8.toInt32)), (.int (0 : Int32))] (.int (0 : Int32)) := by have q := V54; first | (rw [own_nb] at q; exact q) | (rw [own_nb2] at q; exact q)
    refine own_cs [] 32 st54 ?_
    refine own_li #[.val (.ref a1), .val (.int (1 : Int32)), .val (.ref b1), .val (.int (0 : Int32)), .val (.int (2 : Int32)), .val (.int (0 : Int32)), .val (.int c0)] 35 (fun _ q => XS.iinc X54.here hx rfl (hb hby d133_32) rfl (l' := #[.val (.ref a1), .val (.int (1 : Int32)), .val (.ref b1), .val (.int (0 : Int32)), .val (.int (2 : Int32)), .val (.int (0 : Int32)), .val (.int c0)]) rfl q) ?_
    refine own_li #[.val (.ref a1), .val (.int (1 : Int32)), .val (.ref b1), .val (.int (1 : Int32)), .val (.int (2 : Int32)), .val (.int (0 : Int32)), .val (.int c0)] 38 (fun _ q => XS.iinc X54.here hx rfl (hb hby d133_35) rfl (l' := #[.val (.ref a1), .val (.int (1 : Int32)), .val (.ref b1), .val (.int (1 : Int32)), .val (.int (2 : Int32)), .val (.int (0 : Int32)), .val (.int c0)]) rfl q) ?_
    refine own_li #[.val (.ref a1), .val (.int (1 : Int32)), .val (.ref b1), .val (.int (1 : Int32)), .val (.int (2 : Int32)), .val (.int (1 : Int32)), .val (.int c0)] 41 (fun _ q => XS.iinc X54.here hx rfl (hb hby d133_38) rfl (l' := #[.val (.ref a1), .val (.int (1 : Int32)), .val (.ref b1), .val (.int (1 : Int32)), .val (.int (2 : Int32)), .val (.int (1 : Int32)), .val (.int c0)]) rfl q) ?_
    refine own_d0 3 (fun _ q => XS.goto X54.here hx rfl (pc0 := 41) (pc' := 3) rfl (hb hby d133_41) (by decide) (by decide) q) ?_
    refine own_tp (.int (1 : Int32)) 5 (fun _ q => XS.iload X54.here hx rfl (hb hby d133_3) rfl q) ?_
    refine own_tp (.int (2 : Int32)) 7 (fun _ q => XS.iload X54.here hx rfl (hb hby d133_5) rfl q) ?_
    refine own_d2 10 (fun _ q => XS.icmpNo X54.here hx rfl (hb hby d133_7) rfl (tlt (by decide : (1 : Int32) < (2 : Int32))).2.1 q) ?_
    refine own_tp (.ref a1) 11 (fun _ q => XS.aloadN X54.here hx rfl (hb hby d133_10) rfl rfl q) ?_
    refine own_tp (.int (1 : Int32)) 12 (fun _ q => XS.iloadN X54.here hx rfl (hb hby d133_11) rfl q) ?_
    have f55 := (V1.other W54 hab)
    obtain ⟨cl56, Ar56, q56, S56, Nn56, H56, G56⟩ := (id f55)
    have hin56 : ¬ ((1 : Int32) < 0 ∨ cl56.slots.size ≤ ((1 : Int32)).toNatClampNeg) := inb_of S56 ⟨by decide, by decide⟩
    have hat56 : cl56.slots[((1 : Int32)).toNatClampNeg]? = some (.int c1) := H56.at hin56 rfl
    refine own_t2 (.int c1) 13 (fun _ q => X54.caload hx (j := (1 : Int32)) (v := (.int c1)) (by rw [e54]; exact Ar56.1) (State.isArrayOf_alike hZ.alike Ar56.2.1) Ar56.2.2 hin56 hat56 (g := (mkF m 12 #[.val (.ref a1), .val (.int (1 : Int32)), .val (.ref b1), .val (.int (1 : Int32)), .val (.int (2 : Int32)), .val (.int (1 : Int32)), .val (.int c0)] [(.int (1 : Int32)), (.ref a1)])) rfl rfl (hb hby d133_12) _ q) ?_
    refine own_ls #[.val (.ref a1), .val (.int (1 : Int32)), .val (.ref b1), .val (.int (1 : Int32)), .val (.int (2 : Int32)), .val (.int (1 : Int32)), .val (.int c1)] 15 (fun _ q => XS.istore X54.here hx rfl (hb hby d133_13) rfl (l' := #[.val (.ref a1), .val (.int (1 : Int32)), .val (.ref b1), .val (.int (1 : Int32)), .val (.int (2 : Int32)), .val (.int (1 : Int32)), .val (.int c1)]) rfl q) ?_
    refine own_tp (.int c1) 17 (fun _ q => XS.iload X54.here hx rfl (hb hby d133_15) rfl q) ?_
    refine own_tp (.int (255 : Int32)) 20 (fun _ q => XS.sipush X54.here hx rfl (hb hby d133_17) q) ?_
    by_cases c57 : (255 : Int32) < c1
    ·
      refine own_d2 23 (fun _ q => XS.icmpNo X54.here hx rfl (hb hby d133_20) rfl (tlt c57).2.2.2 q) ?_
      refine own_tp (.int (1 : Int32)) 25 (fun _ q => XS.iload X54.here hx rfl (hb hby d133_23) rfl q) ?_
      exact own_retI X54 hx hrt (hb hby d133_25) hlk (by decide) (by decide) e54 (⟨N54, K54, (Or.inr (Or.inl ⟨rfl, c57⟩))⟩)
    ·
      refine own_d2 26 (fun _ q => XS.icmpYes X54.here hx rfl (pc0 := 20) (pc' := 26) rfl (hb hby d133_20) rfl (flt c57).2.2.2 (by decide) (by decide) q) ?_
      refine own_tp (.ref b1) 27 (fun _ q => XS.aloadN X54.here hx rfl (hb hby d133_26) rfl rfl q) ?_
      refine own_tp (.int (1 : Int32)) 28 (fun _ q => XS.iloadN X54.here hx rfl (hb hby d133_27) rfl q) ?_
      refine own_tp (.int c1) 30 (fun _ q => XS.iload X54.here hx rfl (hb hby d133_28) rfl q) ?_
      refine own_t1 (.int (c1.toInt8.toInt32)) 31 (fun _ q => XS.i2b X54.here hx rfl (hb hby d133_30) rfl q) ?_
      obtain ⟨cl58, Ar58, q58, S58, Nn58, H58, G58⟩ := (id V54')
      have hin58 : ¬ ((1 : Int32) < 0 ∨ cl58.slots.size ≤ ((1 : Int32)).toNatClampNeg) := inb_of S58 ⟨by decide, by decide⟩
      obtain ⟨T59, h59, X59, e59, W59, st59⟩ := stB X54 hx hZ e54 Ar58 (j := (1 : Int32)) hin58 (g := (mkF m 31 #[.val (.ref a1), .val (.int (1 : Int32)), .val (.ref b1), .val (.int (1 : Int32)), .val (.int (2 : Int32)), .val (.int (1 : Int32)), .val (.int c1)] [(.int (c1.toInt8.toInt32)), (.int (1 : Int32)), (.ref b1)])) rfl rfl (hb hby d133_31)
      have V59 := Arv.set Ar58 q58 S58 Nn58 H58 G58 (fits_nar_byte _) W59 1 rfl (Nat.le_of_ble_eq_true rfl)
      have N59 := Fr.snoc X59 N54 g1
      have K59 : Keep h0 h59 [b1] := K54.wr W59 (Or.inl (List.mem_of_getElem? (i := 0) rfl))
      have Z59 : n0 ≤ h59.size := Nat.le_trans Z54 (Nat.le_of_eq W59.size.symm)
      have V59' : Arv Z h59 b1 k2 .byte (2 : Int32) [(.int (c0.toInt8.toInt32)), (.int (c1.toInt8.toInt32))] (.int (0 : Int32)) := by have q := V59; first | (rw [own_nb] at q; exact q) | (rw [own_nb2] at q; exact q)
      refine own_cs [] 32 st59 ?_
      refine own_li #[.val (.ref a1), .val (.int (2 : Int32)), .val (.ref b1), .val (.int (1 : Int32)), .val (.int (2 : Int32)), .val (.int (1 : Int32)), .val (.int c1)] 35 (fun _ q => XS.iinc X59.here hx rfl (hb hby d133_32) rfl (l' := #[.val (.ref a1), .val (.int (2 : Int32)), .val (.ref b1), .val (.int (1 : Int32)), .val (.int (2 : Int32)), .val (.int (1 : Int32)), .val (.int c1)]) rfl q) ?_
      refine own_li #[.val (.ref a1), .val (.int (2 : Int32)), .val (.ref b1), .val (.int (2 : Int32)), .val (.int (2 : Int32)), .val (.int (1 : Int32)), .val (.int c1)] 38 (fun _ q => XS.iinc X59.here hx rfl (hb hby d133_35) rfl (l' := #[.val (.ref a1), .val (.int (2 : Int32)), .val (.ref b1), .val (.int (2 : Int32)), .val (.int (2 : Int32)), .val (.int (1 : Int32)), .val (.int c1)]) rfl q) ?_
      refine own_li #[.val (.ref a1), .val (.int (2 : Int32)), .val (.ref b1), .val (.int (2 : Int32)), .val (.int (2 : Int32)), .val (.int (2 : Int32)), .val (.int c1)] 41 (fun _ q => XS.iinc X59.here hx rfl (hb hby d133_38) rfl (l' := #[.val (.ref a1), .val (.int (2 : Int32)), .val (.ref b1), .val (.int (2 : Int32)), .val (.int (2 : Int32)), .val (.int (2 : Int32)), .val (.int c1)]) rfl q) ?_
      refine own_d0 3 (fun _ q => XS.goto X59.here hx rfl (pc0 := 41) (pc' := 3) rfl (hb hby d133_41) (by decide) (by decide) q) ?_
      refine own_tp (.int (2 : Int32)) 5 (fun _ q => XS.iload X59.here hx rfl (hb hby d133_3) rfl q) ?_
      refine own_tp (.int (2 : Int32)) 7 (fun _ q => XS.iload X59.here hx rfl (hb hby d133_5) rfl q) ?_
      refine own_d2 44 (fun _ q => XS.icmpYes X59.here hx rfl (pc0 := 7) (pc' := 44) rfl (hb hby d133_7) rfl (flt (by decide : ¬ ((2 : Int32) < (2 : Int32)))).2.1 (by decide) (by decide) q) ?_
      refine own_tp (.int (2 : Int32)) 46 (fun _ q => XS.iload X59.here hx rfl (hb hby d133_44) rfl q) ?_
      exact own_retI X59 hx hrt (hb hby d133_46) hlk (by decide) (by decide) e59 (⟨N59, K59, (Or.inr (Or.inr ⟨rfl, ⟨c52, c57⟩, V59'⟩))⟩)

def Q134  (h0 : Heap) (n0 : Nat) (v : Option Value) (h : Heap) (L : List Loc) : Prop := v = some (.int (4 : Int32)) ∧ Fr n0 L ∧ h = h0

theorem d134_0 : decode jdk_52_method_3_code 0 = .ok (.iload_n 0, 1) := by decide +kernel
theorem d134_1 : decode jdk_52_method_3_code 1 = .ok (.ifCond .ge 11, 3) := by decide +kernel
theorem d134_12 : decode jdk_52_method_3_code 12 = .ok (.iload_n 0, 1) := by decide +kernel
theorem d134_13 : decode jdk_52_method_3_code 13 = .ok (.ldc 20, 2) := by decide +kernel
theorem d134_15 : decode jdk_52_method_3_code 15 = .ok (.if_icmp .lt 40, 3) := by decide +kernel
theorem d134_55 : decode jdk_52_method_3_code 55 = .ok (.iload_n 0, 1) := by decide +kernel
theorem d134_56 : decode jdk_52_method_3_code 56 = .ok (.iconst 1, 1) := by decide +kernel
theorem d134_57 : decode jdk_52_method_3_code 57 = .ok (.ishl, 1) := by decide +kernel
theorem d134_58 : decode jdk_52_method_3_code 58 = .ok (.ireturn, 1) := by decide +kernel
theorem pn134 : plainName "java/lang/StringUTF16" = true := by first | (simp [plainName, overriddenIn]; done) | decide +kernel
theorem ef134 (m : MethodId) (x0 : Int32) : entryFrame m #[(.int x0)] 1 = mkF m 0 #[.val (.int x0)] [] := by first | (simp [entryFrame, mkF, argsToLocals, Value.category]; done) | rfl
set_option maxRecDepth 65536 in
set_option maxHeartbeats 40000000 in
theorem rm134 (l : Launch) (Z : State) (a0 : Array Value) (hw : ∀ d ∈ tables_1, d.before a0 Z = true) (ws : List Jvm.Cond)  (h0 : Heap) (n0 : Nat)  :
    own_Met l (⟨"java/lang/StringUTF16", "newBytesLength", "(I)I"⟩ : MethodName) jdk_52_method_3_code 1 (some .int) ws ({ frames := 0, cells := 0, slots := 0, locals := 0 } : Room) Z #[(.int (2 : Int32))] h0 (Q134 h0 n0) := by
  refine own_enter #[.val (.int (2 : Int32))] (plainFor_of_name pn134) (fun m => ef134 m (2 : Int32)) ?_
  intro p e s m below meth c s₁ hx hby hml hown hnm hZ hrt hlk X0 e0
  have N0 := Fr.nil n0
  refine own_tp (.int (2 : Int32)) 1 (fun _ q => XS.iloadN X0.here hx rfl (hb hby d134_0) rfl q) ?_
  refine own_d1 12 (fun _ q => XS.ifYes X0.here hx rfl (pc0 := 1) (pc' := 12) rfl (hb hby d134_1) rfl ((if0 _ _).trans (flt (by decide : ¬ ((2 : Int32) < (0 : Int32)))).2.1) (by decide) (by decide) q) ?_
  refine own_tp (.int (2 : Int32)) 13 (fun _ q => XS.iloadN X0.here hx rfl (hb hby d134_12) rfl q) ?_
  refine own_tp (.int (1073741823 : Int32)) 15 (fun _ q => X0.ldcInt hx hown (mvT hZ (hw _ (List.mem_of_getElem? (i := 101) rfl))) (g := (mkF m 13 #[.val (.int (2 : Int32))] [(.int (2 : Int32))])) rfl (hb hby d134_13) _ q) ?_
  refine own_d2 55 (fun _ q => XS.icmpYes X0.here hx rfl (pc0 := 15) (pc' := 55) rfl (hb hby d134_15) rfl (tlt (by decide : (2 : Int32) < (1073741823 : Int32))).1 (by decide) (by decide) q) ?_
  refine own_tp (.int (2 : Int32)) 56 (fun _ q => XS.iloadN X0.here hx rfl (hb hby d134_55) rfl q) ?_
  refine own_tp (.int (1 : Int32)) 57 (fun _ q => XS.iconst X0.here hx rfl (hb hby d134_56) q) ?_
  refine own_t2 (.int (4 : Int32)) 58 (fun _ q => XS.ishl X0.here hx rfl (hb hby d134_57) rfl q) ?_
  exact own_retI X0 hx hrt (hb hby d134_58) hlk (by decide) (by decide) e0 (⟨rfl, N0, rfl⟩)

def Q135 (Z : State) (h0 : Heap) (n0 : Nat) (v : Option Value) (h : Heap) (L : List Loc) : Prop := ∃ (b : Addr) (k : ClassId), v = some (.ref b) ∧ Fr n0 L ∧ Keep h0 h [] ∧ n0 ≤ b ∧ h0.size ≤ b ∧ Arv Z h b k .byte (4 : Int32) [(.int (0 : Int32)), (.int (0 : Int32)), (.int (0 : Int32)), (.int (0 : Int32))] (.int (0 : Int32))

theorem d135_0 : decode jdk_52_method_2_code 0 = .ok (.iload_n 0, 1) := by decide +kernel
theorem d135_1 : decode jdk_52_method_2_code 1 = .ok (.invokestatic 11, 3) := by decide +kernel
theorem d135_4 : decode jdk_52_method_2_code 4 = .ok (.newarray .byte, 2) := by decide +kernel
theorem d135_6 : decode jdk_52_method_2_code 6 = .ok (.areturn, 1) := by decide +kernel
theorem pn135 : plainName "java/lang/StringUTF16" = true := by first | (simp [plainName, overriddenIn]; done) | decide +kernel
theorem pd135_0 : parseMethodDescriptor "(I)I" = some ⟨[.int], some .int⟩ := by decide +kernel
theorem ef135 (m : MethodId) (x0 : Int32) : entryFrame m #[(.int x0)] 1 = mkF m 0 #[.val (.int x0)] [] := by first | (simp [entryFrame, mkF, argsToLocals, Value.category]; done) | rfl
set_option maxRecDepth 65536 in
set_option maxHeartbeats 40000000 in
theorem rm135 (l : Launch) (Z : State) (a0 : Array Value) (hw : ∀ d ∈ tables_1, d.before a0 Z = true) (ws : List Jvm.Cond)  (h0 : Heap) (n0 : Nat) (Z0 : n0 ≤ h0.size) :
    own_Met l (⟨"java/lang/StringUTF16", "newBytesFor", "(I)[B"⟩ : MethodName) jdk_52_method_2_code 1 (some (.array .byte)) ws ({ frames := 1, cells := 1, slots := 4, locals := 12 } : Room) Z #[(.int (2 : Int32))] h0 (Q135 Z h0 n0) := by
  refine own_enter #[.val (.int (2 : Int32))] (plainFor_of_name pn135) (fun m => ef135 m (2 : Int32)) ?_
  intro p e s m below meth c s₁ hx hby hml hown hnm hZ hrt hlk X0 e0
  have N0 := Fr.nil n0
  refine own_tp (.int (2 : Int32)) 1 (fun _ q => XS.iloadN X0.here hx rfl (hb hby d135_0) rfl q) ?_
  obtain ⟨_, _, ⟨T51, L51, k51, n51⟩, -, X51, ⟨Lc51, hQ51, l51, y51, z51⟩, st51⟩ := Jvm.LawKit.callS X0 hx (y := (⟨"java/lang/StringUTF16", "newBytesLength", "(I)I"⟩ : MethodName)) hown (mvT hZ (hw _ (List.mem_of_getElem? (i := 98) rfl))) (mvT hZ (hw _ (List.mem_of_getElem? (i := 99) rfl))) (mvT hZ (hw _ (List.mem_of_getElem? (i := 77) rfl))) (mvT hZ (hw _ (List.mem_of_getElem? (i := 100) rfl))) (by decide) (backOf (W := 0) (rm134 l Z a0 hw [] h0 n0) hZ (hw _ (List.mem_of_getElem? (i := 100) rfl)) (hw _ (List.mem_of_getElem? (i := 77) rfl)) (by decide) (by decide)) (g := (mkF m 1 #[.val (.int (2 : Int32))] [(.int (2 : Int32))])) rfl (by rw [hml]; rfl) (argsL := [(.int (2 : Int32))]) (rest := []) (lenOf pd135_0 rfl) rfl (by show 2 * 0 + _ ≤ _; exact Nat.le_of_eq rfl) (hb hby d135_1) (fun _ _ => ⟨rfl, e0, (by decide : 0 + 0 ≤ _), (by decide : 0 + 0 ≤ _)⟩)
  dsimp only [Pt.U, Pt.locs, Pt.cells, Pt.slots] at X51 l51 y51 z51 st51 hQ51
  subst l51 y51 z51
  obtain ⟨rfl, Nq51, eq51⟩ := hQ51
  have N51 := Fr.app N0 Nq51
  refine own_t1 (.int (4 : Int32)) 4 st51 ?_
  obtain ⟨T52, h52, k52, X52, e52, E52, A52, st52⟩ := newP X51 hx hZ (hw _ (List.mem_of_getElem? (i := 24) rfl)) eq51 (g := (mkF m 4 #[.val (.int (2 : Int32))] [(.int (4 : Int32))])) rfl (hb hby d135_4) rfl (by decide) (cap := 4) (by decide) (by decide) (by decide) (by decide)
  obtain ⟨b52, g52⟩ : ∃ z, z = h0.size := ⟨_, rfl⟩
  rw [← g52] at A52 st52
  have V52 : Arv Z h52 b52 k52 .byte (4 : Int32) [(.int (0 : Int32)), (.int (0 : Int32)), (.int (0 : Int32)), (.int (0 : Int32))] (.int (0 : Int32)) := (Arv.new A52 (by decide)).pad (pad_rep [] (.int (0 : Int32)) 4)
  have ge52 : n0 ≤ b52 := Nat.le_trans Z0 (Nat.le_of_eq g52.symm)
  have sz52 : h0.size ≤ b52 := Nat.le_trans (Keep.refl h0 []).1 (Nat.le_of_eq g52.symm)
  have K52 : Keep h0 h52 [] := (Keep.refl h0 []).ext E52
  have Z52 : n0 ≤ h52.size := Nat.le_trans Z0 E52.1
  refine own_t1 (.ref b52) 6 st52 ?_
  exact own_retR X52 hx hrt (hb hby d135_6) rfl rfl hlk (by decide) (by decide) e52 (⟨b52, _, rfl, N51, K52, ge52, sz52, V52⟩)

def Q136 (Z : State) (c0 c1 : Int32) (h0 : Heap) (n0 : Nat) (v : Option Value) (h : Heap) (L : List Loc) : Prop := ∃ (b : Addr) (k : ClassId), v = some (.ref b) ∧ Fr n0 L ∧ Keep h0 h [] ∧ n0 ≤ b ∧ h0.size ≤ b ∧ Arv Z h b k .byte (4 : Int32) [(.int (own_b0 c0)), (.int (own_b1 c0)), (.int (own_b0 c1)), (.int (own_b1 c1))] (.int (0 : Int32))

theorem d136_0 : decode jdk_52_method_14_code 0 = .ok (.iload_n 2, 1) := by decide +kernel
theorem d136_1 : decode jdk_52_method_14_code 1 = .ok (.invokestatic 107, 3) := by decide +kernel
theorem d136_4 : decode jdk_52_method_14_code 4 = .ok (.astore_n 3, 1) := by decide +kernel
theorem d136_5 : decode jdk_52_method_14_code 5 = .ok (.iconst 0, 1) := by decide +kernel
theorem d136_6 : decode jdk_52_method_14_code 6 = .ok (.istore 4, 2) := by decide +kernel
theorem d136_8 : decode jdk_52_method_14_code 8 = .ok (.iload 4, 2) := by decide +kernel
theorem d136_10 : decode jdk_52_method_14_code 10 = .ok (.iload_n 2, 1) := by decide +kernel
theorem d136_11 : decode jdk_52_method_14_code 11 = .ok (.if_icmp .ge 21, 3) := by decide +kernel
theorem d136_14 : decode jdk_52_method_14_code 14 = .ok (.aload_n 3, 1) := by decide +kernel
theorem d136_15 : decode jdk_52_method_14_code 15 = .ok (.iload 4, 2) := by decide +kernel
theorem d136_17 : decode jdk_52_method_14_code 17 = .ok (.aload_n 0, 1) := by decide +kernel
theorem d136_18 : decode jdk_52_method_14_code 18 = .ok (.iload_n 1, 1) := by decide +kernel
theorem d136_19 : decode jdk_52_method_14_code 19 = .ok (.caload, 1) := by decide +kernel
theorem d136_20 : decode jdk_52_method_14_code 20 = .ok (.invokestatic 111, 3) := by decide +kernel
theorem d136_23 : decode jdk_52_method_14_code 23 = .ok (.iinc 1 1, 3) := by decide +kernel
theorem d136_26 : decode jdk_52_method_14_code 26 = .ok (.iinc 4 1, 3) := by decide +kernel
theorem d136_29 : decode jdk_52_method_14_code 29 = .ok (.goto (-21), 3) := by decide +kernel
theorem d136_32 : decode jdk_52_method_14_code 32 = .ok (.aload_n 3, 1) := by decide +kernel
theorem d136_33 : decode jdk_52_method_14_code 33 = .ok (.areturn, 1) := by decide +kernel
theorem pn136 : plainName "java/lang/StringUTF16" = true := by first | (simp [plainName, overriddenIn]; done) | decide +kernel
theorem pd136_0 : parseMethodDescriptor "(I)[B" = some ⟨[.int], some (.array .byte)⟩ := by decide +kernel
theorem pd136_1 : parseMethodDescriptor "([BII)V" = some ⟨[(.array .byte), .int, .int], none⟩ := by decide +kernel
theorem ef136 (m : MethodId) (x0 : Addr) (x1 : Int32) (x2 : Int32) : entryFrame m #[(.ref x0), (.int x1), (.int x2)] 5 = mkF m 0 #[.val (.ref x0), .val (.int x1), .val (.int x2), .unset, .unset] [] := by first | (simp [entryFrame, mkF, argsToLocals, Value.category]; done) | rfl
set_option maxRecDepth 65536 in
set_option maxHeartbeats 40000000 in
theorem rm136 (l : Launch) (Z : State) (a0 : Array Value) (hw : ∀ d ∈ tables_1, d.before a0 Z = true) (ws : List Jvm.Cond) (a1 : Addr) (k1 : ClassId) (c0 c1 : Int32) (h0 : Heap) (n0 : Nat) (Z0 : n0 ≤ h0.size) (V1 : Arv Z h0 a1 k1 .char (2 : Int32) [(.int c0), (.int c1)] (.int (0 : Int32))) (G1 : Int32) (US : own_US Z G1) (O0 : Old Z n0 h0) :
    own_Met l (⟨"java/lang/StringUTF16", "toBytes", "([CII)[B"⟩ : MethodName) jdk_52_method_14_code 5 (some (.array .byte)) ws ({ frames := 2, cells := 1, slots := 4, locals := 24 } : Room) Z #[(.ref a1), (.int (0 : Int32)), (.int (2 : Int32))] h0 (Q136 Z c0 c1 h0 n0) := by
  refine own_enter #[.val (.ref a1), .val (.int (0 : Int32)), .val (.int (2 : Int32)), .unset, .unset] (plainFor_of_name pn136) (fun m => ef136 m a1 (0 : Int32) (2 : Int32)) ?_
  intro p e s m below meth c s₁ hx hby hml hown hnm hZ hrt hlk X0 e0
  have N0 := Fr.nil n0
  refine own_tp (.int (2 : Int32)) 1 (fun _ q => XS.iloadN X0.here hx rfl (hb hby d136_0) rfl q) ?_
  obtain ⟨_, _, ⟨T51, L51, k51, n51⟩, -, X51, ⟨Lc51, hQ51, l51, y51, z51⟩, st51⟩ := Jvm.LawKit.callS X0 hx (y := (⟨"java/lang/StringUTF16", "newBytesFor", "(I)[B"⟩ : MethodName)) hown (mvT hZ (hw _ (List.mem_of_getElem? (i := 95) rfl))) (mvT hZ (hw _ (List.mem_of_getElem? (i := 96) rfl))) (mvT hZ (hw _ (List.mem_of_getElem? (i := 77) rfl))) (mvT hZ (hw _ (List.mem_of_getElem? (i := 97) rfl))) (by decide) (backOf (W := 0) (rm135 l Z a0 hw [] h0 n0 Z0) hZ (hw _ (List.mem_of_getElem? (i := 97) rfl)) (hw _ (List.mem_of_getElem? (i := 77) rfl)) (by decide) (by decide)) (g := (mkF m 1 #[.val (.ref a1), .val (.int (0 : Int32)), .val (.int (2 : Int32)), .unset, .unset] [(.int (2 : Int32))])) rfl (by rw [hml]; rfl) (argsL := [(.int (2 : Int32))]) (rest := []) (lenOf pd136_0 rfl) rfl (by show 2 * 0 + _ ≤ _; exact Nat.le_of_eq rfl) (hb hby d136_1) (fun _ _ => ⟨rfl, e0, (by decide : 0 + 1 ≤ _), (by decide : 0 + 4 ≤ _)⟩)
  dsimp only [Pt.U, Pt.locs, Pt.cells, Pt.slots] at X51 l51 y51 z51 st51 hQ51
  subst l51 y51 z51
  obtain ⟨nb51, kn51, rfl, Nq51, Kp51, ge51, sz51, V51⟩ := hQ51
  have ne52 : a1 ≠ nb51 := Nat.ne_of_lt (Nat.lt_of_lt_of_le V1.lt sz51)
  have s0nb51 : h0.size ≤ nb51 := Nat.le_trans (Keep.refl h0 []).1 sz51
  have N51 := Fr.app N0 Nq51
  have O51 := Old.keep O0 Kp51 all0
  have Z51 : n0 ≤ T51.heap.size := Nat.le_trans Z0 Kp51.1
  have K51 : Keep h0 T51.heap [] := Keep.trans (Keep.refl h0 []) Kp51 all0
  refine own_t1 (.ref nb51) 4 st51 ?_
  refine own_ls #[.val (.ref a1), .val (.int (0 : Int32)), .val (.int (2 : Int32)), .val (.ref nb51), .unset] 5 (fun _ q => XS.astoreN X51.here hx rfl (hb hby d136_4) rfl rfl (l' := #[.val (.ref a1), .val (.int (0 : Int32)), .val (.int (2 : Int32)), .val (.ref nb51), .unset]) rfl q) ?_
  refine own_tp (.int (0 : Int32)) 6 (fun _ q => XS.iconst X51.here hx rfl (hb hby d136_5) q) ?_
  refine own_ls #[.val (.ref a1), .val (.int (0 : Int32)), .val (.int (2 : Int32)), .val (.ref nb51), .val (.int (0 : Int32))] 8 (fun _ q => XS.istore X51.here hx rfl (hb hby d136_6) rfl (l' := #[.val (.ref a1), .val (.int (0 : Int32)), .val (.int (2 : Int32)), .val (.ref nb51), .val (.int (0 : Int32))]) rfl q) ?_
  refine own_tp (.int (0 : Int32)) 10 (fun _ q => XS.iload X51.here hx rfl (hb hby d136_8) rfl q) ?_
  refine own_tp (.int (2 : Int32)) 11 (fun _ q => XS.iloadN X51.here hx rfl (hb hby d136_10) rfl q) ?_
  refine own_d2 14 (fun _ q => XS.icmpNo X51.here hx rfl (hb hby d136_11) rfl (tlt (by decide : (0 : Int32) < (2 : Int32))).2.1 q) ?_
  refine own_tp (.ref nb51) 15 (fun _ q => XS.aloadN X51.here hx rfl (hb hby d136_14) rfl rfl q) ?_
  refine own_tp (.int (0 : Int32)) 17 (fun _ q => XS.iload X51.here hx rfl (hb hby d136_15) rfl q) ?_
  refine own_tp (.ref a1) 18 (fun _ q => XS.aloadN X51.here hx rfl (hb hby d136_17) rfl rfl q) ?_
  refine own_tp (.int (0 : Int32)) 19 (fun _ q => XS.iloadN X51.here hx rfl (hb hby d136_18) rfl q) ?_
  have f53 := (V1.keep Kp51 nin0)
  obtain ⟨cl54, Ar54, q54, S54, Nn54, H54, G54⟩ := (id f53)
  have hin54 : ¬ ((0 : Int32) < 0 ∨ cl54.slots.size ≤ ((0 : Int32)).toNatClampNeg) := inb_of S54 ⟨by decide, by decide⟩
  have hat54 : cl54.slots[((0 : Int32)).toNatClampNeg]? = some (.int c0) := H54.at hin54 rfl
  refine own_t2 (.int c0) 20 (fun _ q => X51.caload hx (j := (0 : Int32)) (v := (.int c0)) Ar54.1 (State.isArrayOf_alike hZ.alike Ar54.2.1) Ar54.2.2 hin54 hat54 (g := (mkF m 19 #[.val (.ref a1), .val (.int (0 : Int32)), .val (.int (2 : Int32)), .val (.ref nb51), .val (.int (0 : Int32))] [(.int (0 : Int32)), (.ref a1), (.int (0 : Int32)), (.ref nb51)])) rfl rfl (hb hby d136_19) _ q) ?_
  obtain ⟨_, _, ⟨T55, L55, k55, n55⟩, -, X55, ⟨Lc55, hQ55, l55, y55, z55⟩, st55⟩ := Jvm.LawKit.callS X51 hx (y := (⟨"java/lang/StringUTF16", "putChar", "([BII)V"⟩ : MethodName)) hown (mvT hZ (hw _ (List.mem_of_getElem? (i := 102) rfl))) (mvT hZ (hw _ (List.mem_of_getElem? (i := 103) rfl))) (mvT hZ (hw _ (List.mem_of_getElem? (i := 77) rfl))) (mvT hZ (hw _ (List.mem_of_getElem? (i := 104) rfl))) (by decide) (backOf (W := 0) (rm126 l Z a0 hw [] nb51 kn51 0 c0 [(.int (0 : Int32)), (.int (0 : Int32)), (.int (0 : Int32)), (.int (0 : Int32))] T51.heap n0 Z51 ge51 (by simp) (by simp) V51 G1 US O51) hZ (hw _ (List.mem_of_getElem? (i := 104) rfl)) (hw _ (List.mem_of_getElem? (i := 77) rfl)) (by decide) (by decide)) (g := (mkF m 20 #[.val (.ref a1), .val (.int (0 : Int32)), .val (.int (2 : Int32)), .val (.ref nb51), .val (.int (0 : Int32))] [(.int c0), (.int (0 : Int32)), (.ref nb51)])) rfl (by rw [hml]; rfl) (argsL := [(.ref nb51), (.int (0 : Int32)), (.int c0)]) (rest := []) (lenOf pd136_1 rfl) rfl (by show 2 * 0 + _ ≤ _; exact Nat.le_of_eq rfl) (hb hby d136_20) (fun _ _ => ⟨rfl, rfl, (by decide : 1 + 0 ≤ _), (by decide : 4 + 0 ≤ _)⟩)
  dsimp only [Pt.U, Pt.locs, Pt.cells, Pt.slots] at X55 l55 y55 z55 st55 hQ55
  subst l55 y55 z55
  obtain ⟨rfl, Nq55, Kp55, V55⟩ := hQ55
  have N55 := Fr.app N51 Nq55
  have O55 := Old.keep O51 Kp55 (allS ge51 all0)
  have Z55 : n0 ≤ T55.heap.size := Nat.le_trans Z51 Kp55.1
  have K55 : Keep h0 T55.heap [] := Keep.trans K51 Kp55 (allS (Or.inr s0nb51) all0)
  have V55' : Arv Z T55.heap nb51 kn51 .byte (4 : Int32) [(.int (own_b0 c0)), (.int (own_b1 c0)), (.int (0 : Int32)), (.int (0 : Int32))] (.int (0 : Int32)) := V55
  refine own_cs [] 23 st55 ?_
  refine own_li #[.val (.ref a1), .val (.int (1 : Int32)), .val (.int (2 : Int32)), .val (.ref nb51), .val (.int (0 : Int32))] 26 (fun _ q => XS.iinc X55.here hx rfl (hb hby d136_23) rfl (l' := #[.val (.ref a1), .val (.int (1 : Int32)), .val (.int (2 : Int32)), .val (.ref nb51), .val (.int (0 : Int32))]) rfl q) ?_
  refine own_li #[.val (.ref a1), .val (.int (1 : Int32)), .val (.int (2 : Int32)), .val (.ref nb51), .val (.int (1 : Int32))] 29 (fun _ q => XS.iinc X55.here hx rfl (hb hby d136_26) rfl (l' := #[.val (.ref a1), .val (.int (1 : Int32)), .val (.int (2 : Int32)), .val (.ref nb51), .val (.int (1 : Int32))]) rfl q) ?_
  refine own_d0 8 (fun _ q => XS.goto X55.here hx rfl (pc0 := 29) (pc' := 8) rfl (hb hby d136_29) (by decide) (by decide) q) ?_
  refine own_tp (.int (1 : Int32)) 10 (fun _ q => XS.iload X55.here hx rfl (hb hby d136_8) rfl q) ?_
  refine own_tp (.int (2 : Int32)) 11 (fun _ q => XS.iloadN X55.here hx rfl (hb hby d136_10) rfl q) ?_
  refine own_d2 14 (fun _ q => XS.icmpNo X55.here hx rfl (hb hby d136_11) rfl (tlt (by decide : (1 : Int32) < (2 : Int32))).2.1 q) ?_
  refine own_tp (.ref nb51) 15 (fun _ q => XS.aloadN X55.here hx rfl (hb hby d136_14) rfl rfl q) ?_
  refine own_tp (.int (1 : Int32)) 17 (fun _ q => XS.iload X55.here hx rfl (hb hby d136_15) rfl q) ?_
  refine own_tp (.ref a1) 18 (fun _ q => XS.aloadN X55.here hx rfl (hb hby d136_17) rfl rfl q) ?_
  refine own_tp (.int (1 : Int32)) 19 (fun _ q => XS.iloadN X55.here hx rfl (hb hby d136_18) rfl q) ?_
  have f56 := (f53.keep Kp55 (ninS ne52 nin0))
  obtain ⟨cl57, Ar57, q57, S57, Nn57, H57, G57⟩ := (id f56)
  have hin57 : ¬ ((1 : Int32) < 0 ∨ cl57.slots.size ≤ ((1 : Int32)).toNatClampNeg) := inb_of S57 ⟨by decide, by decide⟩
  have hat57 : cl57.slots[((1 : Int32)).toNatClampNeg]? = some (.int c1) := H57.at hin57 rfl
  refine own_t2 (.int c1) 20 (fun _ q => X55.caload hx (j := (1 : Int32)) (v := (.int c1)) Ar57.1 (State.isArrayOf_alike hZ.alike Ar57.2.1) Ar57.2.2 hin57 hat57 (g := (mkF m 19 #[.val (.ref a1), .val (.int (1 : Int32)), .val (.int (2 : Int32)), .val (.ref nb51), .val (.int (1 : Int32))] [(.int (1 : Int32)), (.ref a1), (.int (1 : Int32)), (.ref nb51)])) rfl rfl (hb hby d136_19) _ q) ?_
  obtain ⟨_, _, ⟨T58, L58, k58, n58⟩, -, X58, ⟨Lc58, hQ58, l58, y58, z58⟩, st58⟩ := Jvm.LawKit.callS X55 hx (y := (⟨"java/lang/StringUTF16", "putChar", "([BII)V"⟩ : MethodName)) hown (mvT hZ (hw _ (List.mem_of_getElem? (i := 102) rfl))) (mvT hZ (hw _ (List.mem_of_getElem? (i := 103) rfl))) (mvT hZ (hw _ (List.mem_of_getElem? (i := 77) rfl))) (mvT hZ (hw _ (List.mem_of_getElem? (i := 104) rfl))) (by decide) (backOf (W := 0) (rm126 l Z a0 hw [] nb51 kn51 1 c1 [(.int (own_b0 c0)), (.int (own_b1 c0)), (.int (0 : Int32)), (.int (0 : Int32))] T55.heap n0 Z55 ge51 (by simp) (by simp) V55' G1 US O55) hZ (hw _ (List.mem_of_getElem? (i := 104) rfl)) (hw _ (List.mem_of_getElem? (i := 77) rfl)) (by decide) (by decide)) (g := (mkF m 20 #[.val (.ref a1), .val (.int (1 : Int32)), .val (.int (2 : Int32)), .val (.ref nb51), .val (.int (1 : Int32))] [(.int c1), (.int (1 : Int32)), (.ref nb51)])) rfl (by rw [hml]; rfl) (argsL := [(.ref nb51), (.int (1 : Int32)), (.int c1)]) (rest := []) (lenOf pd136_1 rfl) rfl (by show 2 * 0 + _ ≤ _; exact Nat.le_of_eq rfl) (hb hby d136_20) (fun _ _ => ⟨rfl, rfl, (by decide : 1 + 0 ≤ _), (by decide : 4 + 0 ≤ _)⟩)
  dsimp only [Pt.U, Pt.locs, Pt.cells, Pt.slots] at X58 l58 y58 z58 st58 hQ58
  subst l58 y58 z58
  obtain ⟨rfl, Nq58, Kp58, V58⟩ := hQ58
  have N58 := Fr.app N55 Nq58
  have O58 := Old.keep O55 Kp58 (allS ge51 all0)
  have Z58 : n0 ≤ T58.heap.size := Nat.le_trans Z55 Kp58.1
  have K58 : Keep h0 T58.heap [] := Keep.trans K55 Kp58 (allS (Or.inr s0nb51) all0)
  have V58' : Arv Z T58.heap nb51 kn51 .byte (4 : Int32) [(.int (own_b0 c0)), (.int (own_b1 c0)), (.int (own_b0 c1)), (.int (own_b1 c1))] (.int (0 : Int32)) := V58
  refine own_cs [] 23 st58 ?_
  refine own_li #[.val (.ref a1), .val (.int (2 : Int32)), .val (.int (2 : Int32)), .val (.ref nb51), .val (.int (1 : Int32))] 26 (fun _ q => XS.iinc X58.here hx rfl (hb hby d136_23) rfl (l' := #[.val (.ref a1), .val (.int (2 : Int32)), .val (.int (2 : Int32)), .val (.ref nb51), .val (.int (1 : Int32))]) rfl q) ?_
  refine own_li #[.val (.ref a1), .val (.int (2 : Int32)), .val (.int (2 : Int32)), .val (.ref nb51), .val (.int (2 : Int32))] 29 (fun _ q => XS.iinc X58.here hx rfl (hb hby d136_26) rfl (l' := #[.val (.ref a1), .val (.int (2 : Int32)), .val (.int (2 : Int32)), .val (.ref nb51), .val (.int (2 : Int32))]) rfl q) ?_
  refine own_d0 8 (fun _ q => XS.goto X58.here hx rfl (pc0 := 29) (pc' := 8) rfl (hb hby d136_29) (by decide) (by decide) q) ?_
  refine own_tp (.int (2 : Int32)) 10 (fun _ q => XS.iload X58.here hx rfl (hb hby d136_8) rfl q) ?_
  refine own_tp (.int (2 : Int32)) 11 (fun _ q => XS.iloadN X58.here hx rfl (hb hby d136_10) rfl q) ?_
  refine own_d2 32 (fun _ q => XS.icmpYes X58.here hx rfl (pc0 := 11) (pc' := 32) rfl (hb hby d136_11) rfl (flt (by decide : ¬ ((2 : Int32) < (2 : Int32)))).2.1 (by decide) (by decide) q) ?_
  refine own_tp (.ref nb51) 33 (fun _ q => XS.aloadN X58.here hx rfl (hb hby d136_32) rfl rfl q) ?_
  exact own_retR X58 hx hrt (hb hby d136_33) rfl rfl hlk (by decide) (by decide) rfl (⟨nb51, _, rfl, N58, K58, ge51, s0nb51, V58'⟩)

def Q137 (Z : State) (c0 c1 : Int32) (h0 : Heap) (n0 : Nat) (v : Option Value) (h : Heap) (L : List Loc) : Prop := ∃ (b : Addr) (k : ClassId), v = some (.ref b) ∧ Fr n0 L ∧ Keep h0 h [] ∧ n0 ≤ b ∧ h0.size ≤ b ∧ (((¬ (255 : Int32) < c0 ∧ ¬ (255 : Int32) < c1) ∧ Arv Z h b k .byte (2 : Int32) [(.int (own_lo c0)), (.int (own_lo c1))] (.int (0 : Int32))) ∨ ((∃ c ∈ ([c0, c1] : List Int32), (255 : Int32) < c) ∧ Arv Z h b k .byte (4 : Int32) [(.int (own_b0 c0)), (.int (own_b1 c0)), (.int (own_b0 c1)), (.int (own_b1 c1))] (.int (0 : Int32))))

theorem d137_0 : decode jdk_52_method_16_code 0 = .ok (.iload_n 2, 1) := by decide +kernel
theorem d137_1 : decode jdk_52_method_16_code 1 = .ok (.newarray .byte, 2) := by decide +kernel
theorem d137_3 : decode jdk_52_method_16_code 3 = .ok (.astore_n 3, 1) := by decide +kernel
theorem d137_4 : decode jdk_52_method_16_code 4 = .ok (.aload_n 0, 1) := by decide +kernel
theorem d137_5 : decode jdk_52_method_16_code 5 = .ok (.iload_n 1, 1) := by decide +kernel
theorem d137_6 : decode jdk_52_method_16_code 6 = .ok (.aload_n 3, 1) := by decide +kernel
theorem d137_7 : decode jdk_52_method_16_code 7 = .ok (.iconst 0, 1) := by decide +kernel
theorem d137_8 : decode jdk_52_method_16_code 8 = .ok (.iload_n 2, 1) := by decide +kernel
theorem d137_9 : decode jdk_52_method_16_code 9 = .ok (.invokestatic 115, 3) := by decide +kernel
theorem d137_12 : decode jdk_52_method_16_code 12 = .ok (.istore 4, 2) := by decide +kernel
theorem d137_14 : decode jdk_52_method_16_code 14 = .ok (.iload 4, 2) := by decide +kernel
theorem d137_16 : decode jdk_52_method_16_code 16 = .ok (.iload_n 2, 1) := by decide +kernel
theorem d137_17 : decode jdk_52_method_16_code 17 = .ok (.if_icmp .eq 40, 3) := by decide +kernel
theorem d137_20 : decode jdk_52_method_16_code 20 = .ok (.aload_n 0, 1) := by decide +kernel
theorem d137_21 : decode jdk_52_method_16_code 21 = .ok (.iload_n 1, 1) := by decide +kernel
theorem d137_22 : decode jdk_52_method_16_code 22 = .ok (.iload_n 2, 1) := by decide +kernel
theorem d137_23 : decode jdk_52_method_16_code 23 = .ok (.invokestatic 119, 3) := by decide +kernel
theorem d137_26 : decode jdk_52_method_16_code 26 = .ok (.astore 5, 2) := by decide +kernel
theorem d137_28 : decode jdk_52_method_16_code 28 = .ok (.aload 5, 2) := by decide +kernel
theorem d137_30 : decode jdk_52_method_16_code 30 = .ok (.iload 4, 2) := by decide +kernel
theorem d137_32 : decode jdk_52_method_16_code 32 = .ok (.invokestatic 71, 3) := by decide +kernel
theorem d137_35 : decode jdk_52_method_16_code 35 = .ok (.sipush 255, 3) := by decide +kernel
theorem d137_38 : decode jdk_52_method_16_code 38 = .ok (.if_icmp .gt 16, 3) := by decide +kernel
theorem d137_54 : decode jdk_52_method_16_code 54 = .ok (.aload 5, 2) := by decide +kernel
theorem d137_56 : decode jdk_52_method_16_code 56 = .ok (.areturn, 1) := by decide +kernel
theorem d137_57 : decode jdk_52_method_16_code 57 = .ok (.aload_n 3, 1) := by decide +kernel
theorem d137_58 : decode jdk_52_method_16_code 58 = .ok (.areturn, 1) := by decide +kernel
theorem pn137 : plainName "java/lang/StringUTF16" = true := by first | (simp [plainName, overriddenIn]; done) | decide +kernel
theorem pd137_0 : parseMethodDescriptor "([CI[BII)I" = some ⟨[(.array .char), .int, (.array .byte), .int, .int], some .int⟩ := by decide +kernel
theorem pd137_1 : parseMethodDescriptor "([CII)[B" = some ⟨[(.array .char), .int, .int], some (.array .byte)⟩ := by decide +kernel
theorem pd137_2 : parseMethodDescriptor "([BI)C" = some ⟨[(.array .byte), .int], some .char⟩ := by decide +kernel
theorem ef137 (m : MethodId) (x0 : Addr) (x1 : Int32) (x2 : Int32) : entryFrame m #[(.ref x0), (.int x1), (.int x2)] 6 = mkF m 0 #[.val (.ref x0), .val (.int x1), .val (.int x2), .unset, .unset, .unset] [] := by first | (simp [entryFrame, mkF, argsToLocals, Value.category]; done) | rfl
set_option maxRecDepth 65536 in
set_option maxHeartbeats 40000000 in
theorem rm137 (l : Launch) (Z : State) (a0 : Array Value) (hw : ∀ d ∈ tables_1, d.before a0 Z = true) (ws : List Jvm.Cond) (a1 : Addr) (k1 : ClassId) (c0 c1 : Int32) (h0 : Heap) (n0 : Nat) (Z0 : n0 ≤ h0.size) (hc0 : 0 ≤ c0.toInt ∧ c0.toInt ≤ 65535) (hc1 : 0 ≤ c1.toInt ∧ c1.toInt ≤ 65535) (V1 : Arv Z h0 a1 k1 .char (2 : Int32) [(.int c0), (.int c1)] (.int (0 : Int32))) (G1 : Int32) (US : own_US Z G1) (O0 : Old Z n0 h0) :
    own_Met l (⟨"java/lang/StringUTF16", "compress", "([CII)[B"⟩ : MethodName) jdk_52_method_16_code 6 (some (.array .byte)) ws ({ frames := 3, cells := 2, slots := 6, locals := 42 } : Room) Z #[(.ref a1), (.int (0 : Int32)), (.int (2 : Int32))] h0 (Q137 Z c0 c1 h0 n0) := by
  refine own_enter #[.val (.ref a1), .val (.int (0 : Int32)), .val (.int (2 : Int32)), .unset, .unset, .unset] (plainFor_of_name pn137) (fun m => ef137 m a1 (0 : Int32) (2 : Int32)) ?_
  intro p e s m below meth c s₁ hx hby hml hown hnm hZ hrt hlk X0 e0
  have N0 := Fr.nil n0
  refine own_tp (.int (2 : Int32)) 1 (fun _ q => XS.iloadN X0.here hx rfl (hb hby d137_0) rfl q) ?_
  obtain ⟨T51, h51, k51, X51, e51, E51, A51, st51⟩ := newP X0 hx hZ (hw _ (List.mem_of_getElem? (i := 24) rfl)) e0 (g := (mkF m 1 #[.val (.ref a1), .val (.int (0 : Int32)), .val (.int (2 : Int32)), .unset, .unset, .unset] [(.int (2 : Int32))])) rfl (hb hby d137_1) rfl (by decide) (cap := 2) (by decide) (by decide) (by decide) (by decide)
  obtain ⟨b51, g51⟩ : ∃ z, z = h0.size := ⟨_, rfl⟩
  rw [← g51] at A51 st51
  have V51 : Arv Z h51 b51 k51 .byte (2 : Int32) [(.int (0 : Int32)), (.int (0 : Int32))] (.int (0 : Int32)) := (Arv.new A51 (by decide)).pad (pad_rep [] (.int (0 : Int32)) 2)
  have ge51 : n0 ≤ b51 := Nat.le_trans Z0 (Nat.le_of_eq g51.symm)
  have sz51 : h0.size ≤ b51 := Nat.le_trans (Keep.refl h0 []).1 (Nat.le_of_eq g51.symm)
  have ne52 : a1 ≠ b51 := Nat.ne_of_lt (Nat.lt_of_lt_of_le V1.lt (Nat.le_of_eq g51.symm))
  have O51 := Old.ext O0 E51
  have K51 : Keep h0 h51 [] := (Keep.refl h0 []).ext E51
  have Z51 : n0 ≤ h51.size := Nat.le_trans Z0 E51.1
  refine own_t1 (.ref b51) 3 st51 ?_
  refine own_ls #[.val (.ref a1), .val (.int (0 : Int32)), .val (.int (2 : Int32)), .val (.ref b51), .unset, .unset] 4 (fun _ q => XS.astoreN X51.here hx rfl (hb hby d137_3) rfl rfl (l' := #[.val (.ref a1), .val (.int (0 : Int32)), .val (.int (2 : Int32)), .val (.ref b51), .unset, .unset]) rfl q) ?_
  refine own_tp (.ref a1) 5 (fun _ q => XS.aloadN X51.here hx rfl (hb hby d137_4) rfl rfl q) ?_
  refine own_tp (.int (0 : Int32)) 6 (fun _ q => XS.iloadN X51.here hx rfl (hb hby d137_5) rfl q) ?_
  refine own_tp (.ref b51) 7 (fun _ q => XS.aloadN X51.here hx rfl (hb hby d137_6) rfl rfl q) ?_
  refine own_tp (.int (0 : Int32)) 8 (fun _ q => XS.iconst X51.here hx rfl (hb hby d137_7) q) ?_
  refine own_tp (.int (2 : Int32)) 9 (fun _ q => XS.iloadN X51.here hx rfl (hb hby d137_8) rfl q) ?_
  have f53 := (V1.ext E51)
  obtain ⟨_, _, ⟨T54, L54, k54, n54⟩, -, X54, ⟨Lc54, hQ54, l54, y54, z54⟩, st54⟩ := Jvm.LawKit.callS X51 hx (y := (⟨"java/lang/StringUTF16", "compress", "([CI[BII)I"⟩ : MethodName)) hown (mvT hZ (hw _ (List.mem_of_getElem? (i := 79) rfl))) (mvT hZ (hw _ (List.mem_of_getElem? (i := 80) rfl))) (mvT hZ (hw _ (List.mem_of_getElem? (i := 77) rfl))) (mvT hZ (hw _ (List.mem_of_getElem? (i := 81) rfl))) (by decide) (backOf (W := 0) (rm133 l Z a0 hw [] a1 b51 k1 k51 c0 c1 h51 n0 Z51 ge51 ne52 f53 V51) hZ (hw _ (List.mem_of_getElem? (i := 81) rfl)) (hw _ (List.mem_of_getElem? (i := 77) rfl)) (by decide) (by decide)) (g := (mkF m 9 #[.val (.ref a1), .val (.int (0 : Int32)), .val (.int (2 : Int32)), .val (.ref b51), .unset, .unset] [(.int (2 : Int32)), (.int (0 : Int32)), (.ref b51), (.int (0 : Int32)), (.ref a1)])) rfl (by rw [hml]; rfl) (argsL := [(.ref a1), (.int (0 : Int32)), (.ref b51), (.int (0 : Int32)), (.int (2 : Int32))]) (rest := []) (lenOf pd137_0 rfl) rfl (by show 2 * 0 + _ ≤ _; exact Nat.le_of_eq rfl) (hb hby d137_9) (fun _ _ => ⟨rfl, e51, (by decide : 1 + 0 ≤ _), (by decide : 2 + 0 ≤ _)⟩)
  dsimp only [Pt.U, Pt.locs, Pt.cells, Pt.slots] at X54 l54 y54 z54 st54 hQ54
  subst l54 y54 z54
  obtain ⟨Nq54, Kp54, hD54⟩ := hQ54
  have N54 := Fr.app N0 Nq54
  have O54 := Old.keep O51 Kp54 (allS ge51 all0)
  have Z54 : n0 ≤ T54.heap.size := Nat.le_trans Z51 Kp54.1
  have K54 : Keep h0 T54.heap [] := Keep.trans K51 Kp54 (allS (Or.inr sz51) all0)
  rcases hD54 with ⟨rfl, hxw⟩ | ⟨rfl, hxw⟩ | ⟨rfl, hxw, VL⟩
  ·
    refine own_cs [(.int (0 : Int32))] 12 st54 ?_
    refine own_ls #[.val (.ref a1), .val (.int (0 : Int32)), .val (.int (2 : Int32)), .val (.ref b51), .val (.int (0 : Int32)), .unset] 14 (fun _ q => XS.istore X54.here hx rfl (hb hby d137_12) rfl (l' := #[.val (.ref a1), .val (.int (0 : Int32)), .val (.int (2 : Int32)), .val (.ref b51), .val (.int (0 : Int32)), .unset]) rfl q) ?_
    refine own_tp (.int (0 : Int32)) 16 (fun _ q => XS.iload X54.here hx rfl (hb hby d137_14) rfl q) ?_
    refine own_tp (.int (2 : Int32)) 17 (fun _ q => XS.iloadN X54.here hx rfl (hb hby d137_16) rfl q) ?_
    refine own_d2 20 (fun _ q => XS.icmpNo X54.here hx rfl (hb hby d137_17) rfl (feq (by decide : ¬ ((0 : Int32) = (2 : Int32)))).1 q) ?_
    refine own_tp (.ref a1) 21 (fun _ q => XS.aloadN X54.here hx rfl (hb hby d137_20) rfl rfl q) ?_
    refine own_tp (.int (0 : Int32)) 22 (fun _ q => XS.iloadN X54.here hx rfl (hb hby d137_21) rfl q) ?_
    refine own_tp (.int (2 : Int32)) 23 (fun _ q => XS.iloadN X54.here hx rfl (hb hby d137_22) rfl q) ?_
    have f55 := (f53.keep Kp54 (ninS ne52 nin0))
    obtain ⟨_, _, ⟨T56, L56, k56, n56⟩, -, X56, ⟨Lc56, hQ56, l56, y56, z56⟩, st56⟩ := Jvm.LawKit.callS X54 hx (y := (⟨"java/lang/StringUTF16", "toBytes", "([CII)[B"⟩ : MethodName)) hown (mvT hZ (hw _ (List.mem_of_getElem? (i := 92) rfl))) (mvT hZ (hw _ (List.mem_of_getElem? (i := 93) rfl))) (mvT hZ (hw _ (List.mem_of_getElem? (i := 77) rfl))) (mvT hZ (hw _ (List.mem_of_getElem? (i := 94) rfl))) (by decide) (backOf (W := 0) (rm136 l Z a0 hw [] a1 k1 c0 c1 T54.heap n0 Z54 f55 G1 US O54) hZ (hw _ (List.mem_of_getElem? (i := 94) rfl)) (hw _ (List.mem_of_getElem? (i := 77) rfl)) (by decide) (by decide)) (g := (mkF m 23 #[.val (.ref a1), .val (.int (0 : Int32)), .val (.int (2 : Int32)), .val (.ref b51), .val (.int (0 : Int32)), .unset] [(.int (2 : Int32)), (.int (0 : Int32)), (.ref a1)])) rfl (by rw [hml]; rfl) (argsL := [(.ref a1), (.int (0 : Int32)), (.int (2 : Int32))]) (rest := []) (lenOf pd137_1 rfl) rfl (by show 2 * 0 + _ ≤ _; exact Nat.le_of_eq rfl) (hb hby d137_23) (fun _ _ => ⟨rfl, rfl, (by decide : 1 + 1 ≤ _), (by decide : 2 + 4 ≤ _)⟩)
    dsimp only [Pt.U, Pt.locs, Pt.cells, Pt.slots] at X56 l56 y56 z56 st56 hQ56
    subst l56 y56 z56
    obtain ⟨ub56, ku56, rfl, Nq56, Kp56, ge56, sz56, V56⟩ := hQ56
    have ne57 : a1 ≠ ub56 := Nat.ne_of_lt (Nat.lt_of_lt_of_le f55.lt sz56)
    have s0ub56 : h0.size ≤ ub56 := Nat.le_trans K54.1 sz56
    have N56 := Fr.app N54 Nq56
    have O56 := Old.keep O54 Kp56 all0
    have Z56 : n0 ≤ T56.heap.size := Nat.le_trans Z54 Kp56.1
    have K56 : Keep h0 T56.heap [] := Keep.trans K54 Kp56 all0
    refine own_cs [(.ref ub56)] 26 st56 ?_
    refine own_ls #[.val (.ref a1), .val (.int (0 : Int32)), .val (.int (2 : Int32)), .val (.ref b51), .val (.int (0 : Int32)), .val (.ref ub56)] 28 (fun _ q => XS.astore X56.here hx rfl (hb hby d137_26) rfl rfl (l' := #[.val (.ref a1), .val (.int (0 : Int32)), .val (.int (2 : Int32)), .val (.ref b51), .val (.int (0 : Int32)), .val (.ref ub56)]) rfl q) ?_
    refine own_tp (.ref ub56) 30 (fun _ q => XS.aload X56.here hx rfl (hb hby d137_28) rfl rfl q) ?_
    refine own_tp (.int (0 : Int32)) 32 (fun _ q => XS.iload X56.here hx rfl (hb hby d137_30) rfl q) ?_
    obtain ⟨_, _, ⟨T58, L58, k58, n58⟩, -, X58, ⟨Lc58, hQ58, l58, y58, z58⟩, st58⟩ := Jvm.LawKit.callS X56 hx (y := (⟨"java/lang/StringUTF16", "getChar", "([BI)C"⟩ : MethodName)) hown (mvT hZ (hw _ (List.mem_of_getElem? (i := 108) rfl))) (mvT hZ (hw _ (List.mem_of_getElem? (i := 109) rfl))) (mvT hZ (hw _ (List.mem_of_getElem? (i := 77) rfl))) (mvT hZ (hw _ (List.mem_of_getElem? (i := 110) rfl))) (by decide) (backOf (W := 0) (rm109 l Z a0 hw [] ub56 ku56 0 [c0, c1] T56.heap n0 (by simp) (by simp) hc0 V56 G1 US O56) hZ (hw _ (List.mem_of_getElem? (i := 110) rfl)) (hw _ (List.mem_of_getElem? (i := 77) rfl)) (by decide) (by decide)) (g := (mkF m 32 #[.val (.ref a1), .val (.int (0 : Int32)), .val (.int (2 : Int32)), .val (.ref b51), .val (.int (0 : Int32)), .val (.ref ub56)] [(.int (0 : Int32)), (.ref ub56)])) rfl (by rw [hml]; rfl) (argsL := [(.ref ub56), (.int (0 : Int32))]) (rest := []) (lenOf pd137_2 rfl) rfl (by show 2 * 0 + _ ≤ _; exact Nat.le_of_eq rfl) (hb hby d137_32) (fun _ _ => ⟨rfl, rfl, (by decide : 2 + 0 ≤ _), (by decide : 6 + 0 ≤ _)⟩)
    dsimp only [Pt.U, Pt.locs, Pt.cells, Pt.slots] at X58 l58 y58 z58 st58 hQ58
    subst l58 y58 z58
    obtain ⟨rfl, Nq58, eq58⟩ := hQ58
    have N58 := Fr.app N56 Nq58
    refine own_t2 (.int c0) 35 st58 ?_
    refine own_tp (.int (255 : Int32)) 38 (fun _ q => XS.sipush X58.here hx rfl (hb hby d137_35) q) ?_
    refine own_d2 54 (fun _ q => XS.icmpYes X58.here hx rfl (pc0 := 38) (pc' := 54) rfl (hb hby d137_38) rfl (tlt hxw).2.2.1 (by decide) (by decide) q) ?_
    refine own_tp (.ref ub56) 56 (fun _ q => XS.aload X58.here hx rfl (hb hby d137_54) rfl rfl q) ?_
    exact own_retR X58 hx hrt (hb hby d137_56) rfl rfl hlk (by decide) (by decide) eq58 (⟨ub56, _, rfl, N58, K56, ge56, s0ub56, Or.inr ⟨⟨c0, by simp, hxw⟩, V56⟩⟩)
  ·
    refine own_cs [(.int (1 : Int32))] 12 st54 ?_
    refine own_ls #[.val (.ref a1), .val (.int (0 : Int32)), .val (.int (2 : Int32)), .val (.ref b51), .val (.int (1 : Int32)), .unset] 14 (fun _ q => XS.istore X54.here hx rfl (hb hby d137_12) rfl (l' := #[.val (.ref a1), .val (.int (0 : Int32)), .val (.int (2 : Int32)), .val (.ref b51), .val (.int (1 : Int32)), .unset]) rfl q) ?_
    refine own_tp (.int (1 : Int32)) 16 (fun _ q => XS.iload X54.here hx rfl (hb hby d137_14) rfl q) ?_
    refine own_tp (.int (2 : Int32)) 17 (fun _ q => XS.iloadN X54.here hx rfl (hb hby d137_16) rfl q) ?_
    refine own_d2 20 (fun _ q => XS.icmpNo X54.here hx rfl (hb hby d137_17) rfl (feq (by decide : ¬ ((1 : Int32) = (2 : Int32)))).1 q) ?_
    refine own_tp (.ref a1) 21 (fun _ q => XS.aloadN X54.here hx rfl (hb hby d137_20) rfl rfl q) ?_
    refine own_tp (.int (0 : Int32)) 22 (fun _ q => XS.iloadN X54.here hx rfl (hb hby d137_21) rfl q) ?_
    refine own_tp (.int (2 : Int32)) 23 (fun _ q => XS.iloadN X54.here hx rfl (hb hby d137_22) rfl q) ?_
    have f59 := (f53.keep Kp54 (ninS ne52 nin0))
    obtain ⟨_, _, ⟨T60, L60, k60, n60⟩, -, X60, ⟨Lc60, hQ60, l60, y60, z60⟩, st60⟩ := Jvm.LawKit.callS X54 hx (y := (⟨"java/lang/StringUTF16", "toBytes", "([CII)[B"⟩ : MethodName)) hown (mvT hZ (hw _ (List.mem_of_getElem? (i := 92) rfl))) (mvT hZ (hw _ (List.mem_of_getElem? (i := 93) rfl))) (mvT hZ (hw _ (List.mem_of_getElem? (i := 77) rfl))) (mvT hZ (hw _ (List.mem_of_getElem? (i := 94) rfl))) (by decide) (backOf (W := 0) (rm136 l Z a0 hw [] a1 k1 c0 c1 T54.heap n0 Z54 f59 G1 US O54) hZ (hw _ (List.mem_of_getElem? (i := 94) rfl)) (hw _ (List.mem_of_getElem? (i := 77) rfl)) (by decide) (by decide)) (g := (mkF m 23 #[.val (.ref a1), .val (.int (0 : Int32)), .val (.int (2 : Int32)), .val (.ref b51), .val (.int (1 : Int32)), .unset] [(.int (2 : Int32)), (.int (0 : Int32)), (.ref a1)])) rfl (by rw [hml]; rfl) (argsL := [(.ref a1), (.int (0 : Int32)), (.int (2 : Int32))]) (rest := []) (lenOf pd137_1 rfl) rfl (by show 2 * 0 + _ ≤ _; exact Nat.le_of_eq rfl) (hb hby d137_23) (fun _ _ => ⟨rfl, rfl, (by decide : 1 + 1 ≤ _), (by decide : 2 + 4 ≤ _)⟩)
    dsimp only [Pt.U, Pt.locs, Pt.cells, Pt.slots] at X60 l60 y60 z60 st60 hQ60
    subst l60 y60 z60
    obtain ⟨ub60, ku60, rfl, Nq60, Kp60, ge60, sz60, V60⟩ := hQ60
    have ne61 : a1 ≠ ub60 := Nat.ne_of_lt (Nat.lt_of_lt_of_le f59.lt sz60)
    have s0ub60 : h0.size ≤ ub60 := Nat.le_trans K54.1 sz60
    have N60 := Fr.app N54 Nq60
    have O60 := Old.keep O54 Kp60 all0
    have Z60 : n0 ≤ T60.heap.size := Nat.le_trans Z54 Kp60.1
    have K60 : Keep h0 T60.heap [] := Keep.trans K54 Kp60 all0
    refine own_cs [(.ref ub60)] 26 st60 ?_
    refine own_ls #[.val (.ref a1), .val (.int (0 : Int32)), .val (.int (2 : Int32)), .val (.ref b51), .val (.int (1 : Int32)), .val (.ref ub60)] 28 (fun _ q => XS.astore X60.here hx rfl (hb hby d137_26) rfl rfl (l' := #[.val (.ref a1), .val (.int (0 : Int32)), .val (.int (2 : Int32)), .val (.ref b51), .val (.int (1 : Int32)), .val (.ref ub60)]) rfl q) ?_
    refine own_tp (.ref ub60) 30 (fun _ q => XS.aload X60.here hx rfl (hb hby d137_28) rfl rfl q) ?_
    refine own_tp (.int (1 : Int32)) 32 (fun _ q => XS.iload X60.here hx rfl (hb hby d137_30) rfl q) ?_
    obtain ⟨_, _, ⟨T62, L62, k62, n62⟩, -, X62, ⟨Lc62, hQ62, l62, y62, z62⟩, st62⟩ := Jvm.LawKit.callS X60 hx (y := (⟨"java/lang/StringUTF16", "getChar", "([BI)C"⟩ : MethodName)) hown (mvT hZ (hw _ (List.mem_of_getElem? (i := 108) rfl))) (mvT hZ (hw _ (List.mem_of_getElem? (i := 109) rfl))) (mvT hZ (hw _ (List.mem_of_getElem? (i := 77) rfl))) (mvT hZ (hw _ (List.mem_of_getElem? (i := 110) rfl))) (by decide) (backOf (W := 0) (rm109 l Z a0 hw [] ub60 ku60 1 [c0, c1] T60.heap n0 (by simp) (by simp) hc1 V60 G1 US O60) hZ (hw _ (List.mem_of_getElem? (i := 110) rfl)) (hw _ (List.mem_of_getElem? (i := 77) rfl)) (by decide) (by decide)) (g := (mkF m 32 #[.val (.ref a1), .val (.int (0 : Int32)), .val (.int (2 : Int32)), .val (.ref b51), .val (.int (1 : Int32)), .val (.ref ub60)] [(.int (1 : Int32)), (.ref ub60)])) rfl (by rw [hml]; rfl) (argsL := [(.ref ub60), (.int (1 : Int32))]) (rest := []) (lenOf pd137_2 rfl) rfl (by show 2 * 0 + _ ≤ _; exact Nat.le_of_eq rfl) (hb hby d137_32) (fun _ _ => ⟨rfl, rfl, (by decide : 2 + 0 ≤ _), (by decide : 6 + 0 ≤ _)⟩)
    dsimp only [Pt.U, Pt.locs, Pt.cells, Pt.slots] at X62 l62 y62 z62 st62 hQ62
    subst l62 y62 z62
    obtain ⟨rfl, Nq62, eq62⟩ := hQ62
    have N62 := Fr.app N60 Nq62
    refine own_t2 (.int c1) 35 st62 ?_
    refine own_tp (.int (255 : Int32)) 38 (fun _ q => XS.sipush X62.here hx rfl (hb hby d137_35) q) ?_
    refine own_d2 54 (fun _ q => XS.icmpYes X62.here hx rfl (pc0 := 38) (pc' := 54) rfl (hb hby d137_38) rfl (tlt hxw).2.2.1 (by decide) (by decide) q) ?_
    refine own_tp (.ref ub60) 56 (fun _ q => XS.aload X62.here hx rfl (hb hby d137_54) rfl rfl q) ?_
    exact own_retR X62 hx hrt (hb hby d137_56) rfl rfl hlk (by decide) (by decide) eq62 (⟨ub60, _, rfl, N62, K60, ge60, s0ub60, Or.inr ⟨⟨c1, by simp, hxw⟩, V60⟩⟩)
  ·
    refine own_cs [(.int (2 : Int32))] 12 st54 ?_
    refine own_ls #[.val (.ref a1), .val (.int (0 : Int32)), .val (.int (2 : Int32)), .val (.ref b51), .val (.int (2 : Int32)), .unset] 14 (fun _ q => XS.istore X54.here hx rfl (hb hby d137_12) rfl (l' := #[.val (.ref a1), .val (.int (0 : Int32)), .val (.int (2 : Int32)), .val (.ref b51), .val (.int (2 : Int32)), .unset]) rfl q) ?_
    refine own_tp (.int (2 : Int32)) 16 (fun _ q => XS.iload X54.here hx rfl (hb hby d137_14) rfl q) ?_
    refine own_tp (.int (2 : Int32)) 17 (fun _ q => XS.iloadN X54.here hx rfl (hb hby d137_16) rfl q) ?_
    refine own_d2 57 (fun _ q => XS.icmpYes X54.here hx rfl (pc0 := 17) (pc' := 57) rfl (hb hby d137_17) rfl (teq (by decide : (2 : Int32) = (2 : Int32))).1 (by decide) (by decide) q) ?_
    refine own_tp (.ref b51) 58 (fun _ q => XS.aloadN X54.here hx rfl (hb hby d137_57) rfl rfl q) ?_
    exact own_retR X54 hx hrt (hb hby d137_58) rfl rfl hlk (by decide) (by decide) rfl (⟨b51, _, rfl, N54, K54, ge51, sz51, Or.inl ⟨hxw, VL⟩⟩)

def Q138  (h0 : Heap) (n0 : Nat) (v : Option Value) (h : Heap) (L : List Loc) : Prop := v = some (.int (0 : Int32)) ∧ Fr n0 L ∧ h = h0

theorem d138_0 : decode jdk_52_method_15_code 0 = .ok (.iload_n 1, 1) := by decide +kernel
theorem d138_1 : decode jdk_52_method_15_code 1 = .ok (.aload_n 0, 1) := by decide +kernel
theorem d138_2 : decode jdk_52_method_15_code 2 = .ok (.arraylength, 1) := by decide +kernel
theorem d138_3 : decode jdk_52_method_15_code 3 = .ok (.isub, 1) := by decide +kernel
theorem d138_4 : decode jdk_52_method_15_code 4 = .ok (.bipush 31, 2) := by decide +kernel
theorem d138_6 : decode jdk_52_method_15_code 6 = .ok (.iushr, 1) := by decide +kernel
theorem d138_7 : decode jdk_52_method_15_code 7 = .ok (.i2b, 1) := by decide +kernel
theorem d138_8 : decode jdk_52_method_15_code 8 = .ok (.ireturn, 1) := by decide +kernel
theorem pn138 : plainName "java/lang/StringUTF16" = true := by first | (simp [plainName, overriddenIn]; done) | decide +kernel
theorem ef138 (m : MethodId) (x0 : Addr) (x1 : Int32) : entryFrame m #[(.ref x0), (.int x1)] 2 = mkF m 0 #[.val (.ref x0), .val (.int x1)] [] := by first | (simp [entryFrame, mkF, argsToLocals, Value.category]; done) | rfl
set_option maxRecDepth 65536 in
set_option maxHeartbeats 40000000 in
theorem rm138 (l : Launch) (Z : State) (a0 : Array Value) (hw : ∀ d ∈ tables_1, d.before a0 Z = true) (ws : List Jvm.Cond) (b1 : Addr) (k1 : ClassId) (vs1 : List Value) (h0 : Heap) (n0 : Nat) (V1 : Arv Z h0 b1 k1 .byte (2 : Int32) vs1 (.int (0 : Int32))) :
    own_Met l (⟨"java/lang/StringUTF16", "coderFromArrayLen", "([BI)B"⟩ : MethodName) jdk_52_method_15_code 2 (some .byte) ws ({ frames := 0, cells := 0, slots := 0, locals := 0 } : Room) Z #[(.ref b1), (.int (2 : Int32))] h0 (Q138 h0 n0) := by
  refine own_enter #[.val (.ref b1), .val (.int (2 : Int32))] (plainFor_of_name pn138) (fun m => ef138 m b1 (2 : Int32)) ?_
  intro p e s m below meth c s₁ hx hby hml hown hnm hZ hrt hlk X0 e0
  have N0 := Fr.nil n0
  refine own_tp (.int (2 : Int32)) 1 (fun _ q => XS.iloadN X0.here hx rfl (hb hby d138_0) rfl q) ?_
  refine own_tp (.ref b1) 2 (fun _ q => XS.aloadN X0.here hx rfl (hb hby d138_1) rfl rfl q) ?_
  obtain ⟨cl51, Ar51, -, Sz51, Nn51, -, -⟩ := (id V1)
  refine own_t1 (.int (2 : Int32)) 3 (fun t q => X0.arraylength hx (by rw [e0]; exact Ar51.1) (State.isArrayOf_alike hZ.alike Ar51.2.1) (g := (mkF m 2 #[.val (.ref b1), .val (.int (2 : Int32))] [(.ref b1), (.int (2 : Int32))])) rfl rfl (hb hby d138_2) _ (by rw [len_of Sz51 Nn51]; exact q)) ?_
  refine own_t2 (.int (0 : Int32)) 4 (fun _ q => XS.isub X0.here hx rfl (hb hby d138_3) rfl q) ?_
  refine own_tp (.int (31 : Int32)) 6 (fun _ q => XS.bipush X0.here hx rfl (hb hby d138_4) q) ?_
  refine own_d1 7 (fun _ q => XS.iushr X0.here hx rfl (hb hby d138_6) rfl q) ?_
  refine own_d0 8 (fun _ q => XS.i2b X0.here hx rfl (hb hby d138_7) rfl q) ?_
  exact own_retN (t := .byte) X0 hx hrt (hb hby d138_8) (by simp) hlk (by decide) (by decide) e0 (⟨rfl, N0, rfl⟩)

def Q139  (h0 : Heap) (n0 : Nat) (v : Option Value) (h : Heap) (L : List Loc) : Prop := v = some (.int (1 : Int32)) ∧ Fr n0 L ∧ h = h0

theorem d139_0 : decode jdk_52_method_15_code 0 = .ok (.iload_n 1, 1) := by decide +kernel
theorem d139_1 : decode jdk_52_method_15_code 1 = .ok (.aload_n 0, 1) := by decide +kernel
theorem d139_2 : decode jdk_52_method_15_code 2 = .ok (.arraylength, 1) := by decide +kernel
theorem d139_3 : decode jdk_52_method_15_code 3 = .ok (.isub, 1) := by decide +kernel
theorem d139_4 : decode jdk_52_method_15_code 4 = .ok (.bipush 31, 2) := by decide +kernel
theorem d139_6 : decode jdk_52_method_15_code 6 = .ok (.iushr, 1) := by decide +kernel
theorem d139_7 : decode jdk_52_method_15_code 7 = .ok (.i2b, 1) := by decide +kernel
theorem d139_8 : decode jdk_52_method_15_code 8 = .ok (.ireturn, 1) := by decide +kernel
theorem pn139 : plainName "java/lang/StringUTF16" = true := by first | (simp [plainName, overriddenIn]; done) | decide +kernel
theorem ef139 (m : MethodId) (x0 : Addr) (x1 : Int32) : entryFrame m #[(.ref x0), (.int x1)] 2 = mkF m 0 #[.val (.ref x0), .val (.int x1)] [] := by first | (simp [entryFrame, mkF, argsToLocals, Value.category]; done) | rfl
set_option maxRecDepth 65536 in
set_option maxHeartbeats 40000000 in
theorem rm139 (l : Launch) (Z : State) (a0 : Array Value) (hw : ∀ d ∈ tables_1, d.before a0 Z = true) (ws : List Jvm.Cond) (b1 : Addr) (k1 : ClassId) (vs1 : List Value) (h0 : Heap) (n0 : Nat) (V1 : Arv Z h0 b1 k1 .byte (4 : Int32) vs1 (.int (0 : Int32))) :
    own_Met l (⟨"java/lang/StringUTF16", "coderFromArrayLen", "([BI)B"⟩ : MethodName) jdk_52_method_15_code 2 (some .byte) ws ({ frames := 0, cells := 0, slots := 0, locals := 0 } : Room) Z #[(.ref b1), (.int (2 : Int32))] h0 (Q139 h0 n0) := by
  refine own_enter #[.val (.ref b1), .val (.int (2 : Int32))] (plainFor_of_name pn139) (fun m => ef139 m b1 (2 : Int32)) ?_
  intro p e s m below meth c s₁ hx hby hml hown hnm hZ hrt hlk X0 e0
  have N0 := Fr.nil n0
  refine own_tp (.int (2 : Int32)) 1 (fun _ q => XS.iloadN X0.here hx rfl (hb hby d139_0) rfl q) ?_
  refine own_tp (.ref b1) 2 (fun _ q => XS.aloadN X0.here hx rfl (hb hby d139_1) rfl rfl q) ?_
  obtain ⟨cl51, Ar51, -, Sz51, Nn51, -, -⟩ := (id V1)
  refine own_t1 (.int (4 : Int32)) 3 (fun t q => X0.arraylength hx (by rw [e0]; exact Ar51.1) (State.isArrayOf_alike hZ.alike Ar51.2.1) (g := (mkF m 2 #[.val (.ref b1), .val (.int (2 : Int32))] [(.ref b1), (.int (2 : Int32))])) rfl rfl (hb hby d139_2) _ (by rw [len_of Sz51 Nn51]; exact q)) ?_
  refine own_t2 (.int (-2 : Int32)) 4 (fun _ q => XS.isub X0.here hx rfl (hb hby d139_3) rfl q) ?_
  refine own_tp (.int (31 : Int32)) 6 (fun _ q => XS.bipush X0.here hx rfl (hb hby d139_4) q) ?_
  refine own_t2 (.int (1 : Int32)) 7 (fun _ q => XS.iushr X0.here hx rfl (hb hby d139_6) rfl q) ?_
  refine own_d0 8 (fun _ q => XS.i2b X0.here hx rfl (hb hby d139_7) rfl q) ?_
  exact own_retN (t := .byte) X0 hx hrt (hb hby d139_8) (by simp) hlk (by decide) (by decide) e0 (⟨rfl, N0, rfl⟩)

theorem own_all2 {c0 c1 : Int32} (h : ¬ (255 : Int32) < c0 ∧ ¬ (255 : Int32) < c1) : ∀ c ∈ ([c0, c1] : List Int32), ¬ (255 : Int32) < c := by
  intro c hc
  simp only [List.mem_cons, List.not_mem_nil, or_false] at hc
  rcases hc with rfl | rfl
  · exact h.1
  · exact h.2

def Q140 (Z : State) (x1 : Addr) (c0 c1 : Int32) (h0 : Heap) (n0 : Nat) (v : Option Value) (h : Heap) (L : List Loc) : Prop := v = none ∧ Fr n0 L ∧ Keep h0 h [x1] ∧ ∃ (t : Addr) (kb : ClassId) (cd N : Int32) (vs : List Value), n0 ≤ t ∧ h0.size ≤ t ∧ Exa Z h x1 "java/lang/String" ∧ Fld Z h x1 "java/lang/String" "value" "[B" (.ref t) ∧ Fld Z h x1 "java/lang/String" "coder" "B" (.int cd) ∧ Arv Z h t kb .byte N vs (.int (0 : Int32)) ∧ own_Cod ([c0, c1] : List Int32) cd N vs

theorem d140_0 : decode jdk_42_method_149_code 0 = .ok (.aload_n 0, 1) := by decide +kernel
theorem d140_1 : decode jdk_42_method_149_code 1 = .ok (.invokespecial 1, 3) := by decide +kernel
theorem d140_4 : decode jdk_42_method_149_code 4 = .ok (.iload_n 3, 1) := by decide +kernel
theorem d140_5 : decode jdk_42_method_149_code 5 = .ok (.ifCond .ne 22, 3) := by decide +kernel
theorem d140_27 : decode jdk_42_method_149_code 27 = .ok (.getstatic 38, 3) := by decide +kernel
theorem d140_30 : decode jdk_42_method_149_code 30 = .ok (.ifCond .eq 28, 3) := by decide +kernel
theorem d140_33 : decode jdk_42_method_149_code 33 = .ok (.aload_n 1, 1) := by decide +kernel
theorem d140_34 : decode jdk_42_method_149_code 34 = .ok (.iload_n 2, 1) := by decide +kernel
theorem d140_35 : decode jdk_42_method_149_code 35 = .ok (.iload_n 3, 1) := by decide +kernel
theorem d140_36 : decode jdk_42_method_149_code 36 = .ok (.invokestatic 177, 3) := by decide +kernel
theorem d140_39 : decode jdk_42_method_149_code 39 = .ok (.astore 5, 2) := by decide +kernel
theorem d140_41 : decode jdk_42_method_149_code 41 = .ok (.aload_n 0, 1) := by decide +kernel
theorem d140_42 : decode jdk_42_method_149_code 42 = .ok (.aload 5, 2) := by decide +kernel
theorem d140_44 : decode jdk_42_method_149_code 44 = .ok (.iload_n 3, 1) := by decide +kernel
theorem d140_45 : decode jdk_42_method_149_code 45 = .ok (.invokestatic 47, 3) := by decide +kernel
theorem d140_48 : decode jdk_42_method_149_code 48 = .ok (.putfield 15, 3) := by decide +kernel
theorem d140_51 : decode jdk_42_method_149_code 51 = .ok (.aload_n 0, 1) := by decide +kernel
theorem d140_52 : decode jdk_42_method_149_code 52 = .ok (.aload 5, 2) := by decide +kernel
theorem d140_54 : decode jdk_42_method_149_code 54 = .ok (.putfield 9, 3) := by decide +kernel
theorem d140_57 : decode jdk_42_method_149_code 57 = .ok (.return_, 1) := by decide +kernel
theorem pn140 : plainName "java/lang/String" = true := by first | (simp [plainName, overriddenIn]; done) | decide +kernel
theorem pd140_0 : parseMethodDescriptor "([CII)[B" = some ⟨[(.array .char), .int, .int], some (.array .byte)⟩ := by decide +kernel
theorem pd140_1 : parseMethodDescriptor "([BI)B" = some ⟨[(.array .byte), .int], some .byte⟩ := by decide +kernel
theorem ef140 (m : MethodId) (x0 : Addr) (x1 : Addr) (x2 : Int32) (x3 : Int32) : entryFrame m #[(.ref x0), (.ref x1), (.int x2), (.int x3), .null] 6 = mkF m 0 #[.val (.ref x0), .val (.ref x1), .val (.int x2), .val (.int x3), .val .null, .unset] [] := by first | (simp [entryFrame, mkF, argsToLocals, Value.category]; done) | rfl
set_option maxRecDepth 65536 in
set_option maxHeartbeats 40000000 in
theorem rm140 (l : Launch) (Z : State) (a0 : Array Value) (hw : ∀ d ∈ tables_1, d.before a0 Z = true) (ws : List Jvm.Cond) (x1 a1 : Addr) (k1 : ClassId) (c0 c1 : Int32) (u1 u2 : Value) (h0 : Heap) (n0 : Nat) (Z0 : n0 ≤ h0.size) (g1 : n0 ≤ x1) (hxa : x1 ≠ a1) (hc0 : 0 ≤ c0.toInt ∧ c0.toInt ≤ 65535) (hc1 : 0 ≤ c1.toInt ∧ c1.toInt ≤ 65535) (V1 : Arv Z h0 a1 k1 .char (2 : Int32) [(.int c0), (.int c1)] (.int (0 : Int32))) (E1 : Exa Z h0 x1 "java/lang/String") (F1 : Fld Z h0 x1 "java/lang/String" "value" "[B" u1) (F2 : Fld Z h0 x1 "java/lang/String" "coder" "B" u2) (G1 : Int32) (US : own_US Z G1) (O0 : Old Z n0 h0) :
    own_Met l (⟨"java/lang/String", "<init>", "([CIILjava/lang/Void;)V"⟩ : MethodName) jdk_42_method_149_code 6 none ws ({ frames := 4, cells := 2, slots := 6, locals := 61 } : Room) Z #[(.ref x1), (.ref a1), (.int (0 : Int32)), (.int (2 : Int32)), .null] h0 (Q140 Z x1 c0 c1 h0 n0) := by
  refine own_enter #[.val (.ref x1), .val (.ref a1), .val (.int (0 : Int32)), .val (.int (2 : Int32)), .val .null, .unset] (plainFor_of_name pn140) (fun m => ef140 m x1 a1 (0 : Int32) (2 : Int32)) ?_
  intro p e s m below meth c s₁ hx hby hml hown hnm hZ hrt hlk X0 e0
  have N0 := Fr.nil n0
  refine own_tp (.ref x1) 1 (fun _ q => XS.aloadN X0.here hx rfl (hb hby d140_0) rfl rfl q) ?_
  obtain ⟨T51, X51, e51, st51⟩ := initO X0 hx hZ hown (hw _ (List.mem_of_getElem? (i := 20) rfl)) (hw _ (List.mem_of_getElem? (i := 21) rfl)) (hw _ (List.mem_of_getElem? (i := 22) rfl)) e0 (g := (mkF m 1 #[.val (.ref x1), .val (.ref a1), .val (.int (0 : Int32)), .val (.int (2 : Int32)), .val .null, .unset] [(.ref x1)])) rfl (by rw [hml]; rfl) rfl (hb hby d140_1) (by decide) (W := 0) (by show 2 * 0 + _ ≤ _; exact Nat.le_of_eq rfl) (by decide)
  refine own_d1 4 st51 ?_
  refine own_tp (.int (2 : Int32)) 5 (fun _ q => XS.iloadN X51.here hx rfl (hb hby d140_4) rfl q) ?_
  refine own_d1 27 (fun _ q => XS.ifYes X51.here hx rfl (pc0 := 5) (pc' := 27) rfl (hb hby d140_5) rfl ((if0 _ _).trans (feq (by decide : ¬ ((2 : Int32) = (0 : Int32)))).2) (by decide) (by decide) q) ?_
  obtain ⟨T52, X52, e52, st52⟩ := getS2 X51 hx hZ hown (host := "") (Or.inl (hw _ (List.mem_of_getElem? (i := 50) rfl))) Via.refl e51 (US.2.1.ext O0.2) (g := (mkF m 27 #[.val (.ref x1), .val (.ref a1), .val (.int (0 : Int32)), .val (.int (2 : Int32)), .val .null, .unset] [])) rfl (hb hby d140_27)
  refine own_tp (.int G1) 30 st52 ?_
  refine own_d1 33 (fun _ q => XS.ifNo X52.here hx rfl (hb hby d140_30) rfl ((if0 _ _).trans (feq US.1).1) q) ?_
  refine own_tp (.ref a1) 34 (fun _ q => XS.aloadN X52.here hx rfl (hb hby d140_33) rfl rfl q) ?_
  refine own_tp (.int (0 : Int32)) 35 (fun _ q => XS.iloadN X52.here hx rfl (hb hby d140_34) rfl q) ?_
  refine own_tp (.int (2 : Int32)) 36 (fun _ q => XS.iloadN X52.here hx rfl (hb hby d140_35) rfl q) ?_
  obtain ⟨_, _, ⟨T53, L53, k53, n53⟩, -, X53, ⟨Lc53, hQ53, l53, y53, z53⟩, st53⟩ := Jvm.LawKit.callS X52 hx (y := (⟨"java/lang/StringUTF16", "compress", "([CII)[B"⟩ : MethodName)) hown (mvT hZ (hw _ (List.mem_of_getElem? (i := 75) rfl))) (mvT hZ (hw _ (List.mem_of_getElem? (i := 76) rfl))) (mvT hZ (hw _ (List.mem_of_getElem? (i := 77) rfl))) (mvT hZ (hw _ (List.mem_of_getElem? (i := 78) rfl))) (by decide) (backOf (W := 0) (rm137 l Z a0 hw [] a1 k1 c0 c1 h0 n0 Z0 hc0 hc1 V1 G1 US O0) hZ (hw _ (List.mem_of_getElem? (i := 78) rfl)) (hw _ (List.mem_of_getElem? (i := 77) rfl)) (by decide) (by decide)) (g := (mkF m 36 #[.val (.ref x1), .val (.ref a1), .val (.int (0 : Int32)), .val (.int (2 : Int32)), .val .null, .unset] [(.int (2 : Int32)), (.int (0 : Int32)), (.ref a1)])) rfl (by rw [hml]; rfl) (argsL := [(.ref a1), (.int (0 : Int32)), (.int (2 : Int32))]) (rest := []) (lenOf pd140_0 rfl) rfl (by show 2 * 0 + _ ≤ _; exact Nat.le_of_eq rfl) (hb hby d140_36) (fun _ _ => ⟨rfl, e52, (by decide : 0 + 2 ≤ _), (by decide : 0 + 6 ≤ _)⟩)
  dsimp only [Pt.U, Pt.locs, Pt.cells, Pt.slots] at X53 l53 y53 z53 st53 hQ53
  subst l53 y53 z53
  obtain ⟨vb53, kv53, rfl, Nq53, Kp53, ge53, sz53, hD53⟩ := hQ53
  have ne54 : a1 ≠ vb53 := Nat.ne_of_lt (Nat.lt_of_lt_of_le V1.lt sz53)
  have ne55 : x1 ≠ vb53 := Nat.ne_of_lt (Nat.lt_of_lt_of_le E1.lt sz53)
  have s0vb53 : h0.size ≤ vb53 := Nat.le_trans (Keep.refl h0 [x1]).1 sz53
  have N53 := Fr.app N0 Nq53
  have O53 := Old.keep O0 Kp53 all0
  have Z53 : n0 ≤ T53.heap.size := Nat.le_trans Z0 Kp53.1
  have K53 : Keep h0 T53.heap [x1] := Keep.trans (Keep.refl h0 [x1]) Kp53 all0
  refine own_cs [(.ref vb53)] 39 st53 ?_
  rcases hD53 with ⟨hxw, VL⟩ | ⟨hxw, VL⟩
  ·
    refine own_ls #[.val (.ref x1), .val (.ref a1), .val (.int (0 : Int32)), .val (.int (2 : Int32)), .val .null, .val (.ref vb53)] 41 (fun _ q => XS.astore X53.here hx rfl (hb hby d140_39) rfl rfl (l' := #[.val (.ref x1), .val (.ref a1), .val (.int (0 : Int32)), .val (.int (2 : Int32)), .val .null, .val (.ref vb53)]) rfl q) ?_
    refine own_tp (.ref x1) 42 (fun _ q => XS.aloadN X53.here hx rfl (hb hby d140_41) rfl rfl q) ?_
    refine own_tp (.ref vb53) 44 (fun _ q => XS.aload X53.here hx rfl (hb hby d140_42) rfl rfl q) ?_
    refine own_tp (.int (2 : Int32)) 45 (fun _ q => XS.iloadN X53.here hx rfl (hb hby d140_44) rfl q) ?_
    obtain ⟨_, _, ⟨T56, L56, k56, n56⟩, -, X56, ⟨Lc56, hQ56, l56, y56, z56⟩, st56⟩ := Jvm.LawKit.callS X53 hx (y := (⟨"java/lang/StringUTF16", "coderFromArrayLen", "([BI)B"⟩ : MethodName)) hown (mvT hZ (hw _ (List.mem_of_getElem? (i := 82) rfl))) (mvT hZ (hw _ (List.mem_of_getElem? (i := 83) rfl))) (mvT hZ (hw _ (List.mem_of_getElem? (i := 77) rfl))) (mvT hZ (hw _ (List.mem_of_getElem? (i := 84) rfl))) (by decide) (backOf (W := 1) (rm138 l Z a0 hw [] vb53 _ _ T53.heap n0 VL) hZ (hw _ (List.mem_of_getElem? (i := 84) rfl)) (hw _ (List.mem_of_getElem? (i := 77) rfl)) (by decide) (by decide)) (g := (mkF m 45 #[.val (.ref x1), .val (.ref a1), .val (.int (0 : Int32)), .val (.int (2 : Int32)), .val .null, .val (.ref vb53)] [(.int (2 : Int32)), (.ref vb53), (.ref x1)])) rfl (by rw [hml]; rfl) (argsL := [(.ref vb53), (.int (2 : Int32))]) (rest := [(.ref x1)]) (lenOf pd140_1 rfl) rfl (by show 2 * 0 + _ ≤ _; exact Nat.le_of_eq rfl) (hb hby d140_45) (fun _ _ => ⟨rfl, rfl, (by decide : 2 + 0 ≤ _), (by decide : 6 + 0 ≤ _)⟩)
    dsimp only [Pt.U, Pt.locs, Pt.cells, Pt.slots] at X56 l56 y56 z56 st56 hQ56
    subst l56 y56 z56
    obtain ⟨rfl, Nq56, eq56⟩ := hQ56
    have N56 := Fr.app N53 Nq56
    refine own_t2 (.int (0 : Int32)) 48 st56 ?_
    have f57 := (F2.keep Kp53 nin0)
    have f58 := (E1.keep Kp53)
    obtain ⟨T59, h59, X59, e59, W59, st59⟩ := putFN X56 hx hZ hown (hw _ (List.mem_of_getElem? (i := 30) rfl)) Via.refl eq56 f57 f58 (Or.inr ⟨(hw _ (List.mem_of_getElem? (i := 26) rfl)), rfl, hnm⟩) (hw _ (List.mem_of_getElem? (i := 10) rfl)) (ty := .byte) (v' := (.int (0 : Int32))) (by decide) rfl rfl (g := (mkF m 48 #[.val (.ref x1), .val (.ref a1), .val (.int (0 : Int32)), .val (.int (2 : Int32)), .val .null, .val (.ref vb53)] [(.int (0 : Int32)), (.ref x1)])) rfl rfl (hb hby d140_48)
    have Fw59 := f57.same W59
    have N59 := Fr.snoc X59 N56 g1
    have O59 := Old.wr O53 W59 g1
    have K59 : Keep h0 h59 [x1] := K53.wr W59 (Or.inl (List.mem_of_getElem? (i := 0) rfl))
    have Z59 : n0 ≤ h59.size := Nat.le_trans Z53 (Nat.le_of_eq W59.size.symm)
    refine own_d2 51 st59 ?_
    refine own_tp (.ref x1) 52 (fun _ q => XS.aloadN X59.here hx rfl (hb hby d140_51) rfl rfl q) ?_
    refine own_tp (.ref vb53) 54 (fun _ q => XS.aload X59.here hx rfl (hb hby d140_52) rfl rfl q) ?_
    have f60 := ((F1.keep Kp53 nin0).other W59 (Or.inr (slot_ne (Or.inr (hw _ (List.mem_of_getElem? (i := 25) rfl))) (Or.inr (hw _ (List.mem_of_getElem? (i := 26) rfl))) (by decide) (t := (.array .byte)) (t' := .byte) (by decide) (by decide))))
    have f61 := (f58.wr W59)
    obtain ⟨T62, h62, X62, e62, W62, st62⟩ := putF X59 hx hZ hown (host := "") (Or.inl (hw _ (List.mem_of_getElem? (i := 29) rfl))) Via.refl e59 f60 f61 (Or.inr ⟨(hw _ (List.mem_of_getElem? (i := 25) rfl)), rfl, hnm⟩) (hw _ (List.mem_of_getElem? (i := 10) rfl)) (ty := (.array .byte)) (by decide) rfl rfl (g := (mkF m 54 #[.val (.ref x1), .val (.ref a1), .val (.int (0 : Int32)), .val (.int (2 : Int32)), .val .null, .val (.ref vb53)] [(.ref vb53), (.ref x1)])) rfl rfl (hb hby d140_54)
    have Fw62 := f60.same W62
    have N62 := Fr.snoc X62 N59 g1
    have O62 := Old.wr O59 W62 g1
    have K62 : Keep h0 h62 [x1] := K59.wr W62 (Or.inl (List.mem_of_getElem? (i := 0) rfl))
    have Z62 : n0 ≤ h62.size := Nat.le_trans Z59 (Nat.le_of_eq W62.size.symm)
    refine own_d2 57 st62 ?_
    have f63 := (f61.wr W62)
    have f64 := (Fw59.other W62 (Or.inr (slot_ne (Or.inr (hw _ (List.mem_of_getElem? (i := 26) rfl))) (Or.inr (hw _ (List.mem_of_getElem? (i := 25) rfl))) (by decide) (t := .byte) (t' := (.array .byte)) (by decide) (by decide))))
    have f65 := ((VL.other W59 (Ne.symm ne55)).other W62 (Ne.symm ne55))
    exact own_retV X62 hx hrt (hb hby d140_57) hlk (by decide) (by decide) e62 (⟨rfl, N62, K62, vb53, _, _, _, _, ge53, s0vb53, f63, Fw62, f64, f65, Or.inl ⟨rfl, rfl, rfl, (own_all2 hxw)⟩⟩)
  ·
    refine own_ls #[.val (.ref x1), .val (.ref a1), .val (.int (0 : Int32)), .val (.int (2 : Int32)), .val .null, .val (.ref vb53)] 41 (fun _ q => XS.astore X53.here hx rfl (hb hby d140_39) rfl rfl (l' := #[.val (.ref x1), .val (.ref a1), .val (.int (0 : Int32)), .val (.int (2 : Int32)), .val .null, .val (.ref vb53)]) rfl q) ?_
    refine own_tp (.ref x1) 42 (fun _ q => XS.aloadN X53.here hx rfl (hb hby d140_41) rfl rfl q) ?_
    refine own_tp (.ref vb53) 44 (fun _ q => XS.aload X53.here hx rfl (hb hby d140_42) rfl rfl q) ?_
    refine own_tp (.int (2 : Int32)) 45 (fun _ q => XS.iloadN X53.here hx rfl (hb hby d140_44) rfl q) ?_
    obtain ⟨_, _, ⟨T66, L66, k66, n66⟩, -, X66, ⟨Lc66, hQ66, l66, y66, z66⟩, st66⟩ := Jvm.LawKit.callS X53 hx (y := (⟨"java/lang/StringUTF16", "coderFromArrayLen", "([BI)B"⟩ : MethodName)) hown (mvT hZ (hw _ (List.mem_of_getElem? (i := 82) rfl))) (mvT hZ (hw _ (List.mem_of_getElem? (i := 83) rfl))) (mvT hZ (hw _ (List.mem_of_getElem? (i := 77) rfl))) (mvT hZ (hw _ (List.mem_of_getElem? (i := 84) rfl))) (by decide) (backOf (W := 1) (rm139 l Z a0 hw [] vb53 _ _ T53.heap n0 VL) hZ (hw _ (List.mem_of_getElem? (i := 84) rfl)) (hw _ (List.mem_of_getElem? (i := 77) rfl)) (by decide) (by decide)) (g := (mkF m 45 #[.val (.ref x1), .val (.ref a1), .val (.int (0 : Int32)), .val (.int (2 : Int32)), .val .null, .val (.ref vb53)] [(.int (2 : Int32)), (.ref vb53), (.ref x1)])) rfl (by rw [hml]; rfl) (argsL := [(.ref vb53), (.int (2 : Int32))]) (rest := [(.ref x1)]) (lenOf pd140_1 rfl) rfl (by show 2 * 0 + _ ≤ _; exact Nat.le_of_eq rfl) (hb hby d140_45) (fun _ _ => ⟨rfl, rfl, (by decide : 2 + 0 ≤ _), (by decide : 6 + 0 ≤ _)⟩)
    dsimp only [Pt.U, Pt.locs, Pt.cells, Pt.slots] at X66 l66 y66 z66 st66 hQ66
    subst l66 y66 z66
    obtain ⟨rfl, Nq66, eq66⟩ := hQ66
    have N66 := Fr.app N53 Nq66
    refine own_t2 (.int (1 : Int32)) 48 st66 ?_
    have f67 := (F2.keep Kp53 nin0)
    have f68 := (E1.keep Kp53)
    obtain ⟨T69, h69, X69, e69, W69, st69⟩ := putFN X66 hx hZ hown (hw _ (List.mem_of_getElem? (i := 30) rfl)) Via.refl eq66 f67 f68 (Or.inr ⟨(hw _ (List.mem_of_getElem? (i := 26) rfl)), rfl, hnm⟩) (hw _ (List.mem_of_getElem? (i := 10) rfl)) (ty := .byte) (v' := (.int (1 : Int32))) (by decide) rfl rfl (g := (mkF m 48 #[.val (.ref x1), .val (.ref a1), .val (.int (0 : Int32)), .val (.int (2 : Int32)), .val .null, .val (.ref vb53)] [(.int (1 : Int32)), (.ref x1)])) rfl rfl (hb hby d140_48)
    have Fw69 := f67.same W69
    have N69 := Fr.snoc X69 N66 g1
    have O69 := Old.wr O53 W69 g1
    have K69 : Keep h0 h69 [x1] := K53.wr W69 (Or.inl (List.mem_of_getElem? (i := 0) rfl))
    have Z69 : n0 ≤ h69.size := Nat.le_trans Z53 (Nat.le_of_eq W69.size.symm)
    refine own_d2 51 st69 ?_
    refine own_tp (.ref x1) 52 (fun _ q => XS.aloadN X69.here hx rfl (hb hby d140_51) rfl rfl q) ?_
    refine own_tp (.ref vb53) 54 (fun _ q => XS.aload X69.here hx rfl (hb hby d140_52) rfl rfl q) ?_
    have f70 := ((F1.keep Kp53 nin0).other W69 (Or.inr (slot_ne (Or.inr (hw _ (List.mem_of_getElem? (i := 25) rfl))) (Or.inr (hw _ (List.mem_of_getElem? (i := 26) rfl))) (by decide) (t := (.array .byte)) (t' := .byte) (by decide) (by decide))))
    have f71 := (f68.wr W69)
    obtain ⟨T72, h72, X72, e72, W72, st72⟩ := putF X69 hx hZ hown (host := "") (Or.inl (hw _ (List.mem_of_getElem? (i := 29) rfl))) Via.refl e69 f70 f71 (Or.inr ⟨(hw _ (List.mem_of_getElem? (i := 25) rfl)), rfl, hnm⟩) (hw _ (List.mem_of_getElem? (i := 10) rfl)) (ty := (.array .byte)) (by decide) rfl rfl (g := (mkF m 54 #[.val (.ref x1), .val (.ref a1), .val (.int (0 : Int32)), .val (.int (2 : Int32)), .val .null, .val (.ref vb53)] [(.ref vb53), (.ref x1)])) rfl rfl (hb hby d140_54)
    have Fw72 := f70.same W72
    have N72 := Fr.snoc X72 N69 g1
    have O72 := Old.wr O69 W72 g1
    have K72 : Keep h0 h72 [x1] := K69.wr W72 (Or.inl (List.mem_of_getElem? (i := 0) rfl))
    have Z72 : n0 ≤ h72.size := Nat.le_trans Z69 (Nat.le_of_eq W72.size.symm)
    refine own_d2 57 st72 ?_
    have f73 := (f71.wr W72)
    have f74 := (Fw69.other W72 (Or.inr (slot_ne (Or.inr (hw _ (List.mem_of_getElem? (i := 26) rfl))) (Or.inr (hw _ (List.mem_of_getElem? (i := 25) rfl))) (by decide) (t := .byte) (t' := (.array .byte)) (by decide) (by decide))))
    have f75 := ((VL.other W69 (Ne.symm ne55)).other W72 (Ne.symm ne55))
    exact own_retV X72 hx hrt (hb hby d140_57) hlk (by decide) (by decide) e72 (⟨rfl, N72, K72, vb53, _, _, _, _, ge53, s0vb53, f73, Fw72, f74, f75, Or.inr ⟨rfl, rfl, rfl, hxw⟩⟩)

def Q141 (Z : State) (x1 : Addr) (c0 c1 : Int32) (h0 : Heap) (n0 : Nat) (v : Option Value) (h : Heap) (L : List Loc) : Prop := v = none ∧ Fr n0 L ∧ Keep h0 h [x1] ∧ ∃ (t : Addr) (kb : ClassId) (cd N : Int32) (vs : List Value), n0 ≤ t ∧ h0.size ≤ t ∧ Exa Z h x1 "java/lang/String" ∧ Fld Z h x1 "java/lang/String" "value" "[B" (.ref t) ∧ Fld Z h x1 "java/lang/String" "coder" "B" (.int cd) ∧ Arv Z h t kb .byte N vs (.int (0 : Int32)) ∧ own_Cod ([c0, c1] : List Int32) cd N vs

theorem d141_0 : decode jdk_42_method_3_code 0 = .ok (.aload_n 0, 1) := by decide +kernel
theorem d141_1 : decode jdk_42_method_3_code 1 = .ok (.aload_n 1, 1) := by decide +kernel
theorem d141_2 : decode jdk_42_method_3_code 2 = .ok (.iconst 0, 1) := by decide +kernel
theorem d141_3 : decode jdk_42_method_3_code 3 = .ok (.aload_n 1, 1) := by decide +kernel
theorem d141_4 : decode jdk_42_method_3_code 4 = .ok (.arraylength, 1) := by decide +kernel
theorem d141_5 : decode jdk_42_method_3_code 5 = .ok (.aconst_null, 1) := by decide +kernel
theorem d141_6 : decode jdk_42_method_3_code 6 = .ok (.invokespecial 27, 3) := by decide +kernel
theorem d141_9 : decode jdk_42_method_3_code 9 = .ok (.return_, 1) := by decide +kernel
theorem pn141 : plainName "java/lang/String" = true := by first | (simp [plainName, overriddenIn]; done) | decide +kernel
theorem pd141_0 : parseMethodDescriptor "([CIILjava/lang/Void;)V" = some ⟨[(.array .char), .int, .int, (.object "java/lang/Void")], none⟩ := by decide +kernel
theorem ef141 (m : MethodId) (x0 : Addr) (x1 : Addr) : entryFrame m #[(.ref x0), (.ref x1)] 2 = mkF m 0 #[.val (.ref x0), .val (.ref x1)] [] := by first | (simp [entryFrame, mkF, argsToLocals, Value.category]; done) | rfl
set_option maxRecDepth 65536 in
set_option maxHeartbeats 40000000 in
theorem rm141 (l : Launch) (Z : State) (a0 : Array Value) (hw : ∀ d ∈ tables_1, d.before a0 Z = true) (ws : List Jvm.Cond) (x1 a1 : Addr) (k1 : ClassId) (c0 c1 : Int32) (u1 u2 : Value) (h0 : Heap) (n0 : Nat) (Z0 : n0 ≤ h0.size) (g1 : n0 ≤ x1) (hxa : x1 ≠ a1) (hc0 : 0 ≤ c0.toInt ∧ c0.toInt ≤ 65535) (hc1 : 0 ≤ c1.toInt ∧ c1.toInt ≤ 65535) (V1 : Arv Z h0 a1 k1 .char (2 : Int32) [(.int c0), (.int c1)] (.int (0 : Int32))) (E1 : Exa Z h0 x1 "java/lang/String") (F1 : Fld Z h0 x1 "java/lang/String" "value" "[B" u1) (F2 : Fld Z h0 x1 "java/lang/String" "coder" "B" u2) (G1 : Int32) (US : own_US Z G1) (O0 : Old Z n0 h0) :
    own_Met l (⟨"java/lang/String", "<init>", "([C)V"⟩ : MethodName) jdk_42_method_3_code 2 none ws ({ frames := 5, cells := 2, slots := 6, locals := 78 } : Room) Z #[(.ref x1), (.ref a1)] h0 (Q141 Z x1 c0 c1 h0 n0) := by
  refine own_enter #[.val (.ref x1), .val (.ref a1)] (plainFor_of_name pn141) (fun m => ef141 m x1 a1) ?_
  intro p e s m below meth c s₁ hx hby hml hown hnm hZ hrt hlk X0 e0
  have N0 := Fr.nil n0
  refine own_tp (.ref x1) 1 (fun _ q => XS.aloadN X0.here hx rfl (hb hby d141_0) rfl rfl q) ?_
  refine own_tp (.ref a1) 2 (fun _ q => XS.aloadN X0.here hx rfl (hb hby d141_1) rfl rfl q) ?_
  refine own_tp (.int (0 : Int32)) 3 (fun _ q => XS.iconst X0.here hx rfl (hb hby d141_2) q) ?_
  refine own_tp (.ref a1) 4 (fun _ q => XS.aloadN X0.here hx rfl (hb hby d141_3) rfl rfl q) ?_
  obtain ⟨cl51, Ar51, -, Sz51, Nn51, -, -⟩ := (id V1)
  refine own_t1 (.int (2 : Int32)) 5 (fun t q => X0.arraylength hx (by rw [e0]; exact Ar51.1) (State.isArrayOf_alike hZ.alike Ar51.2.1) (g := (mkF m 4 #[.val (.ref x1), .val (.ref a1)] [(.ref a1), (.int (0 : Int32)), (.ref a1), (.ref x1)])) rfl rfl (hb hby d141_4) _ (by rw [len_of Sz51 Nn51]; exact q)) ?_
  refine own_tp .null 6 (fun _ q => XS.aconstNull X0.here hx rfl (hb hby d141_5) q) ?_
  obtain ⟨_, _, ⟨T52, L52, k52, n52⟩, -, X52, ⟨Lc52, hQ52, l52, y52, z52⟩, st52⟩ := X0.specialBack hx (y := (⟨"java/lang/String", "<init>", "([CIILjava/lang/Void;)V"⟩ : MethodName)) rfl hown (mvT hZ (hw _ (List.mem_of_getElem? (i := 16) rfl))) (mvT hZ (hw _ (List.mem_of_getElem? (i := 17) rfl))) (mvT hZ (hw _ (List.mem_of_getElem? (i := 19) rfl))) (by decide) (backOf (W := 0) (rm140 l Z a0 hw [] x1 a1 k1 c0 c1 _ _ h0 n0 Z0 g1 hxa hc0 hc1 V1 E1 F1 F2 G1 US O0) hZ (hw _ (List.mem_of_getElem? (i := 19) rfl)) (hw _ (List.mem_of_getElem? (i := 11) rfl)) (by decide) (by decide)) (g := (mkF m 6 #[.val (.ref x1), .val (.ref a1)] [.null, (.int (2 : Int32)), (.int (0 : Int32)), (.ref a1), (.ref x1)])) rfl (by rw [hml]; rfl) (Steps.refl _) (a := x1) (argsL := [(.ref a1), (.int (0 : Int32)), (.int (2 : Int32)), .null]) (rest := []) (lenOf pd141_0 rfl) rfl (by show 2 * 0 + _ ≤ _; exact Nat.le_of_eq rfl) (hb hby d141_6) (fun _ _ => ⟨rfl, e0, (by decide : 0 + 2 ≤ _), (by decide : 0 + 6 ≤ _)⟩)
  dsimp only [Pt.U, Pt.locs, Pt.cells, Pt.slots] at X52 l52 y52 z52 st52 hQ52
  subst l52 y52 z52
  obtain ⟨rfl, Nq52, Kp52, rest52⟩ := hQ52
  refine own_csR [] 9 st52 ?_
  exact own_retV X52 hx hrt (hb hby d141_9) hlk (by decide) (by decide) rfl (⟨rfl, Fr.app N0 Nq52, Kp52, rest52⟩)

def Q142 (Z : State) (b1 : Addr) (k2 : ClassId) (c0 c1 c2 : Int32) (h0 : Heap) (n0 : Nat) (v : Option Value) (h : Heap) (L : List Loc) : Prop := Fr n0 L ∧ Keep h0 h [b1] ∧ ((v = some (.int (0 : Int32)) ∧ (255 : Int32) < c0) ∨ (v = some (.int (1 : Int32)) ∧ (255 : Int32) < c1) ∨ (v = some (.int (2 : Int32)) ∧ (255 : Int32) < c2) ∨ (v = some (.int (3 : Int32)) ∧ (¬ (255 : Int32) < c0 ∧ ¬ (255 : Int32) < c1 ∧ ¬ (255 : Int32) < c2) ∧ Arv Z h b1 k2 .byte (3 : Int32) [(.int (own_lo c0)), (.int (own_lo c1)), (.int (own_lo c2))] (.int (0 : Int32))))

theorem d142_0 : decode jdk_52_method_21_code 0 = .ok (.iconst 0, 1) := by decide +kernel
theorem d142_1 : decode jdk_52_method_21_code 1 = .ok (.istore 5, 2) := by decide +kernel
theorem d142_3 : decode jdk_52_method_21_code 3 = .ok (.iload 5, 2) := by decide +kernel
theorem d142_5 : decode jdk_52_method_21_code 5 = .ok (.iload 4, 2) := by decide +kernel
theorem d142_7 : decode jdk_52_method_21_code 7 = .ok (.if_icmp .ge 37, 3) := by decide +kernel
theorem d142_10 : decode jdk_52_method_21_code 10 = .ok (.aload_n 0, 1) := by decide +kernel
theorem d142_11 : decode jdk_52_method_21_code 11 = .ok (.iload_n 1, 1) := by decide +kernel
theorem d142_12 : decode jdk_52_method_21_code 12 = .ok (.caload, 1) := by decide +kernel
theorem d142_13 : decode jdk_52_method_21_code 13 = .ok (.istore 6, 2) := by decide +kernel
theorem d142_15 : decode jdk_52_method_21_code 15 = .ok (.iload 6, 2) := by decide +kernel
theorem d142_17 : decode jdk_52_method_21_code 17 = .ok (.sipush 255, 3) := by decide +kernel
theorem d142_20 : decode jdk_52_method_21_code 20 = .ok (.if_icmp .le 6, 3) := by decide +kernel
theorem d142_23 : decode jdk_52_method_21_code 23 = .ok (.iload 5, 2) := by decide +kernel
theorem d142_25 : decode jdk_52_method_21_code 25 = .ok (.ireturn, 1) := by decide +kernel
theorem d142_26 : decode jdk_52_method_21_code 26 = .ok (.aload_n 2, 1) := by decide +kernel
theorem d142_27 : decode jdk_52_method_21_code 27 = .ok (.iload_n 3, 1) := by decide +kernel
theorem d142_28 : decode jdk_52_method_21_code 28 = .ok (.iload 6, 2) := by decide +kernel
theorem d142_30 : decode jdk_52_method_21_code 30 = .ok (.i2b, 1) := by decide +kernel
theorem d142_31 : decode jdk_52_method_21_code 31 = .ok (.bastore, 1) := by decide +kernel
theorem d142_32 : decode jdk_52_method_21_code 32 = .ok (.iinc 1 1, 3) := by decide +kernel
theorem d142_35 : decode jdk_52_method_21_code 35 = .ok (.iinc 3 1, 3) := by decide +kernel
theorem d142_38 : decode jdk_52_method_21_code 38 = .ok (.iinc 5 1, 3) := by decide +kernel
theorem d142_41 : decode jdk_52_method_21_code 41 = .ok (.goto (-38), 3) := by decide +kernel
theorem d142_44 : decode jdk_52_method_21_code 44 = .ok (.iload 4, 2) := by decide +kernel
theorem d142_46 : decode jdk_52_method_21_code 46 = .ok (.ireturn, 1) := by decide +kernel
theorem pn142 : plainName "java/lang/StringUTF16" = true := by first | (simp [plainName, overriddenIn]; done) | decide +kernel
theorem ef142 (m : MethodId) (x0 : Addr) (x1 : Int32) (x2 : Addr) (x3 : Int32) (x4 : Int32) : entryFrame m #[(.ref x0), (.int x1), (.ref x2), (.int x3), (.int x4)] 7 = mkF m 0 #[.val (.ref x0), .val (.int x1), .val (.ref x2), .val (.int x3), .val (.int x4), .unset, .unset] [] := by first | (simp [entryFrame, mkF, argsToLocals, Value.category]; done) | rfl
set_option maxRecDepth 65536 in
set_option maxHeartbeats 40000000 in
theorem rm142 (l : Launch) (Z : State) (a0 : Array Value) (hw : ∀ d ∈ tables_1, d.before a0 Z = true) (ws : List Jvm.Cond) (a1 b1 : Addr) (k1 k2 : ClassId) (c0 c1 c2 : Int32) (h0 : Heap) (n0 : Nat) (Z0 : n0 ≤ h0.size) (g1 : n0 ≤ b1) (hab : a1 ≠ b1) (V1 : Arv Z h0 a1 k1 .char (3 : Int32) [(.int c0), (.int c1), (.int c2)] (.int (0 : Int32))) (V2 : Arv Z h0 b1 k2 .byte (3 : Int32) [(.int (0 : Int32)), (.int (0 : Int32)), (.int (0 : Int32))] (.int (0 : Int32))) :
    own_Met l (⟨"java/lang/StringUTF16", "compress", "([CI[BII)I"⟩ : MethodName) jdk_52_method_21_code 7 (some .int) ws ({ frames := 0, cells := 0, slots := 0, locals := 0 } : Room) Z #[(.ref a1), (.int (0 : Int32)), (.ref b1), (.int (0 : Int32)), (.int (3 : Int32))] h0 (Q142 Z b1 k2 c0 c1 c2 h0 n0) := by
  refine own_enter #[.val (.ref a1), .val (.int (0 : Int32)), .val (.ref b1), .val (.int (0 : Int32)), .val (.int (3 : Int32)), .unset, .unset] (plainFor_of_name pn142) (fun m => ef142 m a1 (0 : Int32) b1 (0 : Int32) (3 : Int32)) ?_
  intro p e s m below meth c s₁ hx hby hml hown hnm hZ hrt hlk X0 e0
  have N0 := Fr.nil n0
  refine own_tp (.int (0 : Int32)) 1 (fun _ q => XS.iconst X0.here hx rfl (hb hby d142_0) q) ?_
  refine own_ls #[.val (.ref a1), .val (.int (0 : Int32)), .val (.ref b1), .val (.int (0 : Int32)), .val (.int (3 : Int32)), .val (.int (0 : Int32)), .unset] 3 (fun _ q => XS.istore X0.here hx rfl (hb hby d142_1) rfl (l' := #[.val (.ref a1), .val (.int (0 : Int32)), .val (.ref b1), .val (.int (0 : Int32)), .val (.int (3 : Int32)), .val (.int (0 : Int32)), .unset]) rfl q) ?_
  refine own_tp (.int (0 : Int32)) 5 (fun _ q => XS.iload X0.here hx rfl (hb hby d142_3) rfl q) ?_
  refine own_tp (.int (3 : Int32)) 7 (fun _ q => XS.iload X0.here hx rfl (hb hby d142_5) rfl q) ?_
  refine own_d2 10 (fun _ q => XS.icmpNo X0.here hx rfl (hb hby d142_7) rfl (tlt (by decide : (0 : Int32) < (3 : Int32))).2.1 q) ?_
  refine own_tp (.ref a1) 11 (fun _ q => XS.aloadN X0.here hx rfl (hb hby d142_10) rfl rfl q) ?_
  refine own_tp (.int (0 : Int32)) 12 (fun _ q => XS.iloadN X0.here hx rfl (hb hby d142_11) rfl q) ?_
  obtain ⟨cl51, Ar51, q51, S51, Nn51, H51, G51⟩ := (id V1)
  have hin51 : ¬ ((0 : Int32) < 0 ∨ cl51.slots.size ≤ ((0 : Int32)).toNatClampNeg) := inb_of S51 ⟨by decide, by decide⟩
  have hat51 : cl51.slots[((0 : Int32)).toNatClampNeg]? = some (.int c0) := H51.at hin51 rfl
  refine own_t2 (.int c0) 13 (fun _ q => X0.caload hx (j := (0 : Int32)) (v := (.int c0)) (by rw [e0]; exact Ar51.1) (State.isArrayOf_alike hZ.alike Ar51.2.1) Ar51.2.2 hin51 hat51 (g := (mkF m 12 #[.val (.ref a1), .val (.int (0 : Int32)), .val (.ref b1), .val (.int (0 : Int32)), .val (.int (3 : Int32)), .val (.int (0 : Int32)), .unset] [(.int (0 : Int32)), (.ref a1)])) rfl rfl (hb hby d142_12) _ q) ?_
  refine own_ls #[.val (.ref a1), .val (.int (0 : Int32)), .val (.ref b1), .val (.int (0 : Int32)), .val (.int (3 : Int32)), .val (.int (0 : Int32)), .val (.int c0)] 15 (fun _ q => XS.istore X0.here hx rfl (hb hby d142_13) rfl (l' := #[.val (.ref a1), .val (.int (0 : Int32)), .val (.ref b1), .val (.int (0 : Int32)), .val (.int (3 : Int32)), .val (.int (0 : Int32)), .val (.int c0)]) rfl q) ?_
  refine own_tp (.int c0) 17 (fun _ q => XS.iload X0.here hx rfl (hb hby d142_15) rfl q) ?_
  refine own_tp (.int (255 : Int32)) 20 (fun _ q => XS.sipush X0.here hx rfl (hb hby d142_17) q) ?_
  by_cases c52 : (255 : Int32) < c0
  ·
    refine own_d2 23 (fun _ q => XS.icmpNo X0.here hx rfl (hb hby d142_20) rfl (tlt c52).2.2.2 q) ?_
    refine own_tp (.int (0 : Int32)) 25 (fun _ q => XS.iload X0.here hx rfl (hb hby d142_23) rfl q) ?_
    exact own_retI X0 hx hrt (hb hby d142_25) hlk (by decide) (by decide) e0 (⟨N0, (Keep.refl h0 [b1]), (Or.inl ⟨rfl, c52⟩)⟩)
  ·
    refine own_d2 26 (fun _ q => XS.icmpYes X0.here hx rfl (pc0 := 20) (pc' := 26) rfl (hb hby d142_20) rfl (flt c52).2.2.2 (by decide) (by decide) q) ?_
    refine own_tp (.ref b1) 27 (fun _ q => XS.aloadN X0.here hx rfl (hb hby d142_26) rfl rfl q) ?_
    refine own_tp (.int (0 : Int32)) 28 (fun _ q => XS.iloadN X0.here hx rfl (hb hby d142_27) rfl q) ?_
    refine own_tp (.int c0) 30 (fun _ q => XS.iload X0.here hx rfl (hb hby d142_28) rfl q) ?_
    refine own_t1 (.int (c0.toInt8.toInt32)) 31 (fun _ q => XS.i2b X0.here hx rfl (hb hby d142_30) rfl q) ?_
    obtain ⟨cl53, Ar53, q53, S53, Nn53, H53, G53⟩ := (id V2)
    have hin53 : ¬ ((0 : Int32) < 0 ∨ cl53.slots.size ≤ ((0 : Int32)).toNatClampNeg) := inb_of S53 ⟨by decide, by decide⟩
    obtain ⟨T54, h54, X54, e54, W54, st54⟩ := stB X0 hx hZ e0 Ar53 (j := (0 : Int32)) hin53 (g := (mkF m 31 #[.val (.ref a1), .val (.int (0 : Int32)), .val (.ref b1), .val (.int (0 : Int32)), .val (.int (3 : Int32)), .val (.int (0 : Int32)), .val (.int c0)] [(.int (c0.toInt8.toInt32)), (.int (0 : Int32)), (.ref b1)])) rfl rfl (hb hby d142_31)
    have V54 := Arv.set Ar53 q53 S53 Nn53 H53 G53 (fits_nar_byte _) W54 0 rfl (Nat.le_of_ble_eq_true rfl)
    have N54 := Fr.snoc X54 N0 g1
    have K54 : Keep h0 h54 [b1] := (Keep.refl h0 [b1]).wr W54 (Or.inl (List.mem_of_getElem? (i := 0) rfl))
    have Z54 : n0 ≤ h54.size := Nat.le_trans Z0 (Nat.le_of_eq W54.size.symm)
    have V54' : Arv Z h54 b1 k2 .byte (3 : Int32) [(.int (c0.toInt8.toInt32)), (.int (0 : Int32)), (.int (0 : Int32))] (.int (0 : Int32)) := by have q := V54; first | (rw [own_nb] at q; exact q) | (rw [own_nb2] at q; exact q)
    refine own_cs [] 32 st54 ?_
    refine own_li #[.val (.ref a1), .val (.int (1 : Int32)), .val (.ref b1), .val (.int (0 : Int32)), .val (.int (3 : Int32)), .val (.int (0 : Int32)), .val (.int c0)] 35 (fun _ q => XS.iinc X54.here hx rfl (hb hby d142_32) rfl (l' := #[.val (.ref a1), .val (.int (1 : Int32)), .val (.ref b1), .val (.int (0 : Int32)), .val (.int (3 : Int32)), .val (.int (0 : Int32)), .val (.int c0)]) rfl q) ?_
    refine own_li #[.val (.ref a1), .val (.int (1 : Int32)), .val (.ref b1), .val (.int (1 : Int32)), .val (.int (3 : Int32)), .val (.int (0 : Int32)), .val (.int c0)] 38 (fun _ q => XS.iinc X54.here hx rfl (hb hby d142_35) rfl (l' := #[.val (.ref a1), .val (.int (1 : Int32)), .val (.ref b1), .val (.int (1 : Int32)), .val (.int (3 : Int32)), .val (.int (0 : Int32)), .val (.int c0)]) rfl q) ?_
    refine own_li #[.val (.ref a1), .val (.int (1 : Int32)), .val (.ref b1), .val (.int (1 : Int32)), .val (.int (3 : Int32)), .val (.int (1 : Int32)), .val (.int c0)] 41 (fun _ q => XS.iinc X54.here hx rfl (hb hby d142_38) rfl (l' := #[.val (.ref a1), .val (.int (1 : Int32)), .val (.ref b1), .val (.int (1 : Int32)), .val (.int (3 : Int32)), .val (.int (1 : Int32)), .val (.int c0)]) rfl q) ?_
    refine own_d0 3 (fun _ q => XS.goto X54.here hx rfl (pc0 := 41) (pc' := 3) rfl (hb hby d142_41) (by decide) (by decide) q) ?_
    refine own_tp (.int (1 : Int32)) 5 (fun _ q => XS.iload X54.here hx rfl (hb hby d142_3) rfl q) ?_
    refine own_tp (.int (3 : Int32)) 7 (fun _ q => XS.iload X54.here hx rfl (hb hby d142_5) rfl q) ?_
    refine own_d2 10 (fun _ q => XS.icmpNo X54.here hx rfl (hb hby d142_7) rfl (tlt (by decide : (1 : Int32) < (3 : Int32))).2.1 q) ?_
    refine own_tp (.ref a1) 11 (fun _ q => XS.aloadN X54.here hx rfl (hb hby d142_10) rfl rfl q) ?_
    refine own_tp (.int (1 : Int32)) 12 (fun _ q => XS.iloadN X54.here hx rfl (hb hby d142_11) rfl q) ?_
    have f55 := (V1.other W54 hab)
    obtain ⟨cl56, Ar56, q56, S56, Nn56, H56, G56⟩ := (id f55)
    have hin56 : ¬ ((1 : Int32) < 0 ∨ cl56.slots.size ≤ ((1 : Int32)).toNatClampNeg) := inb_of S56 ⟨by decide, by decide⟩
    have hat56 : cl56.slots[((1 : Int32)).toNatClampNeg]? = some (.int c1) := H56.at hin56 rfl
    refine own_t2 (.int c1) 13 (fun _ q => X54.caload hx (j := (1 : Int32)) (v := (.int c1)) (by rw [e54]; exact Ar56.1) (State.isArrayOf_alike hZ.alike Ar56.2.1) Ar56.2.2 hin56 hat56 (g := (mkF m 12 #[.val (.ref a1), .val (.int (1 : Int32)), .val (.ref b1), .val (.int (1 : Int32)), .val (.int (3 : Int32)), .val (.int (1 : Int32)), .val (.int c0)] [(.int (1 : Int32)), (.ref a1)])) rfl rfl (hb hby d142_12) _ q) ?_
    refine own_ls #[.val (.ref a1), .val (.int (1 : Int32)), .val (.ref b1), .val (.int (1 : Int32)), .val (.int (3 : Int32)), .val (.int (1 : Int32)), .val (.int c1)] 15 (fun _ q => XS.istore X54.here hx rfl (hb hby d142_13) rfl (l' := #[.val (.ref a1), .val (.int (1 : Int32)), .val (.ref b1), .val (.int (1 : Int32)), .val (.int (3 : Int32)), .val (.int (1 : Int32)), .val (.int c1)]) rfl q) ?_
    refine own_tp (.int c1) 17 (fun _ q => XS.iload X54.here hx rfl (hb hby d142_15) rfl q) ?_
    refine own_tp (.int (255 : Int32)) 20 (fun _ q => XS.sipush X54.here hx rfl (hb hby d142_17) q) ?_
    by_cases c57 : (255 : Int32) < c1
    ·
      refine own_d2 23 (fun _ q => XS.icmpNo X54.here hx rfl (hb hby d142_20) rfl (tlt c57).2.2.2 q) ?_
      refine own_tp (.int (1 : Int32)) 25 (fun _ q => XS.iload X54.here hx rfl (hb hby d142_23) rfl q) ?_
      exact own_retI X54 hx hrt (hb hby d142_25) hlk (by decide) (by decide) e54 (⟨N54, K54, (Or.inr (Or.inl ⟨rfl, c57⟩))⟩)
    ·
      refine own_d2 26 (fun _ q => XS.icmpYes X54.here hx rfl (pc0 := 20) (pc' := 26) rfl (hb hby d142_20) rfl (flt c57).2.2.2 (by decide) (by decide) q) ?_
      refine own_tp (.ref b1) 27 (fun _ q => XS.aloadN X54.here hx rfl (hb hby d142_26) rfl rfl q) ?_
      refine own_tp (.int (1 : Int32)) 28 (fun _ q => XS.iloadN X54.here hx rfl (hb hby d142_27) rfl q) ?_
      refine own_tp (.int c1) 30 (fun _ q => XS.iload X54.here hx rfl (hb hby d142_28) rfl q) ?_
      refine own_t1 (.int (c1.toInt8.toInt32)) 31 (fun _ q => XS.i2b X54.here hx rfl (hb hby d142_30) rfl q) ?_
      obtain ⟨cl58, Ar58, q58, S58, Nn58, H58, G58⟩ := (id V54')
      have hin58 : ¬ ((1 : Int32) < 0 ∨ cl58.slots.size ≤ ((1 : Int32)).toNatClampNeg) := inb_of S58 ⟨by decide, by decide⟩
      obtain ⟨T59, h59, X59, e59, W59, st59⟩ := stB X54 hx hZ e54 Ar58 (j := (1 : Int32)) hin58 (g := (mkF m 31 #[.val (.ref a1), .val (.int (1 : Int32)), .val (.ref b1), .val (.int (1 : Int32)), .val (.int (3 : Int32)), .val (.int (1 : Int32)), .val (.int c1)] [(.int (c1.toInt8.toInt32)), (.int (1 : Int32)), (.ref b1)])) rfl rfl (hb hby d142_31)
      have V59 := Arv.set Ar58 q58 S58 Nn58 H58 G58 (fits_nar_byte _) W59 1 rfl (Nat.le_of_ble_eq_true rfl)
      have N59 := Fr.snoc X59 N54 g1
      have K59 : Keep h0 h59 [b1] := K54.wr W59 (Or.inl (List.mem_of_getElem? (i := 0) rfl))
      have Z59 : n0 ≤ h59.size := Nat.le_trans Z54 (Nat.le_of_eq W59.size.symm)
      have V59' : Arv Z h59 b1 k2 .byte (3 : Int32) [(.int (c0.toInt8.toInt32)), (.int (c1.toInt8.toInt32)), (.int (0 : Int32))] (.int (0 : Int32)) := by have q := V59; first | (rw [own_nb] at q; exact q) | (rw [own_nb2] at q; exact q)
      refine own_cs [] 32 st59 ?_
      refine own_li #[.val (.ref a1), .val (.int (2 : Int32)), .val (.ref b1), .val (.int (1 : Int32)), .val (.int (3 : Int32)), .val (.int (1 : Int32)), .val (.int c1)] 35 (fun _ q => XS.iinc X59.here hx rfl (hb hby d142_32) rfl (l' := #[.val (.ref a1), .val (.int (2 : Int32)), .val (.ref b1), .val (.int (1 : Int32)), .val (.int (3 : Int32)), .val (.int (1 : Int32)), .val (.int c1)]) rfl q) ?_
      refine own_li #[.val (.ref a1), .val (.int (2 : Int32)), .val (.ref b1), .val (.int (2 : Int32)), .val (.int (3 : Int32)), .val (.int (1 : Int32)), .val (.int c1)] 38 (fun _ q => XS.iinc X59.here hx rfl (hb hby d142_35) rfl (l' := #[.val (.ref a1), .val (.int (2 : Int32)), .val (.ref b1), .val (.int (2 : Int32)), .val (.int (3 : Int32)), .val (.int (1 : Int32)), .val (.int c1)]) rfl q) ?_
      refine own_li #[.val (.ref a1), .val (.int (2 : Int32)), .val (.ref b1), .val (.int (2 : Int32)), .val (.int (3 : Int32)), .val (.int (2 : Int32)), .val (.int c1)] 41 (fun _ q => XS.iinc X59.here hx rfl (hb hby d142_38) rfl (l' := #[.val (.ref a1), .val (.int (2 : Int32)), .val (.ref b1), .val (.int (2 : Int32)), .val (.int (3 : Int32)), .val (.int (2 : Int32)), .val (.int c1)]) rfl q) ?_
      refine own_d0 3 (fun _ q => XS.goto X59.here hx rfl (pc0 := 41) (pc' := 3) rfl (hb hby d142_41) (by decide) (by decide) q) ?_
      refine own_tp (.int (2 : Int32)) 5 (fun _ q => XS.iload X59.here hx rfl (hb hby d142_3) rfl q) ?_
      refine own_tp (.int (3 : Int32)) 7 (fun _ q => XS.iload X59.here hx rfl (hb hby d142_5) rfl q) ?_
      refine own_d2 10 (fun _ q => XS.icmpNo X59.here hx rfl (hb hby d142_7) rfl (tlt (by decide : (2 : Int32) < (3 : Int32))).2.1 q) ?_
      refine own_tp (.ref a1) 11 (fun _ q => XS.aloadN X59.here hx rfl (hb hby d142_10) rfl rfl q) ?_
      refine own_tp (.int (2 : Int32)) 12 (fun _ q => XS.iloadN X59.here hx rfl (hb hby d142_11) rfl q) ?_
      have f60 := (f55.other W59 hab)
      obtain ⟨cl61, Ar61, q61, S61, Nn61, H61, G61⟩ := (id f60)
      have hin61 : ¬ ((2 : Int32) < 0 ∨ cl61.slots.size ≤ ((2 : Int32)).toNatClampNeg) := inb_of S61 ⟨by decide, by decide⟩
      have hat61 : cl61.slots[((2 : Int32)).toNatClampNeg]? = some (.int c2) := H61.at hin61 rfl
      refine own_t2 (.int c2) 13 (fun _ q => X59.caload hx (j := (2 : Int32)) (v := (.int c2)) (by rw [e59]; exact Ar61.1) (State.isArrayOf_alike hZ.alike Ar61.2.1) Ar61.2.2 hin61 hat61 (g := (mkF m 12 #[.val (.ref a1), .val (.int (2 : Int32)), .val (.ref b1), .val (.int (2 : Int32)), .val (.int (3 : Int32)), .val (.int (2 : Int32)), .val (.int c1)] [(.int (2 : Int32)), (.ref a1)])) rfl rfl (hb hby d142_12) _ q) ?_
      refine own_ls #[.val (.ref a1), .val (.int (2 : Int32)), .val (.ref b1), .val (.int (2 : Int32)), .val (.int (3 : Int32)), .val (.int (2 : Int32)), .val (.int c2)] 15 (fun _ q => XS.istore X59.here hx rfl (hb hby d142_13) rfl (l' := #[.val (.ref a1), .val (.int (2 : Int32)), .val (.ref b1), .val (.int (2 : Int32)), .val (.int (3 : Int32)), .val (.int (2 : Int32)), .val (.int c2)]) rfl q) ?_
      refine own_tp (.int c2) 17 (fun _ q => XS.iload X59.here hx rfl (hb hby d142_15) rfl q) ?_
      refine own_tp (.int (255 : Int32)) 20 (fun _ q => XS.sipush X59.here hx rfl (hb hby d142_17) q) ?_
      by_cases c62 : (255 : Int32) < c2
      ·
        refine own_d2 23 (fun _ q => XS.icmpNo X59.here hx rfl (hb hby d142_20) rfl (tlt c62).2.2.2 q) ?_
        refine own_tp (.int (2 : Int32)) 25 (fun _ q => XS.iload X59.here hx rfl (hb hby d142_23) rfl q) ?_
        exact own_retI X59 hx hrt (hb hby d142_25) hlk (by decide) (by decide) e59 (⟨N59, K59, (Or.inr (Or.inr (Or.inl ⟨rfl, c62⟩)))⟩)
      ·
        refine own_d2 26 (fun _ q => XS.icmpYes X59.here hx rfl (pc0 := 20) (pc' := 26) rfl (hb hby d142_20) rfl (flt c62).2.2.2 (by decide) (by decide) q) ?_
        refine own_tp (.ref b1) 27 (fun _ q => XS.aloadN X59.here hx rfl (hb hby d142_26) rfl rfl q) ?_
        refine own_tp (.int (2 : Int32)) 28 (fun _ q => XS.iloadN X59.here hx rfl (hb hby d142_27) rfl q) ?_
        refine own_tp (.int c2) 30 (fun _ q => XS.iload X59.here hx rfl (hb hby d142_28) rfl q) ?_
        refine own_t1 (.int (c2.toInt8.toInt32)) 31 (fun _ q => XS.i2b X59.here hx rfl (hb hby d142_30) rfl q) ?_
        obtain ⟨cl63, Ar63, q63, S63, Nn63, H63, G63⟩ := (id V59')
        have hin63 : ¬ ((2 : Int32) < 0 ∨ cl63.slots.size ≤ ((2 : Int32)).toNatClampNeg) := inb_of S63 ⟨by decide, by decide⟩
        obtain ⟨T64, h64, X64, e64, W64, st64⟩ := stB X59 hx hZ e59 Ar63 (j := (2 : Int32)) hin63 (g := (mkF m 31 #[.val (.ref a1), .val (.int (2 : Int32)), .val (.ref b1), .val (.int (2 : Int32)), .val (.int (3 : Int32)), .val (.int (2 : Int32)), .val (.int c2)] [(.int (c2.toInt8.toInt32)), (.int (2 : Int32)), (.ref b1)])) rfl rfl (hb hby d142_31)
        have V64 := Arv.set Ar63 q63 S63 Nn63 H63 G63 (fits_nar_byte _) W64 2 rfl (Nat.le_of_ble_eq_true rfl)
        have N64 := Fr.snoc X64 N59 g1
        have K64 : Keep h0 h64 [b1] := K59.wr W64 (Or.inl (List.mem_of_getElem? (i := 0) rfl))
        have Z64 : n0 ≤ h64.size := Nat.le_trans Z59 (Nat.le_of_eq W64.size.symm)
        have V64' : Arv Z h64 b1 k2 .byte (3 : Int32) [(.int (c0.toInt8.toInt32)), (.int (c1.toInt8.toInt32)), (.int (c2.toInt8.toInt32))] (.int (0 : Int32)) := by have q := V64; first | (rw [own_nb] at q; exact q) | (rw [own_nb2] at q; exact q)
        refine own_cs [] 32 st64 ?_
        refine own_li #[.val (.ref a1), .val (.int (3 : Int32)), .val (.ref b1), .val (.int (2 : Int32)), .val (.int (3 : Int32)), .val (.int (2 : Int32)), .val (.int c2)] 35 (fun _ q => XS.iinc X64.here hx rfl (hb hby d142_32) rfl (l' := #[.val (.ref a1), .val (.int (3 : Int32)), .val (.ref b1), .val (.int (2 : Int32)), .val (.int (3 : Int32)), .val (.int (2 : Int32)), .val (.int c2)]) rfl q) ?_
        refine own_li #[.val (.ref a1), .val (.int (3 : Int32)), .val (.ref b1), .val (.int (3 : Int32)), .val (.int (3 : Int32)), .val (.int (2 : Int32)), .val (.int c2)] 38 (fun _ q => XS.iinc X64.here hx rfl (hb hby d142_35) rfl (l' := #[.val (.ref a1), .val (.int (3 : Int32)), .val (.ref b1), .val (.int (3 : Int32)), .val (.int (3 : Int32)), .val (.int (2 : Int32)), .val (.int c2)]) rfl q) ?_
        refine own_li #[.val (.ref a1), .val (.int (3 : Int32)), .val (.ref b1), .val (.int (3 : Int32)), .val (.int (3 : Int32)), .val (.int (3 : Int32)), .val (.int c2)] 41 (fun _ q => XS.iinc X64.here hx rfl (hb hby d142_38) rfl (l' := #[.val (.ref a1), .val (.int (3 : Int32)), .val (.ref b1), .val (.int (3 : Int32)), .val (.int (3 : Int32)), .val (.int (3 : Int32)), .val (.int c2)]) rfl q) ?_
        refine own_d0 3 (fun _ q => XS.goto X64.here hx rfl (pc0 := 41) (pc' := 3) rfl (hb hby d142_41) (by decide) (by decide) q) ?_
        refine own_tp (.int (3 : Int32)) 5 (fun _ q => XS.iload X64.here hx rfl (hb hby d142_3) rfl q) ?_
        refine own_tp (.int (3 : Int32)) 7 (fun _ q => XS.iload X64.here hx rfl (hb hby d142_5) rfl q) ?_
        refine own_d2 44 (fun _ q => XS.icmpYes X64.here hx rfl (pc0 := 7) (pc' := 44) rfl (hb hby d142_7) rfl (flt (by decide : ¬ ((3 : Int32) < (3 : Int32)))).2.1 (by decide) (by decide) q) ?_
        refine own_tp (.int (3 : Int32)) 46 (fun _ q => XS.iload X64.here hx rfl (hb hby d142_44) rfl q) ?_
        exact own_retI X64 hx hrt (hb hby d142_46) hlk (by decide) (by decide) e64 (⟨N64, K64, (Or.inr (Or.inr (Or.inr ⟨rfl, ⟨c52, c57, c62⟩, V64'⟩)))⟩)

def Q143  (h0 : Heap) (n0 : Nat) (v : Option Value) (h : Heap) (L : List Loc) : Prop := v = some (.int (6 : Int32)) ∧ Fr n0 L ∧ h = h0

theorem d143_0 : decode jdk_52_method_3_code 0 = .ok (.iload_n 0, 1) := by decide +kernel
theorem d143_1 : decode jdk_52_method_3_code 1 = .ok (.ifCond .ge 11, 3) := by decide +kernel
theorem d143_12 : decode jdk_52_method_3_code 12 = .ok (.iload_n 0, 1) := by decide +kernel
theorem d143_13 : decode jdk_52_method_3_code 13 = .ok (.ldc 20, 2) := by decide +kernel
theorem d143_15 : decode jdk_52_method_3_code 15 = .ok (.if_icmp .lt 40, 3) := by decide +kernel
theorem d143_55 : decode jdk_52_method_3_code 55 = .ok (.iload_n 0, 1) := by decide +kernel
theorem d143_56 : decode jdk_52_method_3_code 56 = .ok (.iconst 1, 1) := by decide +kernel
theorem d143_57 : decode jdk_52_method_3_code 57 = .ok (.ishl, 1) := by decide +kernel
theorem d143_58 : decode jdk_52_method_3_code 58 = .ok (.ireturn, 1) := by decide +kernel
theorem pn143 : plainName "java/lang/StringUTF16" = true := by first | (simp [plainName, overriddenIn]; done) | decide +kernel
theorem ef143 (m : MethodId) (x0 : Int32) : entryFrame m #[(.int x0)] 1 = mkF m 0 #[.val (.int x0)] [] := by first | (simp [entryFrame, mkF, argsToLocals, Value.category]; done) | rfl
set_option maxRecDepth 65536 in
set_option maxHeartbeats 40000000 in
theorem rm143 (l : Launch) (Z : State) (a0 : Array Value) (hw : ∀ d ∈ tables_1, d.before a0 Z = true) (ws : List Jvm.Cond)  (h0 : Heap) (n0 : Nat)  :
    own_Met l (⟨"java/lang/StringUTF16", "newBytesLength", "(I)I"⟩ : MethodName) jdk_52_method_3_code 1 (some .int) ws ({ frames := 0, cells := 0, slots := 0, locals := 0 } : Room) Z #[(.int (3 : Int32))] h0 (Q143 h0 n0) := by
  refine own_enter #[.val (.int (3 : Int32))] (plainFor_of_name pn143) (fun m => ef143 m (3 : Int32)) ?_
  intro p e s m below meth c s₁ hx hby hml hown hnm hZ hrt hlk X0 e0
  have N0 := Fr.nil n0
  refine own_tp (.int (3 : Int32)) 1 (fun _ q => XS.iloadN X0.here hx rfl (hb hby d143_0) rfl q) ?_
  refine own_d1 12 (fun _ q => XS.ifYes X0.here hx rfl (pc0 := 1) (pc' := 12) rfl (hb hby d143_1) rfl ((if0 _ _).trans (flt (by decide : ¬ ((3 : Int32) < (0 : Int32)))).2.1) (by decide) (by decide) q) ?_
  refine own_tp (.int (3 : Int32)) 13 (fun _ q => XS.iloadN X0.here hx rfl (hb hby d143_12) rfl q) ?_
  refine own_tp (.int (1073741823 : Int32)) 15 (fun _ q => X0.ldcInt hx hown (mvT hZ (hw _ (List.mem_of_getElem? (i := 101) rfl))) (g := (mkF m 13 #[.val (.int (3 : Int32))] [(.int (3 : Int32))])) rfl (hb hby d143_13) _ q) ?_
  refine own_d2 55 (fun _ q => XS.icmpYes X0.here hx rfl (pc0 := 15) (pc' := 55) rfl (hb hby d143_15) rfl (tlt (by decide : (3 : Int32) < (1073741823 : Int32))).1 (by decide) (by decide) q) ?_
  refine own_tp (.int (3 : Int32)) 56 (fun _ q => XS.iloadN X0.here hx rfl (hb hby d143_55) rfl q) ?_
  refine own_tp (.int (1 : Int32)) 57 (fun _ q => XS.iconst X0.here hx rfl (hb hby d143_56) q) ?_
  refine own_t2 (.int (6 : Int32)) 58 (fun _ q => XS.ishl X0.here hx rfl (hb hby d143_57) rfl q) ?_
  exact own_retI X0 hx hrt (hb hby d143_58) hlk (by decide) (by decide) e0 (⟨rfl, N0, rfl⟩)

def Q144 (Z : State) (h0 : Heap) (n0 : Nat) (v : Option Value) (h : Heap) (L : List Loc) : Prop := ∃ (b : Addr) (k : ClassId), v = some (.ref b) ∧ Fr n0 L ∧ Keep h0 h [] ∧ n0 ≤ b ∧ h0.size ≤ b ∧ Arv Z h b k .byte (6 : Int32) [(.int (0 : Int32)), (.int (0 : Int32)), (.int (0 : Int32)), (.int (0 : Int32)), (.int (0 : Int32)), (.int (0 : Int32))] (.int (0 : Int32))

theorem d144_0 : decode jdk_52_method_2_code 0 = .ok (.iload_n 0, 1) := by decide +kernel
theorem d144_1 : decode jdk_52_method_2_code 1 = .ok (.invokestatic 11, 3) := by decide +kernel
theorem d144_4 : decode jdk_52_method_2_code 4 = .ok (.newarray .byte, 2) := by decide +kernel
theorem d144_6 : decode jdk_52_method_2_code 6 = .ok (.areturn, 1) := by decide +kernel
theorem pn144 : plainName "java/lang/StringUTF16" = true := by first | (simp [plainName, overriddenIn]; done) | decide +kernel
theorem pd144_0 : parseMethodDescriptor "(I)I" = some ⟨[.int], some .int⟩ := by decide +kernel
theorem ef144 (m : MethodId) (x0 : Int32) : entryFrame m #[(.int x0)] 1 = mkF m 0 #[.val (.int x0)] [] := by first | (simp [entryFrame, mkF, argsToLocals, Value.category]; done) | rfl
set_option maxRecDepth 65536 in
set_option maxHeartbeats 40000000 in
theorem rm144 (l : Launch) (Z : State) (a0 : Array Value) (hw : ∀ d ∈ tables_1, d.before a0 Z = true) (ws : List Jvm.Cond)  (h0 : Heap) (n0 : Nat) (Z0 : n0 ≤ h0.size) :
    own_Met l (⟨"java/lang/StringUTF16", "newBytesFor", "(I)[B"⟩ : MethodName) jdk_52_method_2_code 1 (some (.array .byte)) ws ({ frames := 1, cells := 1, slots := 6, locals := 12 } : Room) Z #[(.int (3 : Int32))] h0 (Q144 Z h0 n0) := by
  refine own_enter #[.val (.int (3 : Int32))] (plainFor_of_name pn144) (fun m => ef144 m (3 : Int32)) ?_
  intro p e s m below meth c s₁ hx hby hml hown hnm hZ hrt hlk X0 e0
  have N0 := Fr.nil n0
  refine own_tp (.int (3 : Int32)) 1 (fun _ q => XS.iloadN X0.here hx rfl (hb hby d144_0) rfl q) ?_
  obtain ⟨_, _, ⟨T51, L51, k51, n51⟩, -, X51, ⟨Lc51, hQ51, l51, y51, z51⟩, st51⟩ := Jvm.LawKit.callS X0 hx (y := (⟨"java/lang/StringUTF16", "newBytesLength", "(I)I"⟩ : MethodName)) hown (mvT hZ (hw _ (List.mem_of_getElem? (i := 98) rfl))) (mvT hZ (hw _ (List.mem_of_getElem? (i := 99) rfl))) (mvT hZ (hw _ (List.mem_of_getElem? (i := 77) rfl))) (mvT hZ (hw _ (List.mem_of_getElem? (i := 100) rfl))) (by decide) (backOf (W := 0) (rm143 l Z a0 hw [] h0 n0) hZ (hw _ (List.mem_of_getElem? (i := 100) rfl)) (hw _ (List.mem_of_getElem? (i := 77) rfl)) (by decide) (by decide)) (g := (mkF m 1 #[.val (.int (3 : Int32))] [(.int (3 : Int32))])) rfl (by rw [hml]; rfl) (argsL := [(.int (3 : Int32))]) (rest := []) (lenOf pd144_0 rfl) rfl (by show 2 * 0 + _ ≤ _; exact Nat.le_of_eq rfl) (hb hby d144_1) (fun _ _ => ⟨rfl, e0, (by decide : 0 + 0 ≤ _), (by decide : 0 + 0 ≤ _)⟩)
  dsimp only [Pt.U, Pt.locs, Pt.cells, Pt.slots] at X51 l51 y51 z51 st51 hQ51
  subst l51 y51 z51
  obtain ⟨rfl, Nq51, eq51⟩ := hQ51
  have N51 := Fr.app N0 Nq51
  refine own_t1 (.int (6 : Int32)) 4 st51 ?_
  obtain ⟨T52, h52, k52, X52, e52, E52, A52, st52⟩ := newP X51 hx hZ (hw _ (List.mem_of_getElem? (i := 24) rfl)) eq51 (g := (mkF m 4 #[.val (.int (3 : Int32))] [(.int (6 : Int32))])) rfl (hb hby d144_4) rfl (by decide) (cap := 6) (by decide) (by decide) (by decide) (by decide)
  obtain ⟨b52, g52⟩ : ∃ z, z = h0.size := ⟨_, rfl⟩
  rw [← g52] at A52 st52
  have V52 : Arv Z h52 b52 k52 .byte (6 : Int32) [(.int (0 : Int32)), (.int (0 : Int32)), (.int (0 : Int32)), (.int (0 : Int32)), (.int (0 : Int32)), (.int (0 : Int32))] (.int (0 : Int32)) := (Arv.new A52 (by decide)).pad (pad_rep [] (.int (0 : Int32)) 6)
  have ge52 : n0 ≤ b52 := Nat.le_trans Z0 (Nat.le_of_eq g52.symm)
  have sz52 : h0.size ≤ b52 := Nat.le_trans (Keep.refl h0 []).1 (Nat.le_of_eq g52.symm)
  have K52 : Keep h0 h52 [] := (Keep.refl h0 []).ext E52
  have Z52 : n0 ≤ h52.size := Nat.le_trans Z0 E52.1
  refine own_t1 (.ref b52) 6 st52 ?_
  exact own_retR X52 hx hrt (hb hby d144_6) rfl rfl hlk (by decide) (by decide) e52 (⟨b52, _, rfl, N51, K52, ge52, sz52, V52⟩)

def Q145 (Z : State) (c0 c1 c2 : Int32) (h0 : Heap) (n0 : Nat) (v : Option Value) (h : Heap) (L : List Loc) : Prop := ∃ (b : Addr) (k : ClassId), v = some (.ref b) ∧ Fr n0 L ∧ Keep h0 h [] ∧ n0 ≤ b ∧ h0.size ≤ b ∧ Arv Z h b k .byte (6 : Int32) [(.int (own_b0 c0)), (.int (own_b1 c0)), (.int (own_b0 c1)), (.int (own_b1 c1)), (.int (own_b0 c2)), (.int (own_b1 c2))] (.int (0 : Int32))

theorem d145_0 : decode jdk_52_method_14_code 0 = .ok (.iload_n 2, 1) := by decide +kernel
theorem d145_1 : decode jdk_52_method_14_code 1 = .ok (.invokestatic 107, 3) := by decide +kernel
theorem d145_4 : decode jdk_52_method_14_code 4 = .ok (.astore_n 3, 1) := by decide +kernel
theorem d145_5 : decode jdk_52_method_14_code 5 = .ok (.iconst 0, 1) := by decide +kernel
theorem d145_6 : decode jdk_52_method_14_code 6 = .ok (.istore 4, 2) := by decide +kernel
theorem d145_8 : decode jdk_52_method_14_code 8 = .ok (.iload 4, 2) := by decide +kernel
theorem d145_10 : decode jdk_52_method_14_code 10 = .ok (.iload_n 2, 1) := by decide +kernel
theorem d145_11 : decode jdk_52_method_14_code 11 = .ok (.if_icmp .ge 21, 3) := by decide +kernel
theorem d145_14 : decode jdk_52_method_14_code 14 = .ok (.aload_n 3, 1) := by decide +kernel
theorem d145_15 : decode jdk_52_method_14_code 15 = .ok (.iload 4, 2) := by decide +kernel
theorem d145_17 : decode jdk_52_method_14_code 17 = .ok (.aload_n 0, 1) := by decide +kernel
theorem d145_18 : decode jdk_52_method_14_code 18 = .ok (.iload_n 1, 1) := by decide +kernel
theorem d145_19 : decode jdk_52_method_14_code 19 = .ok (.caload, 1) := by decide +kernel
theorem d145_20 : decode jdk_52_method_14_code 20 = .ok (.invokestatic 111, 3) := by decide +kernel
theorem d145_23 : decode jdk_52_method_14_code 23 = .ok (.iinc 1 1, 3) := by decide +kernel
theorem d145_26 : decode jdk_52_method_14_code 26 = .ok (.iinc 4 1, 3) := by decide +kernel
theorem d145_29 : decode jdk_52_method_14_code 29 = .ok (.goto (-21), 3) := by decide +kernel
theorem d145_32 : decode jdk_52_method_14_code 32 = .ok (.aload_n 3, 1) := by decide +kernel
theorem d145_33 : decode jdk_52_method_14_code 33 = .ok (.areturn, 1) := by decide +kernel
theorem pn145 : plainName "java/lang/StringUTF16" = true := by first | (simp [plainName, overriddenIn]; done) | decide +kernel
theorem pd145_0 : parseMethodDescriptor "(I)[B" = some ⟨[.int], some (.array .byte)⟩ := by decide +kernel
theorem pd145_1 : parseMethodDescriptor "([BII)V" = some ⟨[(.array .byte), .int, .int], none⟩ := by decide +kernel
theorem ef145 (m : MethodId) (x0 : Addr) (x1 : Int32) (x2 : Int32) : entryFrame m #[(.ref x0), (.int x1), (.int x2)] 5 = mkF m 0 #[.val (.ref x0), .val (.int x1), .val (.int x2), .unset, .unset] [] := by first | (simp [entryFrame, mkF, argsToLocals, Value.category]; done) | rfl
set_option maxRecDepth 65536 in
set_option maxHeartbeats 40000000 in
theorem rm145 (l : Launch) (Z : State) (a0 : Array Value) (hw : ∀ d ∈ tables_1, d.before a0 Z = true) (ws : List Jvm.Cond) (a1 : Addr) (k1 : ClassId) (c0 c1 c2 : Int32) (h0 : Heap) (n0 : Nat) (Z0 : n0 ≤ h0.size) (V1 : Arv Z h0 a1 k1 .char (3 : Int32) [(.int c0), (.int c1), (.int c2)] (.int (0 : Int32))) (G1 : Int32) (US : own_US Z G1) (O0 : Old Z n0 h0) :
    own_Met l (⟨"java/lang/StringUTF16", "toBytes", "([CII)[B"⟩ : MethodName) jdk_52_method_14_code 5 (some (.array .byte)) ws ({ frames := 2, cells := 1, slots := 6, locals := 24 } : Room) Z #[(.ref a1), (.int (0 : Int32)), (.int (3 : Int32))] h0 (Q145 Z c0 c1 c2 h0 n0) := by
  refine own_enter #[.val (.ref a1), .val (.int (0 : Int32)), .val (.int (3 : Int32)), .unset, .unset] (plainFor_of_name pn145) (fun m => ef145 m a1 (0 : Int32) (3 : Int32)) ?_
  intro p e s m below meth c s₁ hx hby hml hown hnm hZ hrt hlk X0 e0
  have N0 := Fr.nil n0
  refine own_tp (.int (3 : Int32)) 1 (fun _ q => XS.iloadN X0.here hx rfl (hb hby d145_0) rfl q) ?_
  obtain ⟨_, _, ⟨T51, L51, k51, n51⟩, -, X51, ⟨Lc51, hQ51, l51, y51, z51⟩, st51⟩ := Jvm.LawKit.callS X0 hx (y := (⟨"java/lang/StringUTF16", "newBytesFor", "(I)[B"⟩ : MethodName)) hown (mvT hZ (hw _ (List.mem_of_getElem? (i := 95) rfl))) (mvT hZ (hw _ (List.mem_of_getElem? (i := 96) rfl))) (mvT hZ (hw _ (List.mem_of_getElem? (i := 77) rfl))) (mvT hZ (hw _ (List.mem_of_getElem? (i := 97) rfl))) (by decide) (backOf (W := 0) (rm144 l Z a0 hw [] h0 n0 Z0) hZ (hw _ (List.mem_of_getElem? (i := 97) rfl)) (hw _ (List.mem_of_getElem? (i := 77) rfl)) (by decide) (by decide)) (g := (mkF m 1 #[.val (.ref a1), .val (.int (0 : Int32)), .val (.int (3 : Int32)), .unset, .unset] [(.int (3 : Int32))])) rfl (by rw [hml]; rfl) (argsL := [(.int (3 : Int32))]) (rest := []) (lenOf pd145_0 rfl) rfl (by show 2 * 0 + _ ≤ _; exact Nat.le_of_eq rfl) (hb hby d145_1) (fun _ _ => ⟨rfl, e0, (by decide : 0 + 1 ≤ _), (by decide : 0 + 6 ≤ _)⟩)
  dsimp only [Pt.U, Pt.locs, Pt.cells, Pt.slots] at X51 l51 y51 z51 st51 hQ51
  subst l51 y51 z51
  obtain ⟨nb51, kn51, rfl, Nq51, Kp51, ge51, sz51, V51⟩ := hQ51
  have ne52 : a1 ≠ nb51 := Nat.ne_of_lt (Nat.lt_of_lt_of_le V1.lt sz51)
  have s0nb51 : h0.size ≤ nb51 := Nat.le_trans (Keep.refl h0 []).1 sz51
  have N51 := Fr.app N0 Nq51
  have O51 := Old.keep O0 Kp51 all0
  have Z51 : n0 ≤ T51.heap.size := Nat.le_trans Z0 Kp51.1
  have K51 : Keep h0 T51.heap [] := Keep.trans (Keep.refl h0 []) Kp51 all0
  refine own_t1 (.ref nb51) 4 st51 ?_
  refine own_ls #[.val (.ref a1), .val (.int (0 : Int32)), .val (.int (3 : Int32)), .val (.ref nb51), .unset] 5 (fun _ q => XS.astoreN X51.here hx rfl (hb hby d145_4) rfl rfl (l' := #[.val (.ref a1), .val (.int (0 : Int32)), .val (.int (3 : Int32)), .val (.ref nb51), .unset]) rfl q) ?_
  refine own_tp (.int (0 : Int32)) 6 (fun _ q => XS.iconst X51.here hx rfl (hb hby d145_5) q) ?_
  refine own_ls #[.val (.ref a1), .val (.int (0 : Int32)), .val (.int (3 : Int32)), .val (.ref nb51), .val (.int (0 : Int32))] 8 (fun _ q => XS.istore X51.here hx rfl (hb hby d145_6) rfl (l' := #[.val (.ref a1), .val (.int (0 : Int32)), .val (.int (3 : Int32)), .val (.ref nb51), .val (.int (0 : Int32))]) rfl q) ?_
  refine own_tp (.int (0 : Int32)) 10 (fun _ q => XS.iload X51.here hx rfl (hb hby d145_8) rfl q) ?_
  refine own_tp (.int (3 : Int32)) 11 (fun _ q => XS.iloadN X51.here hx rfl (hb hby d145_10) rfl q) ?_
  refine own_d2 14 (fun _ q => XS.icmpNo X51.here hx rfl (hb hby d145_11) rfl (tlt (by decide : (0 : Int32) < (3 : Int32))).2.1 q) ?_
  refine own_tp (.ref nb51) 15 (fun _ q => XS.aloadN X51.here hx rfl (hb hby d145_14) rfl rfl q) ?_
  refine own_tp (.int (0 : Int32)) 17 (fun _ q => XS.iload X51.here hx rfl (hb hby d145_15) rfl q) ?_
  refine own_tp (.ref a1) 18 (fun _ q => XS.aloadN X51.here hx rfl (hb hby d145_17) rfl rfl q) ?_
  refine own_tp (.int (0 : Int32)) 19 (fun _ q => XS.iloadN X51.here hx rfl (hb hby d145_18) rfl q) ?_
  have f53 := (V1.keep Kp51 nin0)
  obtain ⟨cl54, Ar54, q54, S54, Nn54, H54, G54⟩ := (id f53)
  have hin54 : ¬ ((0 : Int32) < 0 ∨ cl54.slots.size ≤ ((0 : Int32)).toNatClampNeg) := inb_of S54 ⟨by decide, by decide⟩
  have hat54 : cl54.slots[((0 : Int32)).toNatClampNeg]? = some (.int c0) := H54.at hin54 rfl
  refine own_t2 (.int c0) 20 (fun _ q => X51.caload hx (j := (0 : Int32)) (v := (.int c0)) Ar54.1 (State.isArrayOf_alike hZ.alike Ar54.2.1) Ar54.2.2 hin54 hat54 (g := (mkF m 19 #[.val (.ref a1), .val (.int (0 : Int32)), .val (.int (3 : Int32)), .val (.ref nb51), .val (.int (0 : Int32))] [(.int (0 : Int32)), (.ref a1), (.int (0 : Int32)), (.ref nb51)])) rfl rfl (hb hby d145_19) _ q) ?_
  obtain ⟨_, _, ⟨T55, L55, k55, n55⟩, -, X55, ⟨Lc55, hQ55, l55, y55, z55⟩, st55⟩ := Jvm.LawKit.callS X51 hx (y := (⟨"java/lang/StringUTF16", "putChar", "([BII)V"⟩ : MethodName)) hown (mvT hZ (hw _ (List.mem_of_getElem? (i := 102) rfl))) (mvT hZ (hw _ (List.mem_of_getElem? (i := 103) rfl))) (mvT hZ (hw _ (List.mem_of_getElem? (i := 77) rfl))) (mvT hZ (hw _ (List.mem_of_getElem? (i := 104) rfl))) (by decide) (backOf (W := 0) (rm126 l Z a0 hw [] nb51 kn51 0 c0 [(.int (0 : Int32)), (.int (0 : Int32)), (.int (0 : Int32)), (.int (0 : Int32)), (.int (0 : Int32)), (.int (0 : Int32))] T51.heap n0 Z51 ge51 (by simp) (by simp) V51 G1 US O51) hZ (hw _ (List.mem_of_getElem? (i := 104) rfl)) (hw _ (List.mem_of_getElem? (i := 77) rfl)) (by decide) (by decide)) (g := (mkF m 20 #[.val (.ref a1), .val (.int (0 : Int32)), .val (.int (3 : Int32)), .val (.ref nb51), .val (.int (0 : Int32))] [(.int c0), (.int (0 : Int32)), (.ref nb51)])) rfl (by rw [hml]; rfl) (argsL := [(.ref nb51), (.int (0 : Int32)), (.int c0)]) (rest := []) (lenOf pd145_1 rfl) rfl (by show 2 * 0 + _ ≤ _; exact Nat.le_of_eq rfl) (hb hby d145_20) (fun _ _ => ⟨rfl, rfl, (by decide : 1 + 0 ≤ _), (by decide : 6 + 0 ≤ _)⟩)
  dsimp only [Pt.U, Pt.locs, Pt.cells, Pt.slots] at X55 l55 y55 z55 st55 hQ55
  subst l55 y55 z55
  obtain ⟨rfl, Nq55, Kp55, V55⟩ := hQ55
  have N55 := Fr.app N51 Nq55
  have O55 := Old.keep O51 Kp55 (allS ge51 all0)
  have Z55 : n0 ≤ T55.heap.size := Nat.le_trans Z51 Kp55.1
  have K55 : Keep h0 T55.heap [] := Keep.trans K51 Kp55 (allS (Or.inr s0nb51) all0)
  have V55' : Arv Z T55.heap nb51 kn51 .byte (6 : Int32) [(.int (own_b0 c0)), (.int (own_b1 c0)), (.int (0 : Int32)), (.int (0 : Int32)), (.int (0 : Int32)), (.int (0 : Int32))] (.int (0 : Int32)) := V55
  refine own_cs [] 23 st55 ?_
  refine own_li #[.val (.ref a1), .val (.int (1 : Int32)), .val (.int (3 : Int32)), .val (.ref nb51), .val (.int (0 : Int32))] 26 (fun _ q => XS.iinc X55.here hx rfl (hb hby d145_23) rfl (l' := #[.val (.ref a1), .val (.int (1 : Int32)), .val (.int (3 : Int32)), .val (.ref nb51), .val (.int (0 : Int32))]) rfl q) ?_
  refine own_li #[.val (.ref a1), .val (.int (1 : Int32)), .val (.int (3 : Int32)), .val (.ref nb51), .val (.int (1 : Int32))] 29 (fun _ q => XS.iinc X55.here hx rfl (hb hby d145_26) rfl (l' := #[.val (.ref a1), .val (.int (1 : Int32)), .val (.int (3 : Int32)), .val (.ref nb51), .val (.int (1 : Int32))]) rfl q) ?_
  refine own_d0 8 (fun _ q => XS.goto X55.here hx rfl (pc0 := 29) (pc' := 8) rfl (hb hby d145_29) (by decide) (by decide) q) ?_
  refine own_tp (.int (1 : Int32)) 10 (fun _ q => XS.iload X55.here hx rfl (hb hby d145_8) rfl q) ?_
  refine own_tp (.int (3 : Int32)) 11 (fun _ q => XS.iloadN X55.here hx rfl (hb hby d145_10) rfl q) ?_
  refine own_d2 14 (fun _ q => XS.icmpNo X55.here hx rfl (hb hby d145_11) rfl (tlt (by decide : (1 : Int32) < (3 : Int32))).2.1 q) ?_
  refine own_tp (.ref nb51) 15 (fun _ q => XS.aloadN X55.here hx rfl (hb hby d145_14) rfl rfl q) ?_
  refine own_tp (.int (1 : Int32)) 17 (fun _ q => XS.iload X55.here hx rfl (hb hby d145_15) rfl q) ?_
  refine own_tp (.ref a1) 18 (fun _ q => XS.aloadN X55.here hx rfl (hb hby d145_17) rfl rfl q) ?_
  refine own_tp (.int (1 : Int32)) 19 (fun _ q => XS.iloadN X55.here hx rfl (hb hby d145_18) rfl q) ?_
  have f56 := (f53.keep Kp55 (ninS ne52 nin0))
  obtain ⟨cl57, Ar57, q57, S57, Nn57, H57, G57⟩ := (id f56)
  have hin57 : ¬ ((1 : Int32) < 0 ∨ cl57.slots.size ≤ ((1 : Int32)).toNatClampNeg) := inb_of S57 ⟨by decide, by decide⟩
  have hat57 : cl57.slots[((1 : Int32)).toNatClampNeg]? = some (.int c1) := H57.at hin57 rfl
  refine own_t2 (.int c1) 20 (fun _ q => X55.caload hx (j := (1 : Int32)) (v := (.int c1)) Ar57.1 (State.isArrayOf_alike hZ.alike Ar57.2.1) Ar57.2.2 hin57 hat57 (g := (mkF m 19 #[.val (.ref a1), .val (.int (1 : Int32)), .val (.int (3 : Int32)), .val (.ref nb51), .val (.int (1 : Int32))] [(.int (1 : Int32)), (.ref a1), (.int (1 : Int32)), (.ref nb51)])) rfl rfl (hb hby d145_19) _ q) ?_
  obtain ⟨_, _, ⟨T58, L58, k58, n58⟩, -, X58, ⟨Lc58, hQ58, l58, y58, z58⟩, st58⟩ := Jvm.LawKit.callS X55 hx (y := (⟨"java/lang/StringUTF16", "putChar", "([BII)V"⟩ : MethodName)) hown (mvT hZ (hw _ (List.mem_of_getElem? (i := 102) rfl))) (mvT hZ (hw _ (List.mem_of_getElem? (i := 103) rfl))) (mvT hZ (hw _ (List.mem_of_getElem? (i := 77) rfl))) (mvT hZ (hw _ (List.mem_of_getElem? (i := 104) rfl))) (by decide) (backOf (W := 0) (rm126 l Z a0 hw [] nb51 kn51 1 c1 [(.int (own_b0 c0)), (.int (own_b1 c0)), (.int (0 : Int32)), (.int (0 : Int32)), (.int (0 : Int32)), (.int (0 : Int32))] T55.heap n0 Z55 ge51 (by simp) (by simp) V55' G1 US O55) hZ (hw _ (List.mem_of_getElem? (i := 104) rfl)) (hw _ (List.mem_of_getElem? (i := 77) rfl)) (by decide) (by decide)) (g := (mkF m 20 #[.val (.ref a1), .val (.int (1 : Int32)), .val (.int (3 : Int32)), .val (.ref nb51), .val (.int (1 : Int32))] [(.int c1), (.int (1 : Int32)), (.ref nb51)])) rfl (by rw [hml]; rfl) (argsL := [(.ref nb51), (.int (1 : Int32)), (.int c1)]) (rest := []) (lenOf pd145_1 rfl) rfl (by show 2 * 0 + _ ≤ _; exact Nat.le_of_eq rfl) (hb hby d145_20) (fun _ _ => ⟨rfl, rfl, (by decide : 1 + 0 ≤ _), (by decide : 6 + 0 ≤ _)⟩)
  dsimp only [Pt.U, Pt.locs, Pt.cells, Pt.slots] at X58 l58 y58 z58 st58 hQ58
  subst l58 y58 z58
  obtain ⟨rfl, Nq58, Kp58, V58⟩ := hQ58
  have N58 := Fr.app N55 Nq58
  have O58 := Old.keep O55 Kp58 (allS ge51 all0)
  have Z58 : n0 ≤ T58.heap.size := Nat.le_trans Z55 Kp58.1
  have K58 : Keep h0 T58.heap [] := Keep.trans K55 Kp58 (allS (Or.inr s0nb51) all0)
  have V58' : Arv Z T58.heap nb51 kn51 .byte (6 : Int32) [(.int (own_b0 c0)), (.int (own_b1 c0)), (.int (own_b0 c1)), (.int (own_b1 c1)), (.int (0 : Int32)), (.int (0 : Int32))] (.int (0 : Int32)) := V58
  refine own_cs [] 23 st58 ?_
  refine own_li #[.val (.ref a1), .val (.int (2 : Int32)), .val (.int (3 : Int32)), .val (.ref nb51), .val (.int (1 : Int32))] 26 (fun _ q => XS.iinc X58.here hx rfl (hb hby d145_23) rfl (l' := #[.val (.ref a1), .val (.int (2 : Int32)), .val (.int (3 : Int32)), .val (.ref nb51), .val (.int (1 : Int32))]) rfl q) ?_
  refine own_li #[.val (.ref a1), .val (.int (2 : Int32)), .val (.int (3 : Int32)), .val (.ref nb51), .val (.int (2 : Int32))] 29 (fun _ q => XS.iinc X58.here hx rfl (hb hby d145_26) rfl (l' := #[.val (.ref a1), .val (.int (2 : Int32)), .val (.int (3 : Int32)), .val (.ref nb51), .val (.int (2 : Int32))]) rfl q) ?_
  refine own_d0 8 (fun _ q => XS.goto X58.here hx rfl (pc0 := 29) (pc' := 8) rfl (hb hby d145_29) (by decide) (by decide) q) ?_
  refine own_tp (.int (2 : Int32)) 10 (fun _ q => XS.iload X58.here hx rfl (hb hby d145_8) rfl q) ?_
  refine own_tp (.int (3 : Int32)) 11 (fun _ q => XS.iloadN X58.here hx rfl (hb hby d145_10) rfl q) ?_
  refine own_d2 14 (fun _ q => XS.icmpNo X58.here hx rfl (hb hby d145_11) rfl (tlt (by decide : (2 : Int32) < (3 : Int32))).2.1 q) ?_
  refine own_tp (.ref nb51) 15 (fun _ q => XS.aloadN X58.here hx rfl (hb hby d145_14) rfl rfl q) ?_
  refine own_tp (.int (2 : Int32)) 17 (fun _ q => XS.iload X58.here hx rfl (hb hby d145_15) rfl q) ?_
  refine own_tp (.ref a1) 18 (fun _ q => XS.aloadN X58.here hx rfl (hb hby d145_17) rfl rfl q) ?_
  refine own_tp (.int (2 : Int32)) 19 (fun _ q => XS.iloadN X58.here hx rfl (hb hby d145_18) rfl q) ?_
  have f59 := (f56.keep Kp58 (ninS ne52 nin0))
  obtain ⟨cl60, Ar60, q60, S60, Nn60, H60, G60⟩ := (id f59)
  have hin60 : ¬ ((2 : Int32) < 0 ∨ cl60.slots.size ≤ ((2 : Int32)).toNatClampNeg) := inb_of S60 ⟨by decide, by decide⟩
  have hat60 : cl60.slots[((2 : Int32)).toNatClampNeg]? = some (.int c2) := H60.at hin60 rfl
  refine own_t2 (.int c2) 20 (fun _ q => X58.caload hx (j := (2 : Int32)) (v := (.int c2)) Ar60.1 (State.isArrayOf_alike hZ.alike Ar60.2.1) Ar60.2.2 hin60 hat60 (g := (mkF m 19 #[.val (.ref a1), .val (.int (2 : Int32)), .val (.int (3 : Int32)), .val (.ref nb51), .val (.int (2 : Int32))] [(.int (2 : Int32)), (.ref a1), (.int (2 : Int32)), (.ref nb51)])) rfl rfl (hb hby d145_19) _ q) ?_
  obtain ⟨_, _, ⟨T61, L61, k61, n61⟩, -, X61, ⟨Lc61, hQ61, l61, y61, z61⟩, st61⟩ := Jvm.LawKit.callS X58 hx (y := (⟨"java/lang/StringUTF16", "putChar", "([BII)V"⟩ : MethodName)) hown (mvT hZ (hw _ (List.mem_of_getElem? (i := 102) rfl))) (mvT hZ (hw _ (List.mem_of_getElem? (i := 103) rfl))) (mvT hZ (hw _ (List.mem_of_getElem? (i := 77) rfl))) (mvT hZ (hw _ (List.mem_of_getElem? (i := 104) rfl))) (by decide) (backOf (W := 0) (rm126 l Z a0 hw [] nb51 kn51 2 c2 [(.int (own_b0 c0)), (.int (own_b1 c0)), (.int (own_b0 c1)), (.int (own_b1 c1)), (.int (0 : Int32)), (.int (0 : Int32))] T58.heap n0 Z58 ge51 (by simp) (by simp) V58' G1 US O58) hZ (hw _ (List.mem_of_getElem? (i := 104) rfl)) (hw _ (List.mem_of_getElem? (i := 77) rfl)) (by decide) (by decide)) (g := (mkF m 20 #[.val (.ref a1), .val (.int (2 : Int32)), .val (.int (3 : Int32)), .val (.ref nb51), .val (.int (2 : Int32))] [(.int c2), (.int (2 : Int32)), (.ref nb51)])) rfl (by rw [hml]; rfl) (argsL := [(.ref nb51), (.int (2 : Int32)), (.int c2)]) (rest := []) (lenOf pd145_1 rfl) rfl (by show 2 * 0 + _ ≤ _; exact Nat.le_of_eq rfl) (hb hby d145_20) (fun _ _ => ⟨rfl, rfl, (by decide : 1 + 0 ≤ _), (by decide : 6 + 0 ≤ _)⟩)
  dsimp only [Pt.U, Pt.locs, Pt.cells, Pt.slots] at X61 l61 y61 z61 st61 hQ61
  subst l61 y61 z61
  obtain ⟨rfl, Nq61, Kp61, V61⟩ := hQ61
  have N61 := Fr.app N58 Nq61
  have O61 := Old.keep O58 Kp61 (allS ge51 all0)
  have Z61 : n0 ≤ T61.heap.size := Nat.le_trans Z58 Kp61.1
  have K61 : Keep h0 T61.heap [] := Keep.trans K58 Kp61 (allS (Or.inr s0nb51) all0)
  have V61' : Arv Z T61.heap nb51 kn51 .byte (6 : Int32) [(.int (own_b0 c0)), (.int (own_b1 c0)), (.int (own_b0 c1)), (.int (own_b1 c1)), (.int (own_b0 c2)), (.int (own_b1 c2))] (.int (0 : Int32)) := V61
  refine own_cs [] 23 st61 ?_
  refine own_li #[.val (.ref a1), .val (.int (3 : Int32)), .val (.int (3 : Int32)), .val (.ref nb51), .val (.int (2 : Int32))] 26 (fun _ q => XS.iinc X61.here hx rfl (hb hby d145_23) rfl (l' := #[.val (.ref a1), .val (.int (3 : Int32)), .val (.int (3 : Int32)), .val (.ref nb51), .val (.int (2 : Int32))]) rfl q) ?_
  refine own_li #[.val (.ref a1), .val (.int (3 : Int32)), .val (.int (3 : Int32)), .val (.ref nb51), .val (.int (3 : Int32))] 29 (fun _ q => XS.iinc X61.here hx rfl (hb hby d145_26) rfl (l' := #[.val (.ref a1), .val (.int (3 : Int32)), .val (.int (3 : Int32)), .val (.ref nb51), .val (.int (3 : Int32))]) rfl q) ?_
  refine own_d0 8 (fun _ q => XS.goto X61.here hx rfl (pc0 := 29) (pc' := 8) rfl (hb hby d145_29) (by decide) (by decide) q) ?_
  refine own_tp (.int (3 : Int32)) 10 (fun _ q => XS.iload X61.here hx rfl (hb hby d145_8) rfl q) ?_
  refine own_tp (.int (3 : Int32)) 11 (fun _ q => XS.iloadN X61.here hx rfl (hb hby d145_10) rfl q) ?_
  refine own_d2 32 (fun _ q => XS.icmpYes X61.here hx rfl (pc0 := 11) (pc' := 32) rfl (hb hby d145_11) rfl (flt (by decide : ¬ ((3 : Int32) < (3 : Int32)))).2.1 (by decide) (by decide) q) ?_
  refine own_tp (.ref nb51) 33 (fun _ q => XS.aloadN X61.here hx rfl (hb hby d145_32) rfl rfl q) ?_
  exact own_retR X61 hx hrt (hb hby d145_33) rfl rfl hlk (by decide) (by decide) rfl (⟨nb51, _, rfl, N61, K61, ge51, s0nb51, V61'⟩)

def Q146 (Z : State) (c0 c1 c2 : Int32) (h0 : Heap) (n0 : Nat) (v : Option Value) (h : Heap) (L : List Loc) : Prop := ∃ (b : Addr) (k : ClassId), v = some (.ref b) ∧ Fr n0 L ∧ Keep h0 h [] ∧ n0 ≤ b ∧ h0.size ≤ b ∧ (((¬ (255 : Int32) < c0 ∧ ¬ (255 : Int32) < c1 ∧ ¬ (255 : Int32) < c2) ∧ Arv Z h b k .byte (3 : Int32) [(.int (own_lo c0)), (.int (own_lo c1)), (.int (own_lo c2))] (.int (0 : Int32))) ∨ ((∃ c ∈ ([c0, c1, c2] : List Int32), (255 : Int32) < c) ∧ Arv Z h b k .byte (6 : Int32) [(.int (own_b0 c0)), (.int (own_b1 c0)), (.int (own_b0 c1)), (.int (own_b1 c1)), (.int (own_b0 c2)), (.int (own_b1 c2))] (.int (0 : Int32))))

theorem d146_0 : decode jdk_52_method_16_code 0 = .ok (.iload_n 2, 1) := by decide +kernel
theorem d146_1 : decode jdk_52_method_16_code 1 = .ok (.newarray .byte, 2) := by decide +kernel
theorem d146_3 : decode jdk_52_method_16_code 3 = .ok (.astore_n 3, 1) := by decide +kernel
theorem d146_4 : decode jdk_52_method_16_code 4 = .ok (.aload_n 0, 1) := by decide +kernel
theorem d146_5 : decode jdk_52_method_16_code 5 = .ok (.iload_n 1, 1) := by decide +kernel
theorem d146_6 : decode jdk_52_method_16_code 6 = .ok (.aload_n 3, 1) := by decide +kernel
theorem d146_7 : decode jdk_52_method_16_code 7 = .ok (.iconst 0, 1) := by decide +kernel
theorem d146_8 : decode jdk_52_method_16_code 8 = .ok (.iload_n 2, 1) := by decide +kernel
theorem d146_9 : decode jdk_52_method_16_code 9 = .ok (.invokestatic 115, 3) := by decide +kernel
theorem d146_12 : decode jdk_52_method_16_code 12 = .ok (.istore 4, 2) := by decide +kernel
theorem d146_14 : decode jdk_52_method_16_code 14 = .ok (.iload 4, 2) := by decide +kernel
theorem d146_16 : decode jdk_52_method_16_code 16 = .ok (.iload_n 2, 1) := by decide +kernel
theorem d146_17 : decode jdk_52_method_16_code 17 = .ok (.if_icmp .eq 40, 3) := by decide +kernel
theorem d146_20 : decode jdk_52_method_16_code 20 = .ok (.aload_n 0, 1) := by decide +kernel
theorem d146_21 : decode jdk_52_method_16_code 21 = .ok (.iload_n 1, 1) := by decide +kernel
theorem d146_22 : decode jdk_52_method_16_code 22 = .ok (.iload_n 2, 1) := by decide +kernel
theorem d146_23 : decode jdk_52_method_16_code 23 = .ok (.invokestatic 119, 3) := by decide +kernel
theorem d146_26 : decode jdk_52_method_16_code 26 = .ok (.astore 5, 2) := by decide +kernel
theorem d146_28 : decode jdk_52_method_16_code 28 = .ok (.aload 5, 2) := by decide +kernel
theorem d146_30 : decode jdk_52_method_16_code 30 = .ok (.iload 4, 2) := by decide +kernel
theorem d146_32 : decode jdk_52_method_16_code 32 = .ok (.invokestatic 71, 3) := by decide +kernel
theorem d146_35 : decode jdk_52_method_16_code 35 = .ok (.sipush 255, 3) := by decide +kernel
theorem d146_38 : decode jdk_52_method_16_code 38 = .ok (.if_icmp .gt 16, 3) := by decide +kernel
theorem d146_54 : decode jdk_52_method_16_code 54 = .ok (.aload 5, 2) := by decide +kernel
theorem d146_56 : decode jdk_52_method_16_code 56 = .ok (.areturn, 1) := by decide +kernel
theorem d146_57 : decode jdk_52_method_16_code 57 = .ok (.aload_n 3, 1) := by decide +kernel
theorem d146_58 : decode jdk_52_method_16_code 58 = .ok (.areturn, 1) := by decide +kernel
theorem pn146 : plainName "java/lang/StringUTF16" = true := by first | (simp [plainName, overriddenIn]; done) | decide +kernel
theorem pd146_0 : parseMethodDescriptor "([CI[BII)I" = some ⟨[(.array .char), .int, (.array .byte), .int, .int], some .int⟩ := by decide +kernel
theorem pd146_1 : parseMethodDescriptor "([CII)[B" = some ⟨[(.array .char), .int, .int], some (.array .byte)⟩ := by decide +kernel
theorem pd146_2 : parseMethodDescriptor "([BI)C" = some ⟨[(.array .byte), .int], some .char⟩ := by decide +kernel
theorem ef146 (m : MethodId) (x0 : Addr) (x1 : Int32) (x2 : Int32) : entryFrame m #[(.ref x0), (.int x1), (.int x2)] 6 = mkF m 0 #[.val (.ref x0), .val (.int x1), .val (.int x2), .unset, .unset, .unset] [] := by first | (simp [entryFrame, mkF, argsToLocals, Value.category]; done) | rfl
set_option maxRecDepth 65536 in
set_option maxHeartbeats 40000000 in
theorem rm146 (l : Launch) (Z : State) (a0 : Array Value) (hw : ∀ d ∈ tables_1, d.before a0 Z = true) (ws : List Jvm.Cond) (a1 : Addr) (k1 : ClassId) (c0 c1 c2 : Int32) (h0 : Heap) (n0 : Nat) (Z0 : n0 ≤ h0.size) (hc0 : 0 ≤ c0.toInt ∧ c0.toInt ≤ 65535) (hc1 : 0 ≤ c1.toInt ∧ c1.toInt ≤ 65535) (hc2 : 0 ≤ c2.toInt ∧ c2.toInt ≤ 65535) (V1 : Arv Z h0 a1 k1 .char (3 : Int32) [(.int c0), (.int c1), (.int c2)] (.int (0 : Int32))) (G1 : Int32) (US : own_US Z G1) (O0 : Old Z n0 h0) :
    own_Met l (⟨"java/lang/StringUTF16", "compress", "([CII)[B"⟩ : MethodName) jdk_52_method_16_code 6 (some (.array .byte)) ws ({ frames := 3, cells := 2, slots := 9, locals := 42 } : Room) Z #[(.ref a1), (.int (0 : Int32)), (.int (3 : Int32))] h0 (Q146 Z c0 c1 c2 h0 n0) := by
  refine own_enter #[.val (.ref a1), .val (.int (0 : Int32)), .val (.int (3 : Int32)), .unset, .unset, .unset] (plainFor_of_name pn146) (fun m => ef146 m a1 (0 : Int32) (3 : Int32)) ?_
  intro p e s m below meth c s₁ hx hby hml hown hnm hZ hrt hlk X0 e0
  have N0 := Fr.nil n0
  refine own_tp (.int (3 : Int32)) 1 (fun _ q => XS.iloadN X0.here hx rfl (hb hby d146_0) rfl q) ?_
  obtain ⟨T51, h51, k51, X51, e51, E51, A51, st51⟩ := newP X0 hx hZ (hw _ (List.mem_of_getElem? (i := 24) rfl)) e0 (g := (mkF m 1 #[.val (.ref a1), .val (.int (0 : Int32)), .val (.int (3 : Int32)), .unset, .unset, .unset] [(.int (3 : Int32))])) rfl (hb hby d146_1) rfl (by decide) (cap := 3) (by decide) (by decide) (by decide) (by decide)
  obtain ⟨b51, g51⟩ : ∃ z, z = h0.size := ⟨_, rfl⟩
  rw [← g51] at A51 st51
  have V51 : Arv Z h51 b51 k51 .byte (3 : Int32) [(.int (0 : Int32)), (.int (0 : Int32)), (.int (0 : Int32))] (.int (0 : Int32)) := (Arv.new A51 (by decide)).pad (pad_rep [] (.int (0 : Int32)) 3)
  have ge51 : n0 ≤ b51 := Nat.le_trans Z0 (Nat.le_of_eq g51.symm)
  have sz51 : h0.size ≤ b51 := Nat.le_trans (Keep.refl h0 []).1 (Nat.le_of_eq g51.symm)
  have ne52 : a1 ≠ b51 := Nat.ne_of_lt (Nat.lt_of_lt_of_le V1.lt (Nat.le_of_eq g51.symm))
  have O51 := Old.ext O0 E51
  have K51 : Keep h0 h51 [] := (Keep.refl h0 []).ext E51
  have Z51 : n0 ≤ h51.size := Nat.le_trans Z0 E51.1
  refine own_t1 (.ref b51) 3 st51 ?_
  refine own_ls #[.val (.ref a1), .val (.int (0 : Int32)), .val (.int (3 : Int32)), .val (.ref b51), .unset, .unset] 4 (fun _ q => XS.astoreN X51.here hx rfl (hb hby d146_3) rfl rfl (l' := #[.val (.ref a1), .val (.int (0 : Int32)), .val (.int (3 : Int32)), .val (.ref b51), .unset, .unset]) rfl q) ?_
  refine own_tp (.ref a1) 5 (fun _ q => XS.aloadN X51.here hx rfl (hb hby d146_4) rfl rfl q) ?_
  refine own_tp (.int (0 : Int32)) 6 (fun _ q => XS.iloadN X51.here hx rfl (hb hby d146_5) rfl q) ?_
  refine own_tp (.ref b51) 7 (fun _ q => XS.aloadN X51.here hx rfl (hb hby d146_6) rfl rfl q) ?_
  refine own_tp (.int (0 : Int32)) 8 (fun _ q => XS.iconst X51.here hx rfl (hb hby d146_7) q) ?_
  refine own_tp (.int (3 : Int32)) 9 (fun _ q => XS.iloadN X51.here hx rfl (hb hby d146_8) rfl q) ?_
  have f53 := (V1.ext E51)
  obtain ⟨_, _, ⟨T54, L54, k54, n54⟩, -, X54, ⟨Lc54, hQ54, l54, y54, z54⟩, st54⟩ := Jvm.LawKit.callS X51 hx (y := (⟨"java/lang/StringUTF16", "compress", "([CI[BII)I"⟩ : MethodName)) hown (mvT hZ (hw _ (List.mem_of_getElem? (i := 79) rfl))) (mvT hZ (hw _ (List.mem_of_getElem? (i := 80) rfl))) (mvT hZ (hw _ (List.mem_of_getElem? (i := 77) rfl))) (mvT hZ (hw _ (List.mem_of_getElem? (i := 81) rfl))) (by decide) (backOf (W := 0) (rm142 l Z a0 hw [] a1 b51 k1 k51 c0 c1 c2 h51 n0 Z51 ge51 ne52 f53 V51) hZ (hw _ (List.mem_of_getElem? (i := 81) rfl)) (hw _ (List.mem_of_getElem? (i := 77) rfl)) (by decide) (by decide)) (g := (mkF m 9 #[.val (.ref a1), .val (.int (0 : Int32)), .val (.int (3 : Int32)), .val (.ref b51), .unset, .unset] [(.int (3 : Int32)), (.int (0 : Int32)), (.ref b51), (.int (0 : Int32)), (.ref a1)])) rfl (by rw [hml]; rfl) (argsL := [(.ref a1), (.int (0 : Int32)), (.ref b51), (.int (0 : Int32)), (.int (3 : Int32))]) (rest := []) (lenOf pd146_0 rfl) rfl (by show 2 * 0 + _ ≤ _; exact Nat.le_of_eq rfl) (hb hby d146_9) (fun _ _ => ⟨rfl, e51, (by decide : 1 + 0 ≤ _), (by decide : 3 + 0 ≤ _)⟩)
  dsimp only [Pt.U, Pt.locs, Pt.cells, Pt.slots] at X54 l54 y54 z54 st54 hQ54
  subst l54 y54 z54
  obtain ⟨Nq54, Kp54, hD54⟩ := hQ54
  have N54 := Fr.app N0 Nq54
  have O54 := Old.keep O51 Kp54 (allS ge51 all0)
  have Z54 : n0 ≤ T54.heap.size := Nat.le_trans Z51 Kp54.1
  have K54 : Keep h0 T54.heap [] := Keep.trans K51 Kp54 (allS (Or.inr sz51) all0)
  rcases hD54 with ⟨rfl, hxw⟩ | ⟨rfl, hxw⟩ | ⟨rfl, hxw⟩ | ⟨rfl, hxw, VL⟩
  ·
    refine own_cs [(.int (0 : Int32))] 12 st54 ?_
    refine own_ls #[.val (.ref a1), .val (.int (0 : Int32)), .val (.int (3 : Int32)), .val (.ref b51), .val (.int (0 : Int32)), .unset] 14 (fun _ q => XS.istore X54.here hx rfl (hb hby d146_12) rfl (l' := #[.val (.ref a1), .val (.int (0 : Int32)), .val (.int (3 : Int32)), .val (.ref b51), .val (.int (0 : Int32)), .unset]) rfl q) ?_
    refine own_tp (.int (0 : Int32)) 16 (fun _ q => XS.iload X54.here hx rfl (hb hby d146_14) rfl q) ?_
    refine own_tp (.int (3 : Int32)) 17 (fun _ q => XS.iloadN X54.here hx rfl (hb hby d146_16) rfl q) ?_
    refine own_d2 20 (fun _ q => XS.icmpNo X54.here hx rfl (hb hby d146_17) rfl (feq (by decide : ¬ ((0 : Int32) = (3 : Int32)))).1 q) ?_
    refine own_tp (.ref a1) 21 (fun _ q => XS.aloadN X54.here hx rfl (hb hby d146_20) rfl rfl q) ?_
    refine own_tp (.int (0 : Int32)) 22 (fun _ q => XS.iloadN X54.here hx rfl (hb hby d146_21) rfl q) ?_
    refine own_tp (.int (3 : Int32)) 23 (fun _ q => XS.iloadN X54.here hx rfl (hb hby d146_22) rfl q) ?_
    have f55 := (f53.keep Kp54 (ninS ne52 nin0))
    obtain ⟨_, _, ⟨T56, L56, k56, n56⟩, -, X56, ⟨Lc56, hQ56, l56, y56, z56⟩, st56⟩ := Jvm.LawKit.callS X54 hx (y := (⟨"java/lang/StringUTF16", "toBytes", "([CII)[B"⟩ : MethodName)) hown (mvT hZ (hw _ (List.mem_of_getElem? (i := 92) rfl))) (mvT hZ (hw _ (List.mem_of_getElem? (i := 93) rfl))) (mvT hZ (hw _ (List.mem_of_getElem? (i := 77) rfl))) (mvT hZ (hw _ (List.mem_of_getElem? (i := 94) rfl))) (by decide) (backOf (W := 0) (rm145 l Z a0 hw [] a1 k1 c0 c1 c2 T54.heap n0 Z54 f55 G1 US O54) hZ (hw _ (List.mem_of_getElem? (i := 94) rfl)) (hw _ (List.mem_of_getElem? (i := 77) rfl)) (by decide) (by decide)) (g := (mkF m 23 #[.val (.ref a1), .val (.int (0 : Int32)), .val (.int (3 : Int32)), .val (.ref b51), .val (.int (0 : Int32)), .unset] [(.int (3 : Int32)), (.int (0 : Int32)), (.ref a1)])) rfl (by rw [hml]; rfl) (argsL := [(.ref a1), (.int (0 : Int32)), (.int (3 : Int32))]) (rest := []) (lenOf pd146_1 rfl) rfl (by show 2 * 0 + _ ≤ _; exact Nat.le_of_eq rfl) (hb hby d146_23) (fun _ _ => ⟨rfl, rfl, (by decide : 1 + 1 ≤ _), (by decide : 3 + 6 ≤ _)⟩)
    dsimp only [Pt.U, Pt.locs, Pt.cells, Pt.slots] at X56 l56 y56 z56 st56 hQ56
    subst l56 y56 z56
    obtain ⟨ub56, ku56, rfl, Nq56, Kp56, ge56, sz56, V56⟩ := hQ56
    have ne57 : a1 ≠ ub56 := Nat.ne_of_lt (Nat.lt_of_lt_of_le f55.lt sz56)
    have s0ub56 : h0.size ≤ ub56 := Nat.le_trans K54.1 sz56
    have N56 := Fr.app N54 Nq56
    have O56 := Old.keep O54 Kp56 all0
    have Z56 : n0 ≤ T56.heap.size := Nat.le_trans Z54 Kp56.1
    have K56 : Keep h0 T56.heap [] := Keep.trans K54 Kp56 all0
    refine own_cs [(.ref ub56)] 26 st56 ?_
    refine own_ls #[.val (.ref a1), .val (.int (0 : Int32)), .val (.int (3 : Int32)), .val (.ref b51), .val (.int (0 : Int32)), .val (.ref ub56)] 28 (fun _ q => XS.astore X56.here hx rfl (hb hby d146_26) rfl rfl (l' := #[.val (.ref a1), .val (.int (0 : Int32)), .val (.int (3 : Int32)), .val (.ref b51), .val (.int (0 : Int32)), .val (.ref ub56)]) rfl q) ?_
    refine own_tp (.ref ub56) 30 (fun _ q => XS.aload X56.here hx rfl (hb hby d146_28) rfl rfl q) ?_
    refine own_tp (.int (0 : Int32)) 32 (fun _ q => XS.iload X56.here hx rfl (hb hby d146_30) rfl q) ?_
    obtain ⟨_, _, ⟨T58, L58, k58, n58⟩, -, X58, ⟨Lc58, hQ58, l58, y58, z58⟩, st58⟩ := Jvm.LawKit.callS X56 hx (y := (⟨"java/lang/StringUTF16", "getChar", "([BI)C"⟩ : MethodName)) hown (mvT hZ (hw _ (List.mem_of_getElem? (i := 108) rfl))) (mvT hZ (hw _ (List.mem_of_getElem? (i := 109) rfl))) (mvT hZ (hw _ (List.mem_of_getElem? (i := 77) rfl))) (mvT hZ (hw _ (List.mem_of_getElem? (i := 110) rfl))) (by decide) (backOf (W := 0) (rm109 l Z a0 hw [] ub56 ku56 0 [c0, c1, c2] T56.heap n0 (by simp) (by simp) hc0 V56 G1 US O56) hZ (hw _ (List.mem_of_getElem? (i := 110) rfl)) (hw _ (List.mem_of_getElem? (i := 77) rfl)) (by decide) (by decide)) (g := (mkF m 32 #[.val (.ref a1), .val (.int (0 : Int32)), .val (.int (3 : Int32)), .val (.ref b51), .val (.int (0 : Int32)), .val (.ref ub56)] [(.int (0 : Int32)), (.ref ub56)])) rfl (by rw [hml]; rfl) (argsL := [(.ref ub56), (.int (0 : Int32))]) (rest := []) (lenOf pd146_2 rfl) rfl (by show 2 * 0 + _ ≤ _; exact Nat.le_of_eq rfl) (hb hby d146_32) (fun _ _ => ⟨rfl, rfl, (by decide : 2 + 0 ≤ _), (by decide : 9 + 0 ≤ _)⟩)
    dsimp only [Pt.U, Pt.locs, Pt.cells, Pt.slots] at X58 l58 y58 z58 st58 hQ58
    subst l58 y58 z58
    obtain ⟨rfl, Nq58, eq58⟩ := hQ58
    have N58 := Fr.app N56 Nq58
    refine own_t2 (.int c0) 35 st58 ?_
    refine own_tp (.int (255 : Int32)) 38 (fun _ q => XS.sipush X58.here hx rfl (hb hby d146_35) q) ?_
    refine own_d2 54 (fun _ q => XS.icmpYes X58.here hx rfl (pc0 := 38) (pc' := 54) rfl (hb hby d146_38) rfl (tlt hxw).2.2.1 (by decide) (by decide) q) ?_
    refine own_tp (.ref ub56) 56 (fun _ q => XS.aload X58.here hx rfl (hb hby d146_54) rfl rfl q) ?_
    exact own_retR X58 hx hrt (hb hby d146_56) rfl rfl hlk (by decide) (by decide) eq58 (⟨ub56, _, rfl, N58, K56, ge56, s0ub56, Or.inr ⟨⟨c0, by simp, hxw⟩, V56⟩⟩)
  ·
    refine own_cs [(.int (1 : Int32))] 12 st54 ?_
    refine own_ls #[.val (.ref a1), .val (.int (0 : Int32)), .val (.int (3 : Int32)), .val (.ref b51), .val (.int (1 : Int32)), .unset] 14 (fun _ q => XS.istore X54.here hx rfl (hb hby d146_12) rfl (l' := #[.val (.ref a1), .val (.int (0 : Int32)), .val (.int (3 : Int32)), .val (.ref b51), .val (.int (1 : Int32)), .unset]) rfl q) ?_
    refine own_tp (.int (1 : Int32)) 16 (fun _ q => XS.iload X54.here hx rfl (hb hby d146_14) rfl q) ?_
    refine own_tp (.int (3 : Int32)) 17 (fun _ q => XS.iloadN X54.here hx rfl (hb hby d146_16) rfl q) ?_
    refine own_d2 20 (fun _ q => XS.icmpNo X54.here hx rfl (hb hby d146_17) rfl (feq (by decide : ¬ ((1 : Int32) = (3 : Int32)))).1 q) ?_
    refine own_tp (.ref a1) 21 (fun _ q => XS.aloadN X54.here hx rfl (hb hby d146_20) rfl rfl q) ?_
    refine own_tp (.int (0 : Int32)) 22 (fun _ q => XS.iloadN X54.here hx rfl (hb hby d146_21) rfl q) ?_
    refine own_tp (.int (3 : Int32)) 23 (fun _ q => XS.iloadN X54.here hx rfl (hb hby d146_22) rfl q) ?_
    have f59 := (f53.keep Kp54 (ninS ne52 nin0))
    obtain ⟨_, _, ⟨T60, L60, k60, n60⟩, -, X60, ⟨Lc60, hQ60, l60, y60, z60⟩, st60⟩ := Jvm.LawKit.callS X54 hx (y := (⟨"java/lang/StringUTF16", "toBytes", "([CII)[B"⟩ : MethodName)) hown (mvT hZ (hw _ (List.mem_of_getElem? (i := 92) rfl))) (mvT hZ (hw _ (List.mem_of_getElem? (i := 93) rfl))) (mvT hZ (hw _ (List.mem_of_getElem? (i := 77) rfl))) (mvT hZ (hw _ (List.mem_of_getElem? (i := 94) rfl))) (by decide) (backOf (W := 0) (rm145 l Z a0 hw [] a1 k1 c0 c1 c2 T54.heap n0 Z54 f59 G1 US O54) hZ (hw _ (List.mem_of_getElem? (i := 94) rfl)) (hw _ (List.mem_of_getElem? (i := 77) rfl)) (by decide) (by decide)) (g := (mkF m 23 #[.val (.ref a1), .val (.int (0 : Int32)), .val (.int (3 : Int32)), .val (.ref b51), .val (.int (1 : Int32)), .unset] [(.int (3 : Int32)), (.int (0 : Int32)), (.ref a1)])) rfl (by rw [hml]; rfl) (argsL := [(.ref a1), (.int (0 : Int32)), (.int (3 : Int32))]) (rest := []) (lenOf pd146_1 rfl) rfl (by show 2 * 0 + _ ≤ _; exact Nat.le_of_eq rfl) (hb hby d146_23) (fun _ _ => ⟨rfl, rfl, (by decide : 1 + 1 ≤ _), (by decide : 3 + 6 ≤ _)⟩)
    dsimp only [Pt.U, Pt.locs, Pt.cells, Pt.slots] at X60 l60 y60 z60 st60 hQ60
    subst l60 y60 z60
    obtain ⟨ub60, ku60, rfl, Nq60, Kp60, ge60, sz60, V60⟩ := hQ60
    have ne61 : a1 ≠ ub60 := Nat.ne_of_lt (Nat.lt_of_lt_of_le f59.lt sz60)
    have s0ub60 : h0.size ≤ ub60 := Nat.le_trans K54.1 sz60
    have N60 := Fr.app N54 Nq60
    have O60 := Old.keep O54 Kp60 all0
    have Z60 : n0 ≤ T60.heap.size := Nat.le_trans Z54 Kp60.1
    have K60 : Keep h0 T60.heap [] := Keep.trans K54 Kp60 all0
    refine own_cs [(.ref ub60)] 26 st60 ?_
    refine own_ls #[.val (.ref a1), .val (.int (0 : Int32)), .val (.int (3 : Int32)), .val (.ref b51), .val (.int (1 : Int32)), .val (.ref ub60)] 28 (fun _ q => XS.astore X60.here hx rfl (hb hby d146_26) rfl rfl (l' := #[.val (.ref a1), .val (.int (0 : Int32)), .val (.int (3 : Int32)), .val (.ref b51), .val (.int (1 : Int32)), .val (.ref ub60)]) rfl q) ?_
    refine own_tp (.ref ub60) 30 (fun _ q => XS.aload X60.here hx rfl (hb hby d146_28) rfl rfl q) ?_
    refine own_tp (.int (1 : Int32)) 32 (fun _ q => XS.iload X60.here hx rfl (hb hby d146_30) rfl q) ?_
    obtain ⟨_, _, ⟨T62, L62, k62, n62⟩, -, X62, ⟨Lc62, hQ62, l62, y62, z62⟩, st62⟩ := Jvm.LawKit.callS X60 hx (y := (⟨"java/lang/StringUTF16", "getChar", "([BI)C"⟩ : MethodName)) hown (mvT hZ (hw _ (List.mem_of_getElem? (i := 108) rfl))) (mvT hZ (hw _ (List.mem_of_getElem? (i := 109) rfl))) (mvT hZ (hw _ (List.mem_of_getElem? (i := 77) rfl))) (mvT hZ (hw _ (List.mem_of_getElem? (i := 110) rfl))) (by decide) (backOf (W := 0) (rm109 l Z a0 hw [] ub60 ku60 1 [c0, c1, c2] T60.heap n0 (by simp) (by simp) hc1 V60 G1 US O60) hZ (hw _ (List.mem_of_getElem? (i := 110) rfl)) (hw _ (List.mem_of_getElem? (i := 77) rfl)) (by decide) (by decide)) (g := (mkF m 32 #[.val (.ref a1), .val (.int (0 : Int32)), .val (.int (3 : Int32)), .val (.ref b51), .val (.int (1 : Int32)), .val (.ref ub60)] [(.int (1 : Int32)), (.ref ub60)])) rfl (by rw [hml]; rfl) (argsL := [(.ref ub60), (.int (1 : Int32))]) (rest := []) (lenOf pd146_2 rfl) rfl (by show 2 * 0 + _ ≤ _; exact Nat.le_of_eq rfl) (hb hby d146_32) (fun _ _ => ⟨rfl, rfl, (by decide : 2 + 0 ≤ _), (by decide : 9 + 0 ≤ _)⟩)
    dsimp only [Pt.U, Pt.locs, Pt.cells, Pt.slots] at X62 l62 y62 z62 st62 hQ62
    subst l62 y62 z62
    obtain ⟨rfl, Nq62, eq62⟩ := hQ62
    have N62 := Fr.app N60 Nq62
    refine own_t2 (.int c1) 35 st62 ?_
    refine own_tp (.int (255 : Int32)) 38 (fun _ q => XS.sipush X62.here hx rfl (hb hby d146_35) q) ?_
    refine own_d2 54 (fun _ q => XS.icmpYes X62.here hx rfl (pc0 := 38) (pc' := 54) rfl (hb hby d146_38) rfl (tlt hxw).2.2.1 (by decide) (by decide) q) ?_
    refine own_tp (.ref ub60) 56 (fun _ q => XS.aload X62.here hx rfl (hb hby d146_54) rfl rfl q) ?_
    exact own_retR X62 hx hrt (hb hby d146_56) rfl rfl hlk (by decide) (by decide) eq62 (⟨ub60, _, rfl, N62, K60, ge60, s0ub60, Or.inr ⟨⟨c1, by simp, hxw⟩, V60⟩⟩)
  ·
    refine own_cs [(.int (2 : Int32))] 12 st54 ?_
    refine own_ls #[.val (.ref a1), .val (.int (0 : Int32)), .val (.int (3 : Int32)), .val (.ref b51), .val (.int (2 : Int32)), .unset] 14 (fun _ q => XS.istore X54.here hx rfl (hb hby d146_12) rfl (l' := #[.val (.ref a1), .val (.int (0 : Int32)), .val (.int (3 : Int32)), .val (.ref b51), .val (.int (2 : Int32)), .unset]) rfl q) ?_
    refine own_tp (.int (2 : Int32)) 16 (fun _ q => XS.iload X54.here hx rfl (hb hby d146_14) rfl q) ?_
    refine own_tp (.int (3 : Int32)) 17 (fun _ q => XS.iloadN X54.here hx rfl (hb hby d146_16) rfl q) ?_
    refine own_d2 20 (fun _ q => XS.icmpNo X54.here hx rfl (hb hby d146_17) rfl (feq (by decide : ¬ ((2 : Int32) = (3 : Int32)))).1 q) ?_
    refine own_tp (.ref a1) 21 (fun _ q => XS.aloadN X54.here hx rfl (hb hby d146_20) rfl rfl q) ?_
    refine own_tp (.int (0 : Int32)) 22 (fun _ q => XS.iloadN X54.here hx rfl (hb hby d146_21) rfl q) ?_
    refine own_tp (.int (3 : Int32)) 23 (fun _ q => XS.iloadN X54.here hx rfl (hb hby d146_22) rfl q) ?_
    have f63 := (f53.keep Kp54 (ninS ne52 nin0))
    obtain ⟨_, _, ⟨T64, L64, k64, n64⟩, -, X64, ⟨Lc64, hQ64, l64, y64, z64⟩, st64⟩ := Jvm.LawKit.callS X54 hx (y := (⟨"java/lang/StringUTF16", "toBytes", "([CII)[B"⟩ : MethodName)) hown (mvT hZ (hw _ (List.mem_of_getElem? (i := 92) rfl))) (mvT hZ (hw _ (List.mem_of_getElem? (i := 93) rfl))) (mvT hZ (hw _ (List.mem_of_getElem? (i := 77) rfl))) (mvT hZ (hw _ (List.mem_of_getElem? (i := 94) rfl))) (by decide) (backOf (W := 0) (rm145 l Z a0 hw [] a1 k1 c0 c1 c2 T54.heap n0 Z54 f63 G1 US O54) hZ (hw _ (List.mem_of_getElem? (i := 94) rfl)) (hw _ (List.mem_of_getElem? (i := 77) rfl)) (by decide) (by decide)) (g := (mkF m 23 #[.val (.ref a1), .val (.int (0 : Int32)), .val (.int (3 : Int32)), .val (.ref b51), .val (.int (2 : Int32)), .unset] [(.int (3 : Int32)), (.int (0 : Int32)), (.ref a1)])) rfl (by rw [hml]; rfl) (argsL := [(.ref a1), (.int (0 : Int32)), (.int (3 : Int32))]) (rest := []) (lenOf pd146_1 rfl) rfl (by show 2 * 0 + _ ≤ _; exact Nat.le_of_eq rfl) (hb hby d146_23) (fun _ _ => ⟨rfl, rfl, (by decide : 1 + 1 ≤ _), (by decide : 3 + 6 ≤ _)⟩)
    dsimp only [Pt.U, Pt.locs, Pt.cells, Pt.slots] at X64 l64 y64 z64 st64 hQ64
    subst l64 y64 z64
    obtain ⟨ub64, ku64, rfl, Nq64, Kp64, ge64, sz64, V64⟩ := hQ64
    have ne65 : a1 ≠ ub64 := Nat.ne_of_lt (Nat.lt_of_lt_of_le f63.lt sz64)
    have s0ub64 : h0.size ≤ ub64 := Nat.le_trans K54.1 sz64
    have N64 := Fr.app N54 Nq64
    have O64 := Old.keep O54 Kp64 all0
    have Z64 : n0 ≤ T64.heap.size := Nat.le_trans Z54 Kp64.1
    have K64 : Keep h0 T64.heap [] := Keep.trans K54 Kp64 all0
    refine own_cs [(.ref ub64)] 26 st64 ?_
    refine own_ls #[.val (.ref a1), .val (.int (0 : Int32)), .val (.int (3 : Int32)), .val (.ref b51), .val (.int (2 : Int32)), .val (.ref ub64)] 28 (fun _ q => XS.astore X64.here hx rfl (hb hby d146_26) rfl rfl (l' := #[.val (.ref a1), .val (.int (0 : Int32)), .val (.int (3 : Int32)), .val (.ref b51), .val (.int (2 : Int32)), .val (.ref ub64)]) rfl q) ?_
    refine own_tp (.ref ub64) 30 (fun _ q => XS.aload X64.here hx rfl (hb hby d146_28) rfl rfl q) ?_
    refine own_tp (.int (2 : Int32)) 32 (fun _ q => XS.iload X64.here hx rfl (hb hby d146_30) rfl q) ?_
    obtain ⟨_, _, ⟨T66, L66, k66, n66⟩, -, X66, ⟨Lc66, hQ66, l66, y66, z66⟩, st66⟩ := Jvm.LawKit.callS X64 hx (y := (⟨"java/lang/StringUTF16", "getChar", "([BI)C"⟩ : MethodName)) hown (mvT hZ (hw _ (List.mem_of_getElem? (i := 108) rfl))) (mvT hZ (hw _ (List.mem_of_getElem? (i := 109) rfl))) (mvT hZ (hw _ (List.mem_of_getElem? (i := 77) rfl))) (mvT hZ (hw _ (List.mem_of_getElem? (i := 110) rfl))) (by decide) (backOf (W := 0) (rm109 l Z a0 hw [] ub64 ku64 2 [c0, c1, c2] T64.heap n0 (by simp) (by simp) hc2 V64 G1 US O64) hZ (hw _ (List.mem_of_getElem? (i := 110) rfl)) (hw _ (List.mem_of_getElem? (i := 77) rfl)) (by decide) (by decide)) (g := (mkF m 32 #[.val (.ref a1), .val (.int (0 : Int32)), .val (.int (3 : Int32)), .val (.ref b51), .val (.int (2 : Int32)), .val (.ref ub64)] [(.int (2 : Int32)), (.ref ub64)])) rfl (by rw [hml]; rfl) (argsL := [(.ref ub64), (.int (2 : Int32))]) (rest := []) (lenOf pd146_2 rfl) rfl (by show 2 * 0 + _ ≤ _; exact Nat.le_of_eq rfl) (hb hby d146_32) (fun _ _ => ⟨rfl, rfl, (by decide : 2 + 0 ≤ _), (by decide : 9 + 0 ≤ _)⟩)
    dsimp only [Pt.U, Pt.locs, Pt.cells, Pt.slots] at X66 l66 y66 z66 st66 hQ66
    subst l66 y66 z66
    obtain ⟨rfl, Nq66, eq66⟩ := hQ66
    have N66 := Fr.app N64 Nq66
    refine own_t2 (.int c2) 35 st66 ?_
    refine own_tp (.int (255 : Int32)) 38 (fun _ q => XS.sipush X66.here hx rfl (hb hby d146_35) q) ?_
    refine own_d2 54 (fun _ q => XS.icmpYes X66.here hx rfl (pc0 := 38) (pc' := 54) rfl (hb hby d146_38) rfl (tlt hxw).2.2.1 (by decide) (by decide) q) ?_
    refine own_tp (.ref ub64) 56 (fun _ q => XS.aload X66.here hx rfl (hb hby d146_54) rfl rfl q) ?_
    exact own_retR X66 hx hrt (hb hby d146_56) rfl rfl hlk (by decide) (by decide) eq66 (⟨ub64, _, rfl, N66, K64, ge64, s0ub64, Or.inr ⟨⟨c2, by simp, hxw⟩, V64⟩⟩)
  ·
    refine own_cs [(.int (3 : Int32))] 12 st54 ?_
    refine own_ls #[.val (.ref a1), .val (.int (0 : Int32)), .val (.int (3 : Int32)), .val (.ref b51), .val (.int (3 : Int32)), .unset] 14 (fun _ q => XS.istore X54.here hx rfl (hb hby d146_12) rfl (l' := #[.val (.ref a1), .val (.int (0 : Int32)), .val (.int (3 : Int32)), .val (.ref b51), .val (.int (3 : Int32)), .unset]) rfl q) ?_
    refine own_tp (.int (3 : Int32)) 16 (fun _ q => XS.iload X54.here hx rfl (hb hby d146_14) rfl q) ?_
    refine own_tp (.int (3 : Int32)) 17 (fun _ q => XS.iloadN X54.here hx rfl (hb hby d146_16) rfl q) ?_
    refine own_d2 57 (fun _ q => XS.icmpYes X54.here hx rfl (pc0 := 17) (pc' := 57) rfl (hb hby d146_17) rfl (teq (by decide : (3 : Int32) = (3 : Int32))).1 (by decide) (by decide) q) ?_
    refine own_tp (.ref b51) 58 (fun _ q => XS.aloadN X54.here hx rfl (hb hby d146_57) rfl rfl q) ?_
    exact own_retR X54 hx hrt (hb hby d146_58) rfl rfl hlk (by decide) (by decide) rfl (⟨b51, _, rfl, N54, K54, ge51, sz51, Or.inl ⟨hxw, VL⟩⟩)

def Q147  (h0 : Heap) (n0 : Nat) (v : Option Value) (h : Heap) (L : List Loc) : Prop := v = some (.int (0 : Int32)) ∧ Fr n0 L ∧ h = h0

theorem d147_0 : decode jdk_52_method_15_code 0 = .ok (.iload_n 1, 1) := by decide +kernel
theorem d147_1 : decode jdk_52_method_15_code 1 = .ok (.aload_n 0, 1) := by decide +kernel
theorem d147_2 : decode jdk_52_method_15_code 2 = .ok (.arraylength, 1) := by decide +kernel
theorem d147_3 : decode jdk_52_method_15_code 3 = .ok (.isub, 1) := by decide +kernel
theorem d147_4 : decode jdk_52_method_15_code 4 = .ok (.bipush 31, 2) := by decide +kernel
theorem d147_6 : decode jdk_52_method_15_code 6 = .ok (.iushr, 1) := by decide +kernel
theorem d147_7 : decode jdk_52_method_15_code 7 = .ok (.i2b, 1) := by decide +kernel
theorem d147_8 : decode jdk_52_method_15_code 8 = .ok (.ireturn, 1) := by decide +kernel
theorem pn147 : plainName "java/lang/StringUTF16" = true := by first | (simp [plainName, overriddenIn]; done) | decide +kernel
theorem ef147 (m : MethodId) (x0 : Addr) (x1 : Int32) : entryFrame m #[(.ref x0), (.int x1)] 2 = mkF m 0 #[.val (.ref x0), .val (.int x1)] [] := by first | (simp [entryFrame, mkF, argsToLocals, Value.category]; done) | rfl
set_option maxRecDepth 65536 in
set_option maxHeartbeats 40000000 in
theorem rm147 (l : Launch) (Z : State) (a0 : Array Value) (hw : ∀ d ∈ tables_1, d.before a0 Z = true) (ws : List Jvm.Cond) (b1 : Addr) (k1 : ClassId) (vs1 : List Value) (h0 : Heap) (n0 : Nat) (V1 : Arv Z h0 b1 k1 .byte (3 : Int32) vs1 (.int (0 : Int32))) :
    own_Met l (⟨"java/lang/StringUTF16", "coderFromArrayLen", "([BI)B"⟩ : MethodName) jdk_52_method_15_code 2 (some .byte) ws ({ frames := 0, cells := 0, slots := 0, locals := 0 } : Room) Z #[(.ref b1), (.int (3 : Int32))] h0 (Q147 h0 n0) := by
  refine own_enter #[.val (.ref b1), .val (.int (3 : Int32))] (plainFor_of_name pn147) (fun m => ef147 m b1 (3 : Int32)) ?_
  intro p e s m below meth c s₁ hx hby hml hown hnm hZ hrt hlk X0 e0
  have N0 := Fr.nil n0
  refine own_tp (.int (3 : Int32)) 1 (fun _ q => XS.iloadN X0.here hx rfl (hb hby d147_0) rfl q) ?_
  refine own_tp (.ref b1) 2 (fun _ q => XS.aloadN X0.here hx rfl (hb hby d147_1) rfl rfl q) ?_
  obtain ⟨cl51, Ar51, -, Sz51, Nn51, -, -⟩ := (id V1)
  refine own_t1 (.int (3 : Int32)) 3 (fun t q => X0.arraylength hx (by rw [e0]; exact Ar51.1) (State.isArrayOf_alike hZ.alike Ar51.2.1) (g := (mkF m 2 #[.val (.ref b1), .val (.int (3 : Int32))] [(.ref b1), (.int (3 : Int32))])) rfl rfl (hb hby d147_2) _ (by rw [len_of Sz51 Nn51]; exact q)) ?_
  refine own_t2 (.int (0 : Int32)) 4 (fun _ q => XS.isub X0.here hx rfl (hb hby d147_3) rfl q) ?_
  refine own_tp (.int (31 : Int32)) 6 (fun _ q => XS.bipush X0.here hx rfl (hb hby d147_4) q) ?_
  refine own_d1 7 (fun _ q => XS.iushr X0.here hx rfl (hb hby d147_6) rfl q) ?_
  refine own_d0 8 (fun _ q => XS.i2b X0.here hx rfl (hb hby d147_7) rfl q) ?_
  exact own_retN (t := .byte) X0 hx hrt (hb hby d147_8) (by simp) hlk (by decide) (by decide) e0 (⟨rfl, N0, rfl⟩)

def Q148  (h0 : Heap) (n0 : Nat) (v : Option Value) (h : Heap) (L : List Loc) : Prop := v = some (.int (1 : Int32)) ∧ Fr n0 L ∧ h = h0

theorem d148_0 : decode jdk_52_method_15_code 0 = .ok (.iload_n 1, 1) := by decide +kernel
theorem d148_1 : decode jdk_52_method_15_code 1 = .ok (.aload_n 0, 1) := by decide +kernel
theorem d148_2 : decode jdk_52_method_15_code 2 = .ok (.arraylength, 1) := by decide +kernel
theorem d148_3 : decode jdk_52_method_15_code 3 = .ok (.isub, 1) := by decide +kernel
theorem d148_4 : decode jdk_52_method_15_code 4 = .ok (.bipush 31, 2) := by decide +kernel
theorem d148_6 : decode jdk_52_method_15_code 6 = .ok (.iushr, 1) := by decide +kernel
theorem d148_7 : decode jdk_52_method_15_code 7 = .ok (.i2b, 1) := by decide +kernel
theorem d148_8 : decode jdk_52_method_15_code 8 = .ok (.ireturn, 1) := by decide +kernel
theorem pn148 : plainName "java/lang/StringUTF16" = true := by first | (simp [plainName, overriddenIn]; done) | decide +kernel
theorem ef148 (m : MethodId) (x0 : Addr) (x1 : Int32) : entryFrame m #[(.ref x0), (.int x1)] 2 = mkF m 0 #[.val (.ref x0), .val (.int x1)] [] := by first | (simp [entryFrame, mkF, argsToLocals, Value.category]; done) | rfl
set_option maxRecDepth 65536 in
set_option maxHeartbeats 40000000 in
theorem rm148 (l : Launch) (Z : State) (a0 : Array Value) (hw : ∀ d ∈ tables_1, d.before a0 Z = true) (ws : List Jvm.Cond) (b1 : Addr) (k1 : ClassId) (vs1 : List Value) (h0 : Heap) (n0 : Nat) (V1 : Arv Z h0 b1 k1 .byte (6 : Int32) vs1 (.int (0 : Int32))) :
    own_Met l (⟨"java/lang/StringUTF16", "coderFromArrayLen", "([BI)B"⟩ : MethodName) jdk_52_method_15_code 2 (some .byte) ws ({ frames := 0, cells := 0, slots := 0, locals := 0 } : Room) Z #[(.ref b1), (.int (3 : Int32))] h0 (Q148 h0 n0) := by
  refine own_enter #[.val (.ref b1), .val (.int (3 : Int32))] (plainFor_of_name pn148) (fun m => ef148 m b1 (3 : Int32)) ?_
  intro p e s m below meth c s₁ hx hby hml hown hnm hZ hrt hlk X0 e0
  have N0 := Fr.nil n0
  refine own_tp (.int (3 : Int32)) 1 (fun _ q => XS.iloadN X0.here hx rfl (hb hby d148_0) rfl q) ?_
  refine own_tp (.ref b1) 2 (fun _ q => XS.aloadN X0.here hx rfl (hb hby d148_1) rfl rfl q) ?_
  obtain ⟨cl51, Ar51, -, Sz51, Nn51, -, -⟩ := (id V1)
  refine own_t1 (.int (6 : Int32)) 3 (fun t q => X0.arraylength hx (by rw [e0]; exact Ar51.1) (State.isArrayOf_alike hZ.alike Ar51.2.1) (g := (mkF m 2 #[.val (.ref b1), .val (.int (3 : Int32))] [(.ref b1), (.int (3 : Int32))])) rfl rfl (hb hby d148_2) _ (by rw [len_of Sz51 Nn51]; exact q)) ?_
  refine own_t2 (.int (-3 : Int32)) 4 (fun _ q => XS.isub X0.here hx rfl (hb hby d148_3) rfl q) ?_
  refine own_tp (.int (31 : Int32)) 6 (fun _ q => XS.bipush X0.here hx rfl (hb hby d148_4) q) ?_
  refine own_t2 (.int (1 : Int32)) 7 (fun _ q => XS.iushr X0.here hx rfl (hb hby d148_6) rfl q) ?_
  refine own_d0 8 (fun _ q => XS.i2b X0.here hx rfl (hb hby d148_7) rfl q) ?_
  exact own_retN (t := .byte) X0 hx hrt (hb hby d148_8) (by simp) hlk (by decide) (by decide) e0 (⟨rfl, N0, rfl⟩)

theorem own_all3 {c0 c1 c2 : Int32} (h : ¬ (255 : Int32) < c0 ∧ ¬ (255 : Int32) < c1 ∧ ¬ (255 : Int32) < c2) : ∀ c ∈ ([c0, c1, c2] : List Int32), ¬ (255 : Int32) < c := by
  intro c hc
  simp only [List.mem_cons, List.not_mem_nil, or_false] at hc
  rcases hc with rfl | rfl | rfl
  · exact h.1
  · exact h.2.1
  · exact h.2.2

def Q149 (Z : State) (x1 : Addr) (c0 c1 c2 : Int32) (h0 : Heap) (n0 : Nat) (v : Option Value) (h : Heap) (L : List Loc) : Prop := v = none ∧ Fr n0 L ∧ Keep h0 h [x1] ∧ ∃ (t : Addr) (kb : ClassId) (cd N : Int32) (vs : List Value), n0 ≤ t ∧ h0.size ≤ t ∧ Exa Z h x1 "java/lang/String" ∧ Fld Z h x1 "java/lang/String" "value" "[B" (.ref t) ∧ Fld Z h x1 "java/lang/String" "coder" "B" (.int cd) ∧ Arv Z h t kb .byte N vs (.int (0 : Int32)) ∧ own_Cod ([c0, c1, c2] : List Int32) cd N vs

theorem d149_0 : decode jdk_42_method_149_code 0 = .ok (.aload_n 0, 1) := by decide +kernel
theorem d149_1 : decode jdk_42_method_149_code 1 = .ok (.invokespecial 1, 3) := by decide +kernel
theorem d149_4 : decode jdk_42_method_149_code 4 = .ok (.iload_n 3, 1) := by decide +kernel
theorem d149_5 : decode jdk_42_method_149_code 5 = .ok (.ifCond .ne 22, 3) := by decide +kernel
theorem d149_27 : decode jdk_42_method_149_code 27 = .ok (.getstatic 38, 3) := by decide +kernel
theorem d149_30 : decode jdk_42_method_149_code 30 = .ok (.ifCond .eq 28, 3) := by decide +kernel
theorem d149_33 : decode jdk_42_method_149_code 33 = .ok (.aload_n 1, 1) := by decide +kernel
theorem d149_34 : decode jdk_42_method_149_code 34 = .ok (.iload_n 2, 1) := by decide +kernel
theorem d149_35 : decode jdk_42_method_149_code 35 = .ok (.iload_n 3, 1) := by decide +kernel
theorem d149_36 : decode jdk_42_method_149_code 36 = .ok (.invokestatic 177, 3) := by decide +kernel
theorem d149_39 : decode jdk_42_method_149_code 39 = .ok (.astore 5, 2) := by decide +kernel
theorem d149_41 : decode jdk_42_method_149_code 41 = .ok (.aload_n 0, 1) := by decide +kernel
theorem d149_42 : decode jdk_42_method_149_code 42 = .ok (.aload 5, 2) := by decide +kernel
theorem d149_44 : decode jdk_42_method_149_code 44 = .ok (.iload_n 3, 1) := by decide +kernel
theorem d149_45 : decode jdk_42_method_149_code 45 = .ok (.invokestatic 47, 3) := by decide +kernel
theorem d149_48 : decode jdk_42_method_149_code 48 = .ok (.putfield 15, 3) := by decide +kernel
theorem d149_51 : decode jdk_42_method_149_code 51 = .ok (.aload_n 0, 1) := by decide +kernel
theorem d149_52 : decode jdk_42_method_149_code 52 = .ok (.aload 5, 2) := by decide +kernel
theorem d149_54 : decode jdk_42_method_149_code 54 = .ok (.putfield 9, 3) := by decide +kernel
theorem d149_57 : decode jdk_42_method_149_code 57 = .ok (.return_, 1) := by decide +kernel
theorem pn149 : plainName "java/lang/String" = true := by first | (simp [plainName, overriddenIn]; done) | decide +kernel
theorem pd149_0 : parseMethodDescriptor "([CII)[B" = some ⟨[(.array .char), .int, .int], some (.array .byte)⟩ := by decide +kernel
theorem pd149_1 : parseMethodDescriptor "([BI)B" = some ⟨[(.array .byte), .int], some .byte⟩ := by decide +kernel
theorem ef149 (m : MethodId) (x0 : Addr) (x1 : Addr) (x2 : Int32) (x3 : Int32) : entryFrame m #[(.ref x0), (.ref x1), (.int x2), (.int x3), .null] 6 = mkF m 0 #[.val (.ref x0), .val (.ref x1), .val (.int x2), .val (.int x3), .val .null, .unset] [] := by first | (simp [entryFrame, mkF, argsToLocals, Value.category]; done) | rfl
set_option maxRecDepth 65536 in
set_option maxHeartbeats 40000000 in
theorem rm149 (l : Launch) (Z : State) (a0 : Array Value) (hw : ∀ d ∈ tables_1, d.before a0 Z = true) (ws : List Jvm.Cond) (x1 a1 : Addr) (k1 : ClassId) (c0 c1 c2 : Int32) (u1 u2 : Value) (h0 : Heap) (n0 : Nat) (Z0 : n0 ≤ h0.size) (g1 : n0 ≤ x1) (hxa : x1 ≠ a1) (hc0 : 0 ≤ c0.toInt ∧ c0.toInt ≤ 65535) (hc1 : 0 ≤ c1.toInt ∧ c1.toInt ≤ 65535) (hc2 : 0 ≤ c2.toInt ∧ c2.toInt ≤ 65535) (V1 : Arv Z h0 a1 k1 .char (3 : Int32) [(.int c0), (.int c1), (.int c2)] (.int (0 : Int32))) (E1 : Exa Z h0 x1 "java/lang/String") (F1 : Fld Z h0 x1 "java/lang/String" "value" "[B" u1) (F2 : Fld Z h0 x1 "java/lang/String" "coder" "B" u2) (G1 : Int32) (US : own_US Z G1) (O0 : Old Z n0 h0) :
    own_Met l (⟨"java/lang/String", "<init>", "([CIILjava/lang/Void;)V"⟩ : MethodName) jdk_42_method_149_code 6 none ws ({ frames := 4, cells := 2, slots := 9, locals := 61 } : Room) Z #[(.ref x1), (.ref a1), (.int (0 : Int32)), (.int (3 : Int32)), .null] h0 (Q149 Z x1 c0 c1 c2 h0 n0) := by
  refine own_enter #[.val (.ref x1), .val (.ref a1), .val (.int (0 : Int32)), .val (.int (3 : Int32)), .val .null, .unset] (plainFor_of_name pn149) (fun m => ef149 m x1 a1 (0 : Int32) (3 : Int32)) ?_
  intro p e s m below meth c s₁ hx hby hml hown hnm hZ hrt hlk X0 e0
  have N0 := Fr.nil n0
  refine own_tp (.ref x1) 1 (fun _ q => XS.aloadN X0.here hx rfl (hb hby d149_0) rfl rfl q) ?_
  obtain ⟨T51, X51, e51, st51⟩ := initO X0 hx hZ hown (hw _ (List.mem_of_getElem? (i := 20) rfl)) (hw _ (List.mem_of_getElem? (i := 21) rfl)) (hw _ (List.mem_of_getElem? (i := 22) rfl)) e0 (g := (mkF m 1 #[.val (.ref x1), .val (.ref a1), .val (.int (0 : Int32)), .val (.int (3 : Int32)), .val .null, .unset] [(.ref x1)])) rfl (by rw [hml]; rfl) rfl (hb hby d149_1) (by decide) (W := 0) (by show 2 * 0 + _ ≤ _; exact Nat.le_of_eq rfl) (by decide)
  refine own_d1 4 st51 ?_
  refine own_tp (.int (3 : Int32)) 5 (fun _ q => XS.iloadN X51.here hx rfl (hb hby d149_4) rfl q) ?_
  refine own_d1 27 (fun _ q => XS.ifYes X51.here hx rfl (pc0 := 5) (pc' := 27) rfl (hb hby d149_5) rfl ((if0 _ _).trans (feq (by decide : ¬ ((3 : Int32) = (0 : Int32)))).2) (by decide) (by decide) q) ?_
  obtain ⟨T52, X52, e52, st52⟩ := getS2 X51 hx hZ hown (host := "") (Or.inl (hw _ (List.mem_of_getElem? (i := 50) rfl))) Via.refl e51 (US.2.1.ext O0.2) (g := (mkF m 27 #[.val (.ref x1), .val (.ref a1), .val (.int (0 : Int32)), .val (.int (3 : Int32)), .val .null, .unset] [])) rfl (hb hby d149_27)
  refine own_tp (.int G1) 30 st52 ?_
  refine own_d1 33 (fun _ q => XS.ifNo X52.here hx rfl (hb hby d149_30) rfl ((if0 _ _).trans (feq US.1).1) q) ?_
  refine own_tp (.ref a1) 34 (fun _ q => XS.aloadN X52.here hx rfl (hb hby d149_33) rfl rfl q) ?_
  refine own_tp (.int (0 : Int32)) 35 (fun _ q => XS.iloadN X52.here hx rfl (hb hby d149_34) rfl q) ?_
  refine own_tp (.int (3 : Int32)) 36 (fun _ q => XS.iloadN X52.here hx rfl (hb hby d149_35) rfl q) ?_
  obtain ⟨_, _, ⟨T53, L53, k53, n53⟩, -, X53, ⟨Lc53, hQ53, l53, y53, z53⟩, st53⟩ := Jvm.LawKit.callS X52 hx (y := (⟨"java/lang/StringUTF16", "compress", "([CII)[B"⟩ : MethodName)) hown (mvT hZ (hw _ (List.mem_of_getElem? (i := 75) rfl))) (mvT hZ (hw _ (List.mem_of_getElem? (i := 76) rfl))) (mvT hZ (hw _ (List.mem_of_getElem? (i := 77) rfl))) (mvT hZ (hw _ (List.mem_of_getElem? (i := 78) rfl))) (by decide) (backOf (W := 0) (rm146 l Z a0 hw [] a1 k1 c0 c1 c2 h0 n0 Z0 hc0 hc1 hc2 V1 G1 US O0) hZ (hw _ (List.mem_of_getElem? (i := 78) rfl)) (hw _ (List.mem_of_getElem? (i := 77) rfl)) (by decide) (by decide)) (g := (mkF m 36 #[.val (.ref x1), .val (.ref a1), .val (.int (0 : Int32)), .val (.int (3 : Int32)), .val .null, .unset] [(.int (3 : Int32)), (.int (0 : Int32)), (.ref a1)])) rfl (by rw [hml]; rfl) (argsL := [(.ref a1), (.int (0 : Int32)), (.int (3 : Int32))]) (rest := []) (lenOf pd149_0 rfl) rfl (by show 2 * 0 + _ ≤ _; exact Nat.le_of_eq rfl) (hb hby d149_36) (fun _ _ => ⟨rfl, e52, (by decide : 0 + 2 ≤ _), (by decide : 0 + 9 ≤ _)⟩)
  dsimp only [Pt.U, Pt.locs, Pt.cells, Pt.slots] at X53 l53 y53 z53 st53 hQ53
  subst l53 y53 z53
  obtain ⟨vb53, kv53, rfl, Nq53, Kp53, ge53, sz53, hD53⟩ := hQ53
  have ne54 : a1 ≠ vb53 := Nat.ne_of_lt (Nat.lt_of_lt_of_le V1.lt sz53)
  have ne55 : x1 ≠ vb53 := Nat.ne_of_lt (Nat.lt_of_lt_of_le E1.lt sz53)
  have s0vb53 : h0.size ≤ vb53 := Nat.le_trans (Keep.refl h0 [x1]).1 sz53
  have N53 := Fr.app N0 Nq53
  have O53 := Old.keep O0 Kp53 all0
  have Z53 : n0 ≤ T53.heap.size := Nat.le_trans Z0 Kp53.1
  have K53 : Keep h0 T53.heap [x1] := Keep.trans (Keep.refl h0 [x1]) Kp53 all0
  refine own_cs [(.ref vb53)] 39 st53 ?_
  rcases hD53 with ⟨hxw, VL⟩ | ⟨hxw, VL⟩
  ·
    refine own_ls #[.val (.ref x1), .val (.ref a1), .val (.int (0 : Int32)), .val (.int (3 : Int32)), .val .null, .val (.ref vb53)] 41 (fun _ q => XS.astore X53.here hx rfl (hb hby d149_39) rfl rfl (l' := #[.val (.ref x1), .val (.ref a1), .val (.int (0 : Int32)), .val (.int (3 : Int32)), .val .null, .val (.ref vb53)]) rfl q) ?_
    refine own_tp (.ref x1) 42 (fun _ q => XS.aloadN X53.here hx rfl (hb hby d149_41) rfl rfl q) ?_
    refine own_tp (.ref vb53) 44 (fun _ q => XS.aload X53.here hx rfl (hb hby d149_42) rfl rfl q) ?_
    refine own_tp (.int (3 : Int32)) 45 (fun _ q => XS.iloadN X53.here hx rfl (hb hby d149_44) rfl q) ?_
    obtain ⟨_, _, ⟨T56, L56, k56, n56⟩, -, X56, ⟨Lc56, hQ56, l56, y56, z56⟩, st56⟩ := Jvm.LawKit.callS X53 hx (y := (⟨"java/lang/StringUTF16", "coderFromArrayLen", "([BI)B"⟩ : MethodName)) hown (mvT hZ (hw _ (List.mem_of_getElem? (i := 82) rfl))) (mvT hZ (hw _ (List.mem_of_getElem? (i := 83) rfl))) (mvT hZ (hw _ (List.mem_of_getElem? (i := 77) rfl))) (mvT hZ (hw _ (List.mem_of_getElem? (i := 84) rfl))) (by decide) (backOf (W := 1) (rm147 l Z a0 hw [] vb53 _ _ T53.heap n0 VL) hZ (hw _ (List.mem_of_getElem? (i := 84) rfl)) (hw _ (List.mem_of_getElem? (i := 77) rfl)) (by decide) (by decide)) (g := (mkF m 45 #[.val (.ref x1), .val (.ref a1), .val (.int (0 : Int32)), .val (.int (3 : Int32)), .val .null, .val (.ref vb53)] [(.int (3 : Int32)), (.ref vb53), (.ref x1)])) rfl (by rw [hml]; rfl) (argsL := [(.ref vb53), (.int (3 : Int32))]) (rest := [(.ref x1)]) (lenOf pd149_1 rfl) rfl (by show 2 * 0 + _ ≤ _; exact Nat.le_of_eq rfl) (hb hby d149_45) (fun _ _ => ⟨rfl, rfl, (by decide : 2 + 0 ≤ _), (by decide : 9 + 0 ≤ _)⟩)
    dsimp only [Pt.U, Pt.locs, Pt.cells, Pt.slots] at X56 l56 y56 z56 st56 hQ56
    subst l56 y56 z56
    obtain ⟨rfl, Nq56, eq56⟩ := hQ56
    have N56 := Fr.app N53 Nq56
    refine own_t2 (.int (0 : Int32)) 48 st56 ?_
    have f57 := (F2.keep Kp53 nin0)
    have f58 := (E1.keep Kp53)
    obtain ⟨T59, h59, X59, e59, W59, st59⟩ := putFN X56 hx hZ hown (hw _ (List.mem_of_getElem? (i := 30) rfl)) Via.refl eq56 f57 f58 (Or.inr ⟨(hw _ (List.mem_of_getElem? (i := 26) rfl)), rfl, hnm⟩) (hw _ (List.mem_of_getElem? (i := 10) rfl)) (ty := .byte) (v' := (.int (0 : Int32))) (by decide) rfl rfl (g := (mkF m 48 #[.val (.ref x1), .val (.ref a1), .val (.int (0 : Int32)), .val (.int (3 : Int32)), .val .null, .val (.ref vb53)] [(.int (0 : Int32)), (.ref x1)])) rfl rfl (hb hby d149_48)
    have Fw59 := f57.same W59
    have N59 := Fr.snoc X59 N56 g1
    have O59 := Old.wr O53 W59 g1
    have K59 : Keep h0 h59 [x1] := K53.wr W59 (Or.inl (List.mem_of_getElem? (i := 0) rfl))
    have Z59 : n0 ≤ h59.size := Nat.le_trans Z53 (Nat.le_of_eq W59.size.symm)
    refine own_d2 51 st59 ?_
    refine own_tp (.ref x1) 52 (fun _ q => XS.aloadN X59.here hx rfl (hb hby d149_51) rfl rfl q) ?_
    refine own_tp (.ref vb53) 54 (fun _ q => XS.aload X59.here hx rfl (hb hby d149_52) rfl rfl q) ?_
    have f60 := ((F1.keep Kp53 nin0).other W59 (Or.inr (slot_ne (Or.inr (hw _ (List.mem_of_getElem? (i := 25) rfl))) (Or.inr (hw _ (List.mem_of_getElem? (i := 26) rfl))) (by decide) (t := (.array .byte)) (t' := .byte) (by decide) (by decide))))
    have f61 := (f58.wr W59)
    obtain ⟨T62, h62, X62, e62, W62, st62⟩ := putF X59 hx hZ hown (host := "") (Or.inl (hw _ (List.mem_of_getElem? (i := 29) rfl))) Via.refl e59 f60 f61 (Or.inr ⟨(hw _ (List.mem_of_getElem? (i := 25) rfl)), rfl, hnm⟩) (hw _ (List.mem_of_getElem? (i := 10) rfl)) (ty := (.array .byte)) (by decide) rfl rfl (g := (mkF m 54 #[.val (.ref x1), .val (.ref a1), .val (.int (0 : Int32)), .val (.int (3 : Int32)), .val .null, .val (.ref vb53)] [(.ref vb53), (.ref x1)])) rfl rfl (hb hby d149_54)
    have Fw62 := f60.same W62
    have N62 := Fr.snoc X62 N59 g1
    have O62 := Old.wr O59 W62 g1
    have K62 : Keep h0 h62 [x1] := K59.wr W62 (Or.inl (List.mem_of_getElem? (i := 0) rfl))
    have Z62 : n0 ≤ h62.size := Nat.le_trans Z59 (Nat.le_of_eq W62.size.symm)
    refine own_d2 57 st62 ?_
    have f63 := (f61.wr W62)
    have f64 := (Fw59.other W62 (Or.inr (slot_ne (Or.inr (hw _ (List.mem_of_getElem? (i := 26) rfl))) (Or.inr (hw _ (List.mem_of_getElem? (i := 25) rfl))) (by decide) (t := .byte) (t' := (.array .byte)) (by decide) (by decide))))
    have f65 := ((VL.other W59 (Ne.symm ne55)).other W62 (Ne.symm ne55))
    exact own_retV X62 hx hrt (hb hby d149_57) hlk (by decide) (by decide) e62 (⟨rfl, N62, K62, vb53, _, _, _, _, ge53, s0vb53, f63, Fw62, f64, f65, Or.inl ⟨rfl, rfl, rfl, (own_all3 hxw)⟩⟩)
  ·
    refine own_ls #[.val (.ref x1), .val (.ref a1), .val (.int (0 : Int32)), .val (.int (3 : Int32)), .val .null, .val (.ref vb53)] 41 (fun _ q => XS.astore X53.here hx rfl (hb hby d149_39) rfl rfl (l' := #[.val (.ref x1), .val (.ref a1), .val (.int (0 : Int32)), .val (.int (3 : Int32)), .val .null, .val (.ref vb53)]) rfl q) ?_
    refine own_tp (.ref x1) 42 (fun _ q => XS.aloadN X53.here hx rfl (hb hby d149_41) rfl rfl q) ?_
    refine own_tp (.ref vb53) 44 (fun _ q => XS.aload X53.here hx rfl (hb hby d149_42) rfl rfl q) ?_
    refine own_tp (.int (3 : Int32)) 45 (fun _ q => XS.iloadN X53.here hx rfl (hb hby d149_44) rfl q) ?_
    obtain ⟨_, _, ⟨T66, L66, k66, n66⟩, -, X66, ⟨Lc66, hQ66, l66, y66, z66⟩, st66⟩ := Jvm.LawKit.callS X53 hx (y := (⟨"java/lang/StringUTF16", "coderFromArrayLen", "([BI)B"⟩ : MethodName)) hown (mvT hZ (hw _ (List.mem_of_getElem? (i := 82) rfl))) (mvT hZ (hw _ (List.mem_of_getElem? (i := 83) rfl))) (mvT hZ (hw _ (List.mem_of_getElem? (i := 77) rfl))) (mvT hZ (hw _ (List.mem_of_getElem? (i := 84) rfl))) (by decide) (backOf (W := 1) (rm148 l Z a0 hw [] vb53 _ _ T53.heap n0 VL) hZ (hw _ (List.mem_of_getElem? (i := 84) rfl)) (hw _ (List.mem_of_getElem? (i := 77) rfl)) (by decide) (by decide)) (g := (mkF m 45 #[.val (.ref x1), .val (.ref a1), .val (.int (0 : Int32)), .val (.int (3 : Int32)), .val .null, .val (.ref vb53)] [(.int (3 : Int32)), (.ref vb53), (.ref x1)])) rfl (by rw [hml]; rfl) (argsL := [(.ref vb53), (.int (3 : Int32))]) (rest := [(.ref x1)]) (lenOf pd149_1 rfl) rfl (by show 2 * 0 + _ ≤ _; exact Nat.le_of_eq rfl) (hb hby d149_45) (fun _ _ => ⟨rfl, rfl, (by decide : 2 + 0 ≤ _), (by decide : 9 + 0 ≤ _)⟩)
    dsimp only [Pt.U, Pt.locs, Pt.cells, Pt.slots] at X66 l66 y66 z66 st66 hQ66
    subst l66 y66 z66
    obtain ⟨rfl, Nq66, eq66⟩ := hQ66
    have N66 := Fr.app N53 Nq66
    refine own_t2 (.int (1 : Int32)) 48 st66 ?_
    have f67 := (F2.keep Kp53 nin0)
    have f68 := (E1.keep Kp53)
    obtain ⟨T69, h69, X69, e69, W69, st69⟩ := putFN X66 hx hZ hown (hw _ (List.mem_of_getElem? (i := 30) rfl)) Via.refl eq66 f67 f68 (Or.inr ⟨(hw _ (List.mem_of_getElem? (i := 26) rfl)), rfl, hnm⟩) (hw _ (List.mem_of_getElem? (i := 10) rfl)) (ty := .byte) (v' := (.int (1 : Int32))) (by decide) rfl rfl (g := (mkF m 48 #[.val (.ref x1), .val (.ref a1), .val (.int (0 : Int32)), .val (.int (3 : Int32)), .val .null, .val (.ref vb53)] [(.int (1 : Int32)), (.ref x1)])) rfl rfl (hb hby d149_48)
    have Fw69 := f67.same W69
    have N69 := Fr.snoc X69 N66 g1
    have O69 := Old.wr O53 W69 g1
    have K69 : Keep h0 h69 [x1] := K53.wr W69 (Or.inl (List.mem_of_getElem? (i := 0) rfl))
    have Z69 : n0 ≤ h69.size := Nat.le_trans Z53 (Nat.le_of_eq W69.size.symm)
    refine own_d2 51 st69 ?_
    refine own_tp (.ref x1) 52 (fun _ q => XS.aloadN X69.here hx rfl (hb hby d149_51) rfl rfl q) ?_
    refine own_tp (.ref vb53) 54 (fun _ q => XS.aload X69.here hx rfl (hb hby d149_52) rfl rfl q) ?_
    have f70 := ((F1.keep Kp53 nin0).other W69 (Or.inr (slot_ne (Or.inr (hw _ (List.mem_of_getElem? (i := 25) rfl))) (Or.inr (hw _ (List.mem_of_getElem? (i := 26) rfl))) (by decide) (t := (.array .byte)) (t' := .byte) (by decide) (by decide))))
    have f71 := (f68.wr W69)
    obtain ⟨T72, h72, X72, e72, W72, st72⟩ := putF X69 hx hZ hown (host := "") (Or.inl (hw _ (List.mem_of_getElem? (i := 29) rfl))) Via.refl e69 f70 f71 (Or.inr ⟨(hw _ (List.mem_of_getElem? (i := 25) rfl)), rfl, hnm⟩) (hw _ (List.mem_of_getElem? (i := 10) rfl)) (ty := (.array .byte)) (by decide) rfl rfl (g := (mkF m 54 #[.val (.ref x1), .val (.ref a1), .val (.int (0 : Int32)), .val (.int (3 : Int32)), .val .null, .val (.ref vb53)] [(.ref vb53), (.ref x1)])) rfl rfl (hb hby d149_54)
    have Fw72 := f70.same W72
    have N72 := Fr.snoc X72 N69 g1
    have O72 := Old.wr O69 W72 g1
    have K72 : Keep h0 h72 [x1] := K69.wr W72 (Or.inl (List.mem_of_getElem? (i := 0) rfl))
    have Z72 : n0 ≤ h72.size := Nat.le_trans Z69 (Nat.le_of_eq W72.size.symm)
    refine own_d2 57 st72 ?_
    have f73 := (f71.wr W72)
    have f74 := (Fw69.other W72 (Or.inr (slot_ne (Or.inr (hw _ (List.mem_of_getElem? (i := 26) rfl))) (Or.inr (hw _ (List.mem_of_getElem? (i := 25) rfl))) (by decide) (t := .byte) (t' := (.array .byte)) (by decide) (by decide))))
    have f75 := ((VL.other W69 (Ne.symm ne55)).other W72 (Ne.symm ne55))
    exact own_retV X72 hx hrt (hb hby d149_57) hlk (by decide) (by decide) e72 (⟨rfl, N72, K72, vb53, _, _, _, _, ge53, s0vb53, f73, Fw72, f74, f75, Or.inr ⟨rfl, rfl, rfl, hxw⟩⟩)

def Q150 (Z : State) (x1 : Addr) (c0 c1 c2 : Int32) (h0 : Heap) (n0 : Nat) (v : Option Value) (h : Heap) (L : List Loc) : Prop := v = none ∧ Fr n0 L ∧ Keep h0 h [x1] ∧ ∃ (t : Addr) (kb : ClassId) (cd N : Int32) (vs : List Value), n0 ≤ t ∧ h0.size ≤ t ∧ Exa Z h x1 "java/lang/String" ∧ Fld Z h x1 "java/lang/String" "value" "[B" (.ref t) ∧ Fld Z h x1 "java/lang/String" "coder" "B" (.int cd) ∧ Arv Z h t kb .byte N vs (.int (0 : Int32)) ∧ own_Cod ([c0, c1, c2] : List Int32) cd N vs

theorem d150_0 : decode jdk_42_method_3_code 0 = .ok (.aload_n 0, 1) := by decide +kernel
theorem d150_1 : decode jdk_42_method_3_code 1 = .ok (.aload_n 1, 1) := by decide +kernel
theorem d150_2 : decode jdk_42_method_3_code 2 = .ok (.iconst 0, 1) := by decide +kernel
theorem d150_3 : decode jdk_42_method_3_code 3 = .ok (.aload_n 1, 1) := by decide +kernel
theorem d150_4 : decode jdk_42_method_3_code 4 = .ok (.arraylength, 1) := by decide +kernel
theorem d150_5 : decode jdk_42_method_3_code 5 = .ok (.aconst_null, 1) := by decide +kernel
theorem d150_6 : decode jdk_42_method_3_code 6 = .ok (.invokespecial 27, 3) := by decide +kernel
theorem d150_9 : decode jdk_42_method_3_code 9 = .ok (.return_, 1) := by decide +kernel
theorem pn150 : plainName "java/lang/String" = true := by first | (simp [plainName, overriddenIn]; done) | decide +kernel
theorem pd150_0 : parseMethodDescriptor "([CIILjava/lang/Void;)V" = some ⟨[(.array .char), .int, .int, (.object "java/lang/Void")], none⟩ := by decide +kernel
theorem ef150 (m : MethodId) (x0 : Addr) (x1 : Addr) : entryFrame m #[(.ref x0), (.ref x1)] 2 = mkF m 0 #[.val (.ref x0), .val (.ref x1)] [] := by first | (simp [entryFrame, mkF, argsToLocals, Value.category]; done) | rfl
set_option maxRecDepth 65536 in
set_option maxHeartbeats 40000000 in
theorem rm150 (l : Launch) (Z : State) (a0 : Array Value) (hw : ∀ d ∈ tables_1, d.before a0 Z = true) (ws : List Jvm.Cond) (x1 a1 : Addr) (k1 : ClassId) (c0 c1 c2 : Int32) (u1 u2 : Value) (h0 : Heap) (n0 : Nat) (Z0 : n0 ≤ h0.size) (g1 : n0 ≤ x1) (hxa : x1 ≠ a1) (hc0 : 0 ≤ c0.toInt ∧ c0.toInt ≤ 65535) (hc1 : 0 ≤ c1.toInt ∧ c1.toInt ≤ 65535) (hc2 : 0 ≤ c2.toInt ∧ c2.toInt ≤ 65535) (V1 : Arv Z h0 a1 k1 .char (3 : Int32) [(.int c0), (.int c1), (.int c2)] (.int (0 : Int32))) (E1 : Exa Z h0 x1 "java/lang/String") (F1 : Fld Z h0 x1 "java/lang/String" "value" "[B" u1) (F2 : Fld Z h0 x1 "java/lang/String" "coder" "B" u2) (G1 : Int32) (US : own_US Z G1) (O0 : Old Z n0 h0) :
    own_Met l (⟨"java/lang/String", "<init>", "([C)V"⟩ : MethodName) jdk_42_method_3_code 2 none ws ({ frames := 5, cells := 2, slots := 9, locals := 78 } : Room) Z #[(.ref x1), (.ref a1)] h0 (Q150 Z x1 c0 c1 c2 h0 n0) := by
  refine own_enter #[.val (.ref x1), .val (.ref a1)] (plainFor_of_name pn150) (fun m => ef150 m x1 a1) ?_
  intro p e s m below meth c s₁ hx hby hml hown hnm hZ hrt hlk X0 e0
  have N0 := Fr.nil n0
  refine own_tp (.ref x1) 1 (fun _ q => XS.aloadN X0.here hx rfl (hb hby d150_0) rfl rfl q) ?_
  refine own_tp (.ref a1) 2 (fun _ q => XS.aloadN X0.here hx rfl (hb hby d150_1) rfl rfl q) ?_
  refine own_tp (.int (0 : Int32)) 3 (fun _ q => XS.iconst X0.here hx rfl (hb hby d150_2) q) ?_
  refine own_tp (.ref a1) 4 (fun _ q => XS.aloadN X0.here hx rfl (hb hby d150_3) rfl rfl q) ?_
  obtain ⟨cl51, Ar51, -, Sz51, Nn51, -, -⟩ := (id V1)
  refine own_t1 (.int (3 : Int32)) 5 (fun t q => X0.arraylength hx (by rw [e0]; exact Ar51.1) (State.isArrayOf_alike hZ.alike Ar51.2.1) (g := (mkF m 4 #[.val (.ref x1), .val (.ref a1)] [(.ref a1), (.int (0 : Int32)), (.ref a1), (.ref x1)])) rfl rfl (hb hby d150_4) _ (by rw [len_of Sz51 Nn51]; exact q)) ?_
  refine own_tp .null 6 (fun _ q => XS.aconstNull X0.here hx rfl (hb hby d150_5) q) ?_
  obtain ⟨_, _, ⟨T52, L52, k52, n52⟩, -, X52, ⟨Lc52, hQ52, l52, y52, z52⟩, st52⟩ := X0.specialBack hx (y := (⟨"java/lang/String", "<init>", "([CIILjava/lang/Void;)V"⟩ : MethodName)) rfl hown (mvT hZ (hw _ (List.mem_of_getElem? (i := 16) rfl))) (mvT hZ (hw _ (List.mem_of_getElem? (i := 17) rfl))) (mvT hZ (hw _ (List.mem_of_getElem? (i := 19) rfl))) (by decide) (backOf (W := 0) (rm149 l Z a0 hw [] x1 a1 k1 c0 c1 c2 _ _ h0 n0 Z0 g1 hxa hc0 hc1 hc2 V1 E1 F1 F2 G1 US O0) hZ (hw _ (List.mem_of_getElem? (i := 19) rfl)) (hw _ (List.mem_of_getElem? (i := 11) rfl)) (by decide) (by decide)) (g := (mkF m 6 #[.val (.ref x1), .val (.ref a1)] [.null, (.int (3 : Int32)), (.int (0 : Int32)), (.ref a1), (.ref x1)])) rfl (by rw [hml]; rfl) (Steps.refl _) (a := x1) (argsL := [(.ref a1), (.int (0 : Int32)), (.int (3 : Int32)), .null]) (rest := []) (lenOf pd150_0 rfl) rfl (by show 2 * 0 + _ ≤ _; exact Nat.le_of_eq rfl) (hb hby d150_6) (fun _ _ => ⟨rfl, e0, (by decide : 0 + 2 ≤ _), (by decide : 0 + 9 ≤ _)⟩)
  dsimp only [Pt.U, Pt.locs, Pt.cells, Pt.slots] at X52 l52 y52 z52 st52 hQ52
  subst l52 y52 z52
  obtain ⟨rfl, Nq52, Kp52, rest52⟩ := hQ52
  refine own_csR [] 9 st52 ?_
  exact own_retV X52 hx hrt (hb hby d150_9) hlk (by decide) (by decide) rfl (⟨rfl, Fr.app N0 Nq52, Kp52, rest52⟩)

def Q151 (Z : State) (b1 : Addr) (k2 : ClassId) (c0 c1 c2 c3 : Int32) (h0 : Heap) (n0 : Nat) (v : Option Value) (h : Heap) (L : List Loc) : Prop := Fr n0 L ∧ Keep h0 h [b1] ∧ ((v = some (.int (0 : Int32)) ∧ (255 : Int32) < c0) ∨ (v = some (.int (1 : Int32)) ∧ (255 : Int32) < c1) ∨ (v = some (.int (2 : Int32)) ∧ (255 : Int32) < c2) ∨ (v = some (.int (3 : Int32)) ∧ (255 : Int32) < c3) ∨ (v = some (.int (4 : Int32)) ∧ (¬ (255 : Int32) < c0 ∧ ¬ (255 : Int32) < c1 ∧ ¬ (255 : Int32) < c2 ∧ ¬ (255 : Int32) < c3) ∧ Arv Z h b1 k2 .byte (4 : Int32) [(.int (own_lo c0)), (.int (own_lo c1)), (.int (own_lo c2)), (.int (own_lo c3))] (.int (0 : Int32))))

theorem d151_0 : decode jdk_52_method_21_code 0 = .ok (.iconst 0, 1) := by decide +kernel
theorem d151_1 : decode jdk_52_method_21_code 1 = .ok (.istore 5, 2) := by decide +kernel
theorem d151_3 : decode jdk_52_method_21_code 3 = .ok (.iload 5, 2) := by decide +kernel
theorem d151_5 : decode jdk_52_method_21_code 5 = .ok (.iload 4, 2) := by decide +kernel
theorem d151_7 : decode jdk_52_method_21_code 7 = .ok (.if_icmp .ge 37, 3) := by decide +kernel
theorem d151_10 : decode jdk_52_method_21_code 10 = .ok (.aload_n 0, 1) := by decide +kernel
theorem d151_11 : decode jdk_52_method_21_code 11 = .ok (.iload_n 1, 1) := by decide +kernel
theorem d151_12 : decode jdk_52_method_21_code 12 = .ok (.caload, 1) := by decide +kernel
theorem d151_13 : decode jdk_52_method_21_code 13 = .ok (.istore 6, 2) := by decide +kernel
theorem d151_15 : decode jdk_52_method_21_code 15 = .ok (.iload 6, 2) := by decide +kernel
theorem d151_17 : decode jdk_52_method_21_code 17 = .ok (.sipush 255, 3) := by decide +kernel
theorem d151_20 : decode jdk_52_method_21_code 20 = .ok (.if_icmp .le 6, 3) := by decide +kernel
theorem d151_23 : decode jdk_52_method_21_code 23 = .ok (.iload 5, 2) := by decide +kernel
theorem d151_25 : decode jdk_52_method_21_code 25 = .ok (.ireturn, 1) := by decide +kernel
theorem d151_26 : decode jdk_52_method_21_code 26 = .ok (.aload_n 2, 1) := by decide +kernel
theorem d151_27 : decode jdk_52_method_21_code 27 = .ok (.iload_n 3, 1) := by decide +kernel
theorem d151_28 : decode jdk_52_method_21_code 28 = .ok (.iload 6, 2) := by decide +kernel
theorem d151_30 : decode jdk_52_method_21_code 30 = .ok (.i2b, 1) := by decide +kernel
theorem d151_31 : decode jdk_52_method_21_code 31 = .ok (.bastore, 1) := by decide +kernel
theorem d151_32 : decode jdk_52_method_21_code 32 = .ok (.iinc 1 1, 3) := by decide +kernel
theorem d151_35 : decode jdk_52_method_21_code 35 = .ok (.iinc 3 1, 3) := by decide +kernel
theorem d151_38 : decode jdk_52_method_21_code 38 = .ok (.iinc 5 1, 3) := by decide +kernel
theorem d151_41 : decode jdk_52_method_21_code 41 = .ok (.goto (-38), 3) := by decide +kernel
theorem d151_44 : decode jdk_52_method_21_code 44 = .ok (.iload 4, 2) := by decide +kernel
theorem d151_46 : decode jdk_52_method_21_code 46 = .ok (.ireturn, 1) := by decide +kernel
theorem pn151 : plainName "java/lang/StringUTF16" = true := by first | (simp [plainName, overriddenIn]; done) | decide +kernel
theorem ef151 (m : MethodId) (x0 : Addr) (x1 : Int32) (x2 : Addr) (x3 : Int32) (x4 : Int32) : entryFrame m #[(.ref x0), (.int x1), (.ref x2), (.int x3), (.int x4)] 7 = mkF m 0 #[.val (.ref x0), .val (.int x1), .val (.ref x2), .val (.int x3), .val (.int x4), .unset, .unset] [] := by first | (simp [entryFrame, mkF, argsToLocals, Value.category]; done) | rfl
set_option maxRecDepth 65536 in
set_option maxHeartbeats 40000000 in
theorem rm151 (l : Launch) (Z : State) (a0 : Array Value) (hw : ∀ d ∈ tables_1, d.before a0 Z = true) (ws : List Jvm.Cond) (a1 b1 : Addr) (k1 k2 : ClassId) (c0 c1 c2 c3 : Int32) (h0 : Heap) (n0 : Nat) (Z0 : n0 ≤ h0.size) (g1 : n0 ≤ b1) (hab : a1 ≠ b1) (V1 : Arv Z h0 a1 k1 .char (4 : Int32) [(.int c0), (.int c1), (.int c2), (.int c3)] (.int (0 : Int32))) (V2 : Arv Z h0 b1 k2 .byte (4 : Int32) [(.int (0 : Int32)), (.int (0 : Int32)), (.int (0 : Int32)), (.int (0 : Int32))] (.int (0 : Int32))) :
    own_Met l (⟨"java/lang/StringUTF16", "compress", "([CI[BII)I"⟩ : MethodName) jdk_52_method_21_code 7 (some .int) ws ({ frames := 0, cells := 0, slots := 0, locals := 0 } : Room) Z #[(.ref a1), (.int (0 : Int32)), (.ref b1), (.int (0 : Int32)), (.int (4 : Int32))] h0 (Q151 Z b1 k2 c0 c1 c2 c3 h0 n0) := by
  refine own_enter #[.val (.ref a1), .val (.int (0 : Int32)), .val (.ref b1), .val (.int (0 : Int32)), .val (.int (4 : Int32)), .unset, .unset] (plainFor_of_name pn151) (fun m => ef151 m a1 (0 : Int32) b1 (0 : Int32) (4 : Int32)) ?_
  intro p e s m below meth c s₁ hx hby hml hown hnm hZ hrt hlk X0 e0
  have N0 := Fr.nil n0
  refine own_tp (.int (0 : Int32)) 1 (fun _ q => XS.iconst X0.here hx rfl (hb hby d151_0) q) ?_
  refine own_ls #[.val (.ref a1), .val (.int (0 : Int32)), .val (.ref b1), .val (.int (0 : Int32)), .val (.int (4 : Int32)), .val (.int (0 : Int32)), .unset] 3 (fun _ q => XS.istore X0.here hx rfl (hb hby d151_1) rfl (l' := #[.val (.ref a1), .val (.int (0 : Int32)), .val (.ref b1), .val (.int (0 : Int32)), .val (.int (4 : Int32)), .val (.int (0 : Int32)), .unset]) rfl q) ?_
  refine own_tp (.int (0 : Int32)) 5 (fun _ q => XS.iload X0.here hx rfl (hb hby d151_3) rfl q) ?_
  refine own_tp (.int (4 : Int32)) 7 (fun _ q => XS.iload X0.here hx rfl (hb hby d151_5) rfl q) ?_
  refine own_d2 10 (fun _ q => XS.icmpNo X0.here hx rfl (hb hby d151_7) rfl (tlt (by decide : (0 : Int32) < (4 : Int32))).2.1 q) ?_
  refine own_tp (.ref a1) 11 (fun _ q => XS.aloadN X0.here hx rfl (hb hby d151_10) rfl rfl q) ?_
  refine own_tp (.int (0 : Int32)) 12 (fun _ q => XS.iloadN X0.here hx rfl (hb hby d151_11) rfl q) ?_
  obtain ⟨cl51, Ar51, q51, S51, Nn51, H51, G51⟩ := (id V1)
  have hin51 : ¬ ((0 : Int32) < 0 ∨ cl51.slots.size ≤ ((0 : Int32)).toNatClampNeg) := inb_of S51 ⟨by decide, by decide⟩
  have hat51 : cl51.slots[((0 : Int32)).toNatClampNeg]? = some (.int c0) := H51.at hin51 rfl
  refine own_t2 (.int c0) 13 (fun _ q => X0.caload hx (j := (0 : Int32)) (v := (.int c0)) (by rw [e0]; exact Ar51.1) (State.isArrayOf_alike hZ.alike Ar51.2.1) Ar51.2.2 hin51 hat51 (g := (mkF m 12 #[.val (.ref a1), .val (.int (0 : Int32)), .val (.ref b1), .val (.int (0 : Int32)), .val (.int (4 : Int32)), .val (.int (0 : Int32)), .unset] [(.int (0 : Int32)), (.ref a1)])) rfl rfl (hb hby d151_12) _ q) ?_
  refine own_ls #[.val (.ref a1), .val (.int (0 : Int32)), .val (.ref b1), .val (.int (0 : Int32)), .val (.int (4 : Int32)), .val (.int (0 : Int32)), .val (.int c0)] 15 (fun _ q => XS.istore X0.here hx rfl (hb hby d151_13) rfl (l' := #[.val (.ref a1), .val (.int (0 : Int32)), .val (.ref b1), .val (.int (0 : Int32)), .val (.int (4 : Int32)), .val (.int (0 : Int32)), .val (.int c0)]) rfl q) ?_
  refine own_tp (.int c0) 17 (fun _ q => XS.iload X0.here hx rfl (hb hby d151_15) rfl q) ?_
  refine own_tp (.int (255 : Int32)) 20 (fun _ q => XS.sipush X0.here hx rfl (hb hby d151_17) q) ?_
  by_cases c52 : (255 : Int32) < c0
  ·
    refine own_d2 23 (fun _ q => XS.icmpNo X0.here hx rfl (hb hby d151_20) rfl (tlt c52).2.2.2 q) ?_
    refine own_tp (.int (0 : Int32)) 25 (fun _ q => XS.iload X0.here hx rfl (hb hby d151_23) rfl q) ?_
    exact own_retI X0 hx hrt (hb hby d151_25) hlk (by decide) (by decide) e0 (⟨N0, (Keep.refl h0 [b1]), (Or.inl ⟨rfl, c52⟩)⟩)
  ·
    refine own_d2 26 (fun _ q => XS.icmpYes X0.here hx rfl (pc0 := 20) (pc' := 26) rfl (hb hby d151_20) rfl (flt c52).2.2.2 (by decide) (by decide) q) ?_
    refine own_tp (.ref b1) 27 (fun _ q => XS.aloadN X0.here hx rfl (hb hby d151_26) rfl rfl q) ?_
    refine own_tp (.int (0 : Int32)) 28 (fun _ q => XS.iloadN X0.here hx rfl (hb hby d151_27) rfl q) ?_
    refine own_tp (.int c0) 30 (fun _ q => XS.iload X0.here hx rfl (hb hby d151_28) rfl q) ?_
    refine own_t1 (.int (c0.toInt8.toInt32)) 31 (fun _ q => XS.i2b X0.here hx rfl (hb hby d151_30) rfl q) ?_
    obtain ⟨cl53, Ar53, q53, S53, Nn53, H53, G53⟩ := (id V2)
    have hin53 : ¬ ((0 : Int32) < 0 ∨ cl53.slots.size ≤ ((0 : Int32)).toNatClampNeg) := inb_of S53 ⟨by decide, by decide⟩
    obtain ⟨T54, h54, X54, e54, W54, st54⟩ := stB X0 hx hZ e0 Ar53 (j := (0 : Int32)) hin53 (g := (mkF m 31 #[.val (.ref a1), .val (.int (0 : Int32)), .val (.ref b1), .val (.int (0 : Int32)), .val (.int (4 : Int32)), .val (.int (0 : Int32)), .val (.int c0)] [(.int (c0.toInt8.toInt32)), (.int (0 : Int32)), (.ref b1)])) rfl rfl (hb hby d151_31)
    have V54 := Arv.set Ar53 q53 S53 Nn53 H53 G53 (fits_nar_byte _) W54 0 rfl (Nat.le_of_ble_eq_true rfl)
    have N54 := Fr.snoc X54 N0 g1
    have K54 : Keep h0 h54 [b1] := (Keep.refl h0 [b1]).wr W54 (Or.inl (List.mem_of_getElem? (i := 0) rfl))
    have Z54 : n0 ≤ h54.size := Nat.le_trans Z0 (Nat.le_of_eq W54.size.symm)
    have V54' : Arv Z h54 b1 k2 .byte (4 : Int32) [(.int (c0.toInt8.toInt32)), (.int (0 : Int32)), (.int (0 : Int32)), (.int (0 : Int32))] (.int (0 : Int32)) := by have q := V54; first | (rw [own_nb] at q; exact q) | (rw [own_nb2] at q; exact q)
    refine own_cs [] 32 st54 ?_
    refine own_li #[.val (.ref a1), .val (.int (1 : Int32)), .val (.ref b1), .val (.int (0 : Int32)), .val (.int (4 : Int32)), .val (.int (0 : Int32)), .val (.int c0)] 35 (fun _ q => XS.iinc X54.here hx rfl (hb hby d151_32) rfl (l' := #[.val (.ref a1), .val (.int (1 : Int32)), .val (.ref b1), .val (.int (0 : Int32)), .val (.int (4 : Int32)), .val (.int (0 : Int32)), .val (.int c0)]) rfl q) ?_
    refine own_li #[.val (.ref a1), .val (.int (1 : Int32)), .val (.ref b1), .val (.int (1 : Int32)), .val (.int (4 : Int32)), .val (.int (0 : Int32)), .val (.int c0)] 38 (fun _ q => XS.iinc X54.here hx rfl (hb hby d151_35) rfl (l' := #[.val (.ref a1), .val (.int (1 : Int32)), .val (.ref b1), .val (.int (1 : Int32)), .val (.int (4 : Int32)), .val (.int (0 : Int32)), .val (.int c0)]) rfl q) ?_
    refine own_li #[.val (.ref a1), .val (.int (1 : Int32)), .val (.ref b1), .val (.int (1 : Int32)), .val (.int (4 : Int32)), .val (.int (1 : Int32)), .val (.int c0)] 41 (fun _ q => XS.iinc X54.here hx rfl (hb hby d151_38) rfl (l' := #[.val (.ref a1), .val (.int (1 : Int32)), .val (.ref b1), .val (.int (1 : Int32)), .val (.int (4 : Int32)), .val (.int (1 : Int32)), .val (.int c0)]) rfl q) ?_
    refine own_d0 3 (fun _ q => XS.goto X54.here hx rfl (pc0 := 41) (pc' := 3) rfl (hb hby d151_41) (by decide) (by decide) q) ?_
    refine own_tp (.int (1 : Int32)) 5 (fun _ q => XS.iload X54.here hx rfl (hb hby d151_3) rfl q) ?_
    refine own_tp (.int (4 : Int32)) 7 (fun _ q => XS.iload X54.here hx rfl (hb hby d151_5) rfl q) ?_
    refine own_d2 10 (fun _ q => XS.icmpNo X54.here hx rfl (hb hby d151_7) rfl (tlt (by decide : (1 : Int32) < (4 : Int32))).2.1 q) ?_
    refine own_tp (.ref a1) 11 (fun _ q => XS.aloadN X54.here hx rfl (hb hby d151_10) rfl rfl q) ?_
    refine own_tp (.int (1 : Int32)) 12 (fun _ q => XS.iloadN X54.here hx rfl (hb hby d151_11) rfl q) ?_
    have f55 := (V1.other W54 hab)
    obtain ⟨cl56, Ar56, q56, S56, Nn56, H56, G56⟩ := (id f55)
    have hin56 : ¬ ((1 : Int32) < 0 ∨ cl56.slots.size ≤ ((1 : Int32)).toNatClampNeg) := inb_of S56 ⟨by decide, by decide⟩
    have hat56 : cl56.slots[((1 : Int32)).toNatClampNeg]? = some (.int c1) := H56.at hin56 rfl
    refine own_t2 (.int c1) 13 (fun _ q => X54.caload hx (j := (1 : Int32)) (v := (.int c1)) (by rw [e54]; exact Ar56.1) (State.isArrayOf_alike hZ.alike Ar56.2.1) Ar56.2.2 hin56 hat56 (g := (mkF m 12 #[.val (.ref a1), .val (.int (1 : Int32)), .val (.ref b1), .val (.int (1 : Int32)), .val (.int (4 : Int32)), .val (.int (1 : Int32)), .val (.int c0)] [(.int (1 : Int32)), (.ref a1)])) rfl rfl (hb hby d151_12) _ q) ?_
    refine own_ls #[.val (.ref a1), .val (.int (1 : Int32)), .val (.ref b1), .val (.int (1 : Int32)), .val (.int (4 : Int32)), .val (.int (1 : Int32)), .val (.int c1)] 15 (fun _ q => XS.istore X54.here hx rfl (hb hby d151_13) rfl (l' := #[.val (.ref a1), .val (.int (1 : Int32)), .val (.ref b1), .val (.int (1 : Int32)), .val (.int (4 : Int32)), .val (.int (1 : Int32)), .val (.int c1)]) rfl q) ?_
    refine own_tp (.int c1) 17 (fun _ q => XS.iload X54.here hx rfl (hb hby d151_15) rfl q) ?_
    refine own_tp (.int (255 : Int32)) 20 (fun _ q => XS.sipush X54.here hx rfl (hb hby d151_17) q) ?_
    by_cases c57 : (255 : Int32) < c1
    ·
      refine own_d2 23 (fun _ q => XS.icmpNo X54.here hx rfl (hb hby d151_20) rfl (tlt c57).2.2.2 q) ?_
      refine own_tp (.int (1 : Int32)) 25 (fun _ q => XS.iload X54.here hx rfl (hb hby d151_23) rfl q) ?_
      exact own_retI X54 hx hrt (hb hby d151_25) hlk (by decide) (by decide) e54 (⟨N54, K54, (Or.inr (Or.inl ⟨rfl, c57⟩))⟩)
    ·
      refine own_d2 26 (fun _ q => XS.icmpYes X54.here hx rfl (pc0 := 20) (pc' := 26) rfl (hb hby d151_20) rfl (flt c57).2.2.2 (by decide) (by decide) q) ?_
      refine own_tp (.ref b1) 27 (fun _ q => XS.aloadN X54.here hx rfl (hb hby d151_26) rfl rfl q) ?_
      refine own_tp (.int (1 : Int32)) 28 (fun _ q => XS.iloadN X54.here hx rfl (hb hby d151_27) rfl q) ?_
      refine own_tp (.int c1) 30 (fun _ q => XS.iload X54.here hx rfl (hb hby d151_28) rfl q) ?_
      refine own_t1 (.int (c1.toInt8.toInt32)) 31 (fun _ q => XS.i2b X54.here hx rfl (hb hby d151_30) rfl q) ?_
      obtain ⟨cl58, Ar58, q58, S58, Nn58, H58, G58⟩ := (id V54')
      have hin58 : ¬ ((1 : Int32) < 0 ∨ cl58.slots.size ≤ ((1 : Int32)).toNatClampNeg) := inb_of S58 ⟨by decide, by decide⟩
      obtain ⟨T59, h59, X59, e59, W59, st59⟩ := stB X54 hx hZ e54 Ar58 (j := (1 : Int32)) hin58 (g := (mkF m 31 #[.val (.ref a1), .val (.int (1 : Int32)), .val (.ref b1), .val (.int (1 : Int32)), .val (.int (4 : Int32)), .val (.int (1 : Int32)), .val (.int c1)] [(.int (c1.toInt8.toInt32)), (.int (1 : Int32)), (.ref b1)])) rfl rfl (hb hby d151_31)
      have V59 := Arv.set Ar58 q58 S58 Nn58 H58 G58 (fits_nar_byte _) W59 1 rfl (Nat.le_of_ble_eq_true rfl)
      have N59 := Fr.snoc X59 N54 g1
      have K59 : Keep h0 h59 [b1] := K54.wr W59 (Or.inl (List.mem_of_getElem? (i := 0) rfl))
      have Z59 : n0 ≤ h59.size := Nat.le_trans Z54 (Nat.le_of_eq W59.size.symm)
      have V59' : Arv Z h59 b1 k2 .byte (4 : Int32) [(.int (c0.toInt8.toInt32)), (.int (c1.toInt8.toInt32)), (.int (0 : Int32)), (.int (0 : Int32))] (.int (0 : Int32)) := by have q := V59; first | (rw [own_nb] at q; exact q) | (rw [own_nb2] at q; exact q)
      refine own_cs [] 32 st59 ?_
      refine own_li #[.val (.ref a1), .val (.int (2 : Int32)), .val (.ref b1), .val (.int (1 : Int32)), .val (.int (4 : Int32)), .val (.int (1 : Int32)), .val (.int c1)] 35 (fun _ q => XS.iinc X59.here hx rfl (hb hby d151_32) rfl (l' := #[.val (.ref a1), .val (.int (2 : Int32)), .val (.ref b1), .val (.int (1 : Int32)), .val (.int (4 : Int32)), .val (.int (1 : Int32)), .val (.int c1)]) rfl q) ?_
      refine own_li #[.val (.ref a1), .val (.int (2 : Int32)), .val (.ref b1), .val (.int (2 : Int32)), .val (.int (4 : Int32)), .val (.int (1 : Int32)), .val (.int c1)] 38 (fun _ q => XS.iinc X59.here hx rfl (hb hby d151_35) rfl (l' := #[.val (.ref a1), .val (.int (2 : Int32)), .val (.ref b1), .val (.int (2 : Int32)), .val (.int (4 : Int32)), .val (.int (1 : Int32)), .val (.int c1)]) rfl q) ?_
      refine own_li #[.val (.ref a1), .val (.int (2 : Int32)), .val (.ref b1), .val (.int (2 : Int32)), .val (.int (4 : Int32)), .val (.int (2 : Int32)), .val (.int c1)] 41 (fun _ q => XS.iinc X59.here hx rfl (hb hby d151_38) rfl (l' := #[.val (.ref a1), .val (.int (2 : Int32)), .val (.ref b1), .val (.int (2 : Int32)), .val (.int (4 : Int32)), .val (.int (2 : Int32)), .val (.int c1)]) rfl q) ?_
      refine own_d0 3 (fun _ q => XS.goto X59.here hx rfl (pc0 := 41) (pc' := 3) rfl (hb hby d151_41) (by decide) (by decide) q) ?_
      refine own_tp (.int (2 : Int32)) 5 (fun _ q => XS.iload X59.here hx rfl (hb hby d151_3) rfl q) ?_
      refine own_tp (.int (4 : Int32)) 7 (fun _ q => XS.iload X59.here hx rfl (hb hby d151_5) rfl q) ?_
      refine own_d2 10 (fun _ q => XS.icmpNo X59.here hx rfl (hb hby d151_7) rfl (tlt (by decide : (2 : Int32) < (4 : Int32))).2.1 q) ?_
      refine own_tp (.ref a1) 11 (fun _ q => XS.aloadN X59.here hx rfl (hb hby d151_10) rfl rfl q) ?_
      refine own_tp (.int (2 : Int32)) 12 (fun _ q => XS.iloadN X59.here hx rfl (hb hby d151_11) rfl q) ?_
      have f60 := (f55.other W59 hab)
      obtain ⟨cl61, Ar61, q61, S61, Nn61, H61, G61⟩ := (id f60)
      have hin61 : ¬ ((2 : Int32) < 0 ∨ cl61.slots.size ≤ ((2 : Int32)).toNatClampNeg) := inb_of S61 ⟨by decide, by decide⟩
      have hat61 : cl61.slots[((2 : Int32)).toNatClampNeg]? = some (.int c2) := H61.at hin61 rfl
      refine own_t2 (.int c2) 13 (fun _ q => X59.caload hx (j := (2 : Int32)) (v := (.int c2)) (by rw [e59]; exact Ar61.1) (State.isArrayOf_alike hZ.alike Ar61.2.1) Ar61.2.2 hin61 hat61 (g := (mkF m 12 #[.val (.ref a1), .val (.int (2 : Int32)), .val (.ref b1), .val (.int (2 : Int32)), .val (.int (4 : Int32)), .val (.int (2 : Int32)), .val (.int c1)] [(.int (2 : Int32)), (.ref a1)])) rfl rfl (hb hby d151_12) _ q) ?_
      refine own_ls #[.val (.ref a1), .val (.int (2 : Int32)), .val (.ref b1), .val (.int (2 : Int32)), .val (.int (4 : Int32)), .val (.int (2 : Int32)), .val (.int c2)] 15 (fun _ q => XS.istore X59.here hx rfl (hb hby d151_13) rfl (l' := #[.val (.ref a1), .val (.int (2 : Int32)), .val (.ref b1), .val (.int (2 : Int32)), .val (.int (4 : Int32)), .val (.int (2 : Int32)), .val (.int c2)]) rfl q) ?_
      refine own_tp (.int c2) 17 (fun _ q => XS.iload X59.here hx rfl (hb hby d151_15) rfl q) ?_
      refine own_tp (.int (255 : Int32)) 20 (fun _ q => XS.sipush X59.here hx rfl (hb hby d151_17) q) ?_
      by_cases c62 : (255 : Int32) < c2
      ·
        refine own_d2 23 (fun _ q => XS.icmpNo X59.here hx rfl (hb hby d151_20) rfl (tlt c62).2.2.2 q) ?_
        refine own_tp (.int (2 : Int32)) 25 (fun _ q => XS.iload X59.here hx rfl (hb hby d151_23) rfl q) ?_
        exact own_retI X59 hx hrt (hb hby d151_25) hlk (by decide) (by decide) e59 (⟨N59, K59, (Or.inr (Or.inr (Or.inl ⟨rfl, c62⟩)))⟩)
      ·
        refine own_d2 26 (fun _ q => XS.icmpYes X59.here hx rfl (pc0 := 20) (pc' := 26) rfl (hb hby d151_20) rfl (flt c62).2.2.2 (by decide) (by decide) q) ?_
        refine own_tp (.ref b1) 27 (fun _ q => XS.aloadN X59.here hx rfl (hb hby d151_26) rfl rfl q) ?_
        refine own_tp (.int (2 : Int32)) 28 (fun _ q => XS.iloadN X59.here hx rfl (hb hby d151_27) rfl q) ?_
        refine own_tp (.int c2) 30 (fun _ q => XS.iload X59.here hx rfl (hb hby d151_28) rfl q) ?_
        refine own_t1 (.int (c2.toInt8.toInt32)) 31 (fun _ q => XS.i2b X59.here hx rfl (hb hby d151_30) rfl q) ?_
        obtain ⟨cl63, Ar63, q63, S63, Nn63, H63, G63⟩ := (id V59')
        have hin63 : ¬ ((2 : Int32) < 0 ∨ cl63.slots.size ≤ ((2 : Int32)).toNatClampNeg) := inb_of S63 ⟨by decide, by decide⟩
        obtain ⟨T64, h64, X64, e64, W64, st64⟩ := stB X59 hx hZ e59 Ar63 (j := (2 : Int32)) hin63 (g := (mkF m 31 #[.val (.ref a1), .val (.int (2 : Int32)), .val (.ref b1), .val (.int (2 : Int32)), .val (.int (4 : Int32)), .val (.int (2 : Int32)), .val (.int c2)] [(.int (c2.toInt8.toInt32)), (.int (2 : Int32)), (.ref b1)])) rfl rfl (hb hby d151_31)
        have V64 := Arv.set Ar63 q63 S63 Nn63 H63 G63 (fits_nar_byte _) W64 2 rfl (Nat.le_of_ble_eq_true rfl)
        have N64 := Fr.snoc X64 N59 g1
        have K64 : Keep h0 h64 [b1] := K59.wr W64 (Or.inl (List.mem_of_getElem? (i := 0) rfl))
        have Z64 : n0 ≤ h64.size := Nat.le_trans Z59 (Nat.le_of_eq W64.size.symm)
        have V64' : Arv Z h64 b1 k2 .byte (4 : Int32) [(.int (c0.toInt8.toInt32)), (.int (c1.toInt8.toInt32)), (.int (c2.toInt8.toInt32)), (.int (0 : Int32))] (.int (0 : Int32)) := by have q := V64; first | (rw [own_nb] at q; exact q) | (rw [own_nb2] at q; exact q)
        refine own_cs [] 32 st64 ?_
        refine own_li #[.val (.ref a1), .val (.int (3 : Int32)), .val (.ref b1), .val (.int (2 : Int32)), .val (.int (4 : Int32)), .val (.int (2 : Int32)), .val (.int c2)] 35 (fun _ q => XS.iinc X64.here hx rfl (hb hby d151_32) rfl (l' := #[.val (.ref a1), .val (.int (3 : Int32)), .val (.ref b1), .val (.int (2 : Int32)), .val (.int (4 : Int32)), .val (.int (2 : Int32)), .val (.int c2)]) rfl q) ?_
        refine own_li #[.val (.ref a1), .val (.int (3 : Int32)), .val (.ref b1), .val (.int (3 : Int32)), .val (.int (4 : Int32)), .val (.int (2 : Int32)), .val (.int c2)] 38 (fun _ q => XS.iinc X64.here hx rfl (hb hby d151_35) rfl (l' := #[.val (.ref a1), .val (.int (3 : Int32)), .val (.ref b1), .val (.int (3 : Int32)), .val (.int (4 : Int32)), .val (.int (2 : Int32)), .val (.int c2)]) rfl q) ?_
        refine own_li #[.val (.ref a1), .val (.int (3 : Int32)), .val (.ref b1), .val (.int (3 : Int32)), .val (.int (4 : Int32)), .val (.int (3 : Int32)), .val (.int c2)] 41 (fun _ q => XS.iinc X64.here hx rfl (hb hby d151_38) rfl (l' := #[.val (.ref a1), .val (.int (3 : Int32)), .val (.ref b1), .val (.int (3 : Int32)), .val (.int (4 : Int32)), .val (.int (3 : Int32)), .val (.int c2)]) rfl q) ?_
        refine own_d0 3 (fun _ q => XS.goto X64.here hx rfl (pc0 := 41) (pc' := 3) rfl (hb hby d151_41) (by decide) (by decide) q) ?_
        refine own_tp (.int (3 : Int32)) 5 (fun _ q => XS.iload X64.here hx rfl (hb hby d151_3) rfl q) ?_
        refine own_tp (.int (4 : Int32)) 7 (fun _ q => XS.iload X64.here hx rfl (hb hby d151_5) rfl q) ?_
        refine own_d2 10 (fun _ q => XS.icmpNo X64.here hx rfl (hb hby d151_7) rfl (tlt (by decide : (3 : Int32) < (4 : Int32))).2.1 q) ?_
        refine own_tp (.ref a1) 11 (fun _ q => XS.aloadN X64.here hx rfl (hb hby d151_10) rfl rfl q) ?_
        refine own_tp (.int (3 : Int32)) 12 (fun _ q => XS.iloadN X64.here hx rfl (hb hby d151_11) rfl q) ?_
        have f65 := (f60.other W64 hab)
        obtain ⟨cl66, Ar66, q66, S66, Nn66, H66, G66⟩ := (id f65)
        have hin66 : ¬ ((3 : Int32) < 0 ∨ cl66.slots.size ≤ ((3 : Int32)).toNatClampNeg) := inb_of S66 ⟨by decide, by decide⟩
        have hat66 : cl66.slots[((3 : Int32)).toNatClampNeg]? = some (.int c3) := H66.at hin66 rfl
        refine own_t2 (.int c3) 13 (fun _ q => X64.caload hx (j := (3 : Int32)) (v := (.int c3)) (by rw [e64]; exact Ar66.1) (State.isArrayOf_alike hZ.alike Ar66.2.1) Ar66.2.2 hin66 hat66 (g := (mkF m 12 #[.val (.ref a1), .val (.int (3 : Int32)), .val (.ref b1), .val (.int (3 : Int32)), .val (.int (4 : Int32)), .val (.int (3 : Int32)), .val (.int c2)] [(.int (3 : Int32)), (.ref a1)])) rfl rfl (hb hby d151_12) _ q) ?_
        refine own_ls #[.val (.ref a1), .val (.int (3 : Int32)), .val (.ref b1), .val (.int (3 : Int32)), .val (.int (4 : Int32)), .val (.int (3 : Int32)), .val (.int c3)] 15 (fun _ q => XS.istore X64.here hx rfl (hb hby d151_13) rfl (l' := #[.val (.ref a1), .val (.int (3 : Int32)), .val (.ref b1), .val (.int (3 : Int32)), .val (.int (4 : Int32)), .val (.int (3 : Int32)), .val (.int c3)]) rfl q) ?_
        refine own_tp (.int c3) 17 (fun _ q => XS.iload X64.here hx rfl (hb hby d151_15) rfl q) ?_
        refine own_tp (.int (255 : Int32)) 20 (fun _ q => XS.sipush X64.here hx rfl (hb hby d151_17) q) ?_
        by_cases c67 : (255 : Int32) < c3
        ·
          refine own_d2 23 (fun _ q => XS.icmpNo X64.here hx rfl (hb hby d151_20) rfl (tlt c67).2.2.2 q) ?_
          refine own_tp (.int (3 : Int32)) 25 (fun _ q => XS.iload X64.here hx rfl (hb hby d151_23) rfl q) ?_
          exact own_retI X64 hx hrt (hb hby d151_25) hlk (by decide) (by decide) e64 (⟨N64, K64, (Or.inr (Or.inr (Or.inr (Or.inl ⟨rfl, c67⟩))))⟩)
        ·
          refine own_d2 26 (fun _ q => XS.icmpYes X64.here hx rfl (pc0 := 20) (pc' := 26) rfl (hb hby d151_20) rfl (flt c67).2.2.2 (by decide) (by decide) q) ?_
          refine own_tp (.ref b1) 27 (fun _ q => XS.aloadN X64.here hx rfl (hb hby d151_26) rfl rfl q) ?_
          refine own_tp (.int (3 : Int32)) 28 (fun _ q => XS.iloadN X64.here hx rfl (hb hby d151_27) rfl q) ?_
          refine own_tp (.int c3) 30 (fun _ q => XS.iload X64.here hx rfl (hb hby d151_28) rfl q) ?_
          refine own_t1 (.int (c3.toInt8.toInt32)) 31 (fun _ q => XS.i2b X64.here hx rfl (hb hby d151_30) rfl q) ?_
          obtain ⟨cl68, Ar68, q68, S68, Nn68, H68, G68⟩ := (id V64')
          have hin68 : ¬ ((3 : Int32) < 0 ∨ cl68.slots.size ≤ ((3 : Int32)).toNatClampNeg) := inb_of S68 ⟨by decide, by decide⟩
          obtain ⟨T69, h69, X69, e69, W69, st69⟩ := stB X64 hx hZ e64 Ar68 (j := (3 : Int32)) hin68 (g := (mkF m 31 #[.val (.ref a1), .val (.int (3 : Int32)), .val (.ref b1), .val (.int (3 : Int32)), .val (.int (4 : Int32)), .val (.int (3 : Int32)), .val (.int c3)] [(.int (c3.toInt8.toInt32)), (.int (3 : Int32)), (.ref b1)])) rfl rfl (hb hby d151_31)
          have V69 := Arv.set Ar68 q68 S68 Nn68 H68 G68 (fits_nar_byte _) W69 3 rfl (Nat.le_of_ble_eq_true rfl)
          have N69 := Fr.snoc X69 N64 g1
          have K69 : Keep h0 h69 [b1] := K64.wr W69 (Or.inl (List.mem_of_getElem? (i := 0) rfl))
          have Z69 : n0 ≤ h69.size := Nat.le_trans Z64 (Nat.le_of_eq W69.size.symm)
          have V69' : Arv Z h69 b1 k2 .byte (4 : Int32) [(.int (c0.toInt8.toInt32)), (.int (c1.toInt8.toInt32)), (.int (c2.toInt8.toInt32)), (.int (c3.toInt8.toInt32))] (.int (0 : Int32)) := by have q := V69; first | (rw [own_nb] at q; exact q) | (rw [own_nb2] at q; exact q)
          refine own_cs [] 32 st69 ?_
          refine own_li #[.val (.ref a1), .val (.int (4 : Int32)), .val (.ref b1), .val (.int (3 : Int32)), .val (.int (4 : Int32)), .val (.int (3 : Int32)), .val (.int c3)] 35 (fun _ q => XS.iinc X69.here hx rfl (hb hby d151_32) rfl (l' := #[.val (.ref a1), .val (.int (4 : Int32)), .val (.ref b1), .val (.int (3 : Int32)), .val (.int (4 : Int32)), .val (.int (3 : Int32)), .val (.int c3)]) rfl q) ?_
          refine own_li #[.val (.ref a1), .val (.int (4 : Int32)), .val (.ref b1), .val (.int (4 : Int32)), .val (.int (4 : Int32)), .val (.int (3 : Int32)), .val (.int c3)] 38 (fun _ q => XS.iinc X69.here hx rfl (hb hby d151_35) rfl (l' := #[.val (.ref a1), .val (.int (4 : Int32)), .val (.ref b1), .val (.int (4 : Int32)), .val (.int (4 : Int32)), .val (.int (3 : Int32)), .val (.int c3)]) rfl q) ?_
          refine own_li #[.val (.ref a1), .val (.int (4 : Int32)), .val (.ref b1), .val (.int (4 : Int32)), .val (.int (4 : Int32)), .val (.int (4 : Int32)), .val (.int c3)] 41 (fun _ q => XS.iinc X69.here hx rfl (hb hby d151_38) rfl (l' := #[.val (.ref a1), .val (.int (4 : Int32)), .val (.ref b1), .val (.int (4 : Int32)), .val (.int (4 : Int32)), .val (.int (4 : Int32)), .val (.int c3)]) rfl q) ?_
          refine own_d0 3 (fun _ q => XS.goto X69.here hx rfl (pc0 := 41) (pc' := 3) rfl (hb hby d151_41) (by decide) (by decide) q) ?_
          refine own_tp (.int (4 : Int32)) 5 (fun _ q => XS.iload X69.here hx rfl (hb hby d151_3) rfl q) ?_
          refine own_tp (.int (4 : Int32)) 7 (fun _ q => XS.iload X69.here hx rfl (hb hby d151_5) rfl q) ?_
          refine own_d2 44 (fun _ q => XS.icmpYes X69.here hx rfl (pc0 := 7) (pc' := 44) rfl (hb hby d151_7) rfl (flt (by decide : ¬ ((4 : Int32) < (4 : Int32)))).2.1 (by decide) (by decide) q) ?_
          refine own_tp (.int (4 : Int32)) 46 (fun _ q => XS.iload X69.here hx rfl (hb hby d151_44) rfl q) ?_
          exact own_retI X69 hx hrt (hb hby d151_46) hlk (by decide) (by decide) e69 (⟨N69, K69, (Or.inr (Or.inr (Or.inr (Or.inr ⟨rfl, ⟨c52, c57, c62, c67⟩, V69'⟩))))⟩)

def Q152  (h0 : Heap) (n0 : Nat) (v : Option Value) (h : Heap) (L : List Loc) : Prop := v = some (.int (8 : Int32)) ∧ Fr n0 L ∧ h = h0

theorem d152_0 : decode jdk_52_method_3_code 0 = .ok (.iload_n 0, 1) := by decide +kernel
theorem d152_1 : decode jdk_52_method_3_code 1 = .ok (.ifCond .ge 11, 3) := by decide +kernel
theorem d152_12 : decode jdk_52_method_3_code 12 = .ok (.iload_n 0, 1) := by decide +kernel
theorem d152_13 : decode jdk_52_method_3_code 13 = .ok (.ldc 20, 2) := by decide +kernel
theorem d152_15 : decode jdk_52_method_3_code 15 = .ok (.if_icmp .lt 40, 3) := by decide +kernel
theorem d152_55 : decode jdk_52_method_3_code 55 = .ok (.iload_n 0, 1) := by decide +kernel
theorem d152_56 : decode jdk_52_method_3_code 56 = .ok (.iconst 1, 1) := by decide +kernel
theorem d152_57 : decode jdk_52_method_3_code 57 = .ok (.ishl, 1) := by decide +kernel
theorem d152_58 : decode jdk_52_method_3_code 58 = .ok (.ireturn, 1) := by decide +kernel
theorem pn152 : plainName "java/lang/StringUTF16" = true := by first | (simp [plainName, overriddenIn]; done) | decide +kernel
theorem ef152 (m : MethodId) (x0 : Int32) : entryFrame m #[(.int x0)] 1 = mkF m 0 #[.val (.int x0)] [] := by first | (simp [entryFrame, mkF, argsToLocals, Value.category]; done) | rfl
set_option maxRecDepth 65536 in
set_option maxHeartbeats 40000000 in
theorem rm152 (l : Launch) (Z : State) (a0 : Array Value) (hw : ∀ d ∈ tables_1, d.before a0 Z = true) (ws : List Jvm.Cond)  (h0 : Heap) (n0 : Nat)  :
    own_Met l (⟨"java/lang/StringUTF16", "newBytesLength", "(I)I"⟩ : MethodName) jdk_52_method_3_code 1 (some .int) ws ({ frames := 0, cells := 0, slots := 0, locals := 0 } : Room) Z #[(.int (4 : Int32))] h0 (Q152 h0 n0) := by
  refine own_enter #[.val (.int (4 : Int32))] (plainFor_of_name pn152) (fun m => ef152 m (4 : Int32)) ?_
  intro p e s m below meth c s₁ hx hby hml hown hnm hZ hrt hlk X0 e0
  have N0 := Fr.nil n0
  refine own_tp (.int (4 : Int32)) 1 (fun _ q => XS.iloadN X0.here hx rfl (hb hby d152_0) rfl q) ?_
  refine own_d1 12 (fun _ q => XS.ifYes X0.here hx rfl (pc0 := 1) (pc' := 12) rfl (hb hby d152_1) rfl ((if0 _ _).trans (flt (by decide : ¬ ((4 : Int32) < (0 : Int32)))).2.1) (by decide) (by decide) q) ?_
  refine own_tp (.int (4 : Int32)) 13 (fun _ q => XS.iloadN X0.here hx rfl (hb hby d152_12) rfl q) ?_
  refine own_tp (.int (1073741823 : Int32)) 15 (fun _ q => X0.ldcInt hx hown (mvT hZ (hw _ (List.mem_of_getElem? (i := 101) rfl))) (g := (mkF m 13 #[.val (.int (4 : Int32))] [(.int (4 : Int32))])) rfl (hb hby d152_13) _ q) ?_
  refine own_d2 55 (fun _ q => XS.icmpYes X0.here hx rfl (pc0 := 15) (pc' := 55) rfl (hb hby d152_15) rfl (tlt (by decide : (4 : Int32) < (1073741823 : Int32))).1 (by decide) (by decide) q) ?_
  refine own_tp (.int (4 : Int32)) 56 (fun _ q => XS.iloadN X0.here hx rfl (hb hby d152_55) rfl q) ?_
  refine own_tp (.int (1 : Int32)) 57 (fun _ q => XS.iconst X0.here hx rfl (hb hby d152_56) q) ?_
  refine own_t2 (.int (8 : Int32)) 58 (fun _ q => XS.ishl X0.here hx rfl (hb hby d152_57) rfl q) ?_
  exact own_retI X0 hx hrt (hb hby d152_58) hlk (by decide) (by decide) e0 (⟨rfl, N0, rfl⟩)

def Q153 (Z : State) (h0 : Heap) (n0 : Nat) (v : Option Value) (h : Heap) (L : List Loc) : Prop := ∃ (b : Addr) (k : ClassId), v = some (.ref b) ∧ Fr n0 L ∧ Keep h0 h [] ∧ n0 ≤ b ∧ h0.size ≤ b ∧ Arv Z h b k .byte (8 : Int32) [(.int (0 : Int32)), (.int (0 : Int32)), (.int (0 : Int32)), (.int (0 : Int32)), (.int (0 : Int32)), (.int (0 : Int32)), (.int (0 : Int32)), (.int (0 : Int32))] (.int (0 : Int32))

theorem d153_0 : decode jdk_52_method_2_code 0 = .ok (.iload_n 0, 1) := by decide +kernel
theorem d153_1 : decode jdk_52_method_2_code 1 = .ok (.invokestatic 11, 3) := by decide +kernel
theorem d153_4 : decode jdk_52_method_2_code 4 = .ok (.newarray .byte, 2) := by decide +kernel
theorem d153_6 : decode jdk_52_method_2_code 6 = .ok (.areturn, 1) := by decide +kernel
theorem pn153 : plainName "java/lang/StringUTF16" = true := by first | (simp [plainName, overriddenIn]; done) | decide +kernel
theorem pd153_0 : parseMethodDescriptor "(I)I" = some ⟨[.int], some .int⟩ := by decide +kernel
theorem ef153 (m : MethodId) (x0 : Int32) : entryFrame m #[(.int x0)] 1 = mkF m 0 #[.val (.int x0)] [] := by first | (simp [entryFrame, mkF, argsToLocals, Value.category]; done) | rfl
set_option maxRecDepth 65536 in
set_option maxHeartbeats 40000000 in
theorem rm153 (l : Launch) (Z : State) (a0 : Array Value) (hw : ∀ d ∈ tables_1, d.before a0 Z = true) (ws : List Jvm.Cond)  (h0 : Heap) (n0 : Nat) (Z0 : n0 ≤ h0.size) :
    own_Met l (⟨"java/lang/StringUTF16", "newBytesFor", "(I)[B"⟩ : MethodName) jdk_52_method_2_code 1 (some (.array .byte)) ws ({ frames := 1, cells := 1, slots := 8, locals := 12 } : Room) Z #[(.int (4 : Int32))] h0 (Q153 Z h0 n0) := by
  refine own_enter #[.val (.int (4 : Int32))] (plainFor_of_name pn153) (fun m => ef153 m (4 : Int32)) ?_
  intro p e s m below meth c s₁ hx hby hml hown hnm hZ hrt hlk X0 e0
  have N0 := Fr.nil n0
  refine own_tp (.int (4 : Int32)) 1 (fun _ q => XS.iloadN X0.here hx rfl (hb hby d153_0) rfl q) ?_
  obtain ⟨_, _, ⟨T51, L51, k51, n51⟩, -, X51, ⟨Lc51, hQ51, l51, y51, z51⟩, st51⟩ := Jvm.LawKit.callS X0 hx (y := (⟨"java/lang/StringUTF16", "newBytesLength", "(I)I"⟩ : MethodName)) hown (mvT hZ (hw _ (List.mem_of_getElem? (i := 98) rfl))) (mvT hZ (hw _ (List.mem_of_getElem? (i := 99) rfl))) (mvT hZ (hw _ (List.mem_of_getElem? (i := 77) rfl))) (mvT hZ (hw _ (List.mem_of_getElem? (i := 100) rfl))) (by decide) (backOf (W := 0) (rm152 l Z a0 hw [] h0 n0) hZ (hw _ (List.mem_of_getElem? (i := 100) rfl)) (hw _ (List.mem_of_getElem? (i := 77) rfl)) (by decide) (by decide)) (g := (mkF m 1 #[.val (.int (4 : Int32))] [(.int (4 : Int32))])) rfl (by rw [hml]; rfl) (argsL := [(.int (4 : Int32))]) (rest := []) (lenOf pd153_0 rfl) rfl (by show 2 * 0 + _ ≤ _; exact Nat.le_of_eq rfl) (hb hby d153_1) (fun _ _ => ⟨rfl, e0, (by decide : 0 + 0 ≤ _), (by decide : 0 + 0 ≤ _)⟩)
  dsimp only [Pt.U, Pt.locs, Pt.cells, Pt.slots] at X51 l51 y51 z51 st51 hQ51
  subst l51 y51 z51
  obtain ⟨rfl, Nq51, eq51⟩ := hQ51
  have N51 := Fr.app N0 Nq51
  refine own_t1 (.int (8 : Int32)) 4 st51 ?_
  obtain ⟨T52, h52, k52, X52, e52, E52, A52, st52⟩ := newP X51 hx hZ (hw _ (List.mem_of_getElem? (i := 24) rfl)) eq51 (g := (mkF m 4 #[.val (.int (4 : Int32))] [(.int (8 : Int32))])) rfl (hb hby d153_4) rfl (by decide) (cap := 8) (by decide) (by decide) (by decide) (by decide)
  obtain ⟨b52, g52⟩ : ∃ z, z = h0.size := ⟨_, rfl⟩
  rw [← g52] at A52 st52
  have V52 : Arv Z h52 b52 k52 .byte (8 : Int32) [(.int (0 : Int32)), (.int (0 : Int32)), (.int (0 : Int32)), (.int (0 : Int32)), (.int (0 : Int32)), (.int (0 : Int32)), (.int (0 : Int32)), (.int (0 : Int32))] (.int (0 : Int32)) := (Arv.new A52 (by decide)).pad (pad_rep [] (.int (0 : Int32)) 8)
  have ge52 : n0 ≤ b52 := Nat.le_trans Z0 (Nat.le_of_eq g52.symm)
  have sz52 : h0.size ≤ b52 := Nat.le_trans (Keep.refl h0 []).1 (Nat.le_of_eq g52.symm)
  have K52 : Keep h0 h52 [] := (Keep.refl h0 []).ext E52
  have Z52 : n0 ≤ h52.size := Nat.le_trans Z0 E52.1
  refine own_t1 (.ref b52) 6 st52 ?_
  exact own_retR X52 hx hrt (hb hby d153_6) rfl rfl hlk (by decide) (by decide) e52 (⟨b52, _, rfl, N51, K52, ge52, sz52, V52⟩)

def Q154 (Z : State) (c0 c1 c2 c3 : Int32) (h0 : Heap) (n0 : Nat) (v : Option Value) (h : Heap) (L : List Loc) : Prop := ∃ (b : Addr) (k : ClassId), v = some (.ref b) ∧ Fr n0 L ∧ Keep h0 h [] ∧ n0 ≤ b ∧ h0.size ≤ b ∧ Arv Z h b k .byte (8 : Int32) [(.int (own_b0 c0)), (.int (own_b1 c0)), (.int (own_b0 c1)), (.int (own_b1 c1)), (.int (own_b0 c2)), (.int (own_b1 c2)), (.int (own_b0 c3)), (.int (own_b1 c3))] (.int (0 : Int32))

theorem d154_0 : decode jdk_52_method_14_code 0 = .ok (.iload_n 2, 1) := by decide +kernel
theorem d154_1 : decode jdk_52_method_14_code 1 = .ok (.invokestatic 107, 3) := by decide +kernel
theorem d154_4 : decode jdk_52_method_14_code 4 = .ok (.astore_n 3, 1) := by decide +kernel
theorem d154_5 : decode jdk_52_method_14_code 5 = .ok (.iconst 0, 1) := by decide +kernel
theorem d154_6 : decode jdk_52_method_14_code 6 = .ok (.istore 4, 2) := by decide +kernel
theorem d154_8 : decode jdk_52_method_14_code 8 = .ok (.iload 4, 2) := by decide +kernel
theorem d154_10 : decode jdk_52_method_14_code 10 = .ok (.iload_n 2, 1) := by decide +kernel
theorem d154_11 : decode jdk_52_method_14_code 11 = .ok (.if_icmp .ge 21, 3) := by decide +kernel
theorem d154_14 : decode jdk_52_method_14_code 14 = .ok (.aload_n 3, 1) := by decide +kernel
theorem d154_15 : decode jdk_52_method_14_code 15 = .ok (.iload 4, 2) := by decide +kernel
theorem d154_17 : decode jdk_52_method_14_code 17 = .ok (.aload_n 0, 1) := by decide +kernel
theorem d154_18 : decode jdk_52_method_14_code 18 = .ok (.iload_n 1, 1) := by decide +kernel
theorem d154_19 : decode jdk_52_method_14_code 19 = .ok (.caload, 1) := by decide +kernel
theorem d154_20 : decode jdk_52_method_14_code 20 = .ok (.invokestatic 111, 3) := by decide +kernel
theorem d154_23 : decode jdk_52_method_14_code 23 = .ok (.iinc 1 1, 3) := by decide +kernel
theorem d154_26 : decode jdk_52_method_14_code 26 = .ok (.iinc 4 1, 3) := by decide +kernel
theorem d154_29 : decode jdk_52_method_14_code 29 = .ok (.goto (-21), 3) := by decide +kernel
theorem d154_32 : decode jdk_52_method_14_code 32 = .ok (.aload_n 3, 1) := by decide +kernel
theorem d154_33 : decode jdk_52_method_14_code 33 = .ok (.areturn, 1) := by decide +kernel
theorem pn154 : plainName "java/lang/StringUTF16" = true := by first | (simp [plainName, overriddenIn]; done) | decide +kernel
theorem pd154_0 : parseMethodDescriptor "(I)[B" = some ⟨[.int], some (.array .byte)⟩ := by decide +kernel
theorem pd154_1 : parseMethodDescriptor "([BII)V" = some ⟨[(.array .byte), .int, .int], none⟩ := by decide +kernel
theorem ef154 (m : MethodId) (x0 : Addr) (x1 : Int32) (x2 : Int32) : entryFrame m #[(.ref x0), (.int x1), (.int x2)] 5 = mkF m 0 #[.val (.ref x0), .val (.int x1), .val (.int x2), .unset, .unset] [] := by first | (simp [entryFrame, mkF, argsToLocals, Value.category]; done) | rfl
set_option maxRecDepth 65536 in
set_option maxHeartbeats 40000000 in
theorem rm154 (l : Launch) (Z : State) (a0 : Array Value) (hw : ∀ d ∈ tables_1, d.before a0 Z = true) (ws : List Jvm.Cond) (a1 : Addr) (k1 : ClassId) (c0 c1 c2 c3 : Int32) (h0 : Heap) (n0 : Nat) (Z0 : n0 ≤ h0.size) (V1 : Arv Z h0 a1 k1 .char (4 : Int32) [(.int c0), (.int c1), (.int c2), (.int c3)] (.int (0 : Int32))) (G1 : Int32) (US : own_US Z G1) (O0 : Old Z n0 h0) :
    own_Met l (⟨"java/lang/StringUTF16", "toBytes", "([CII)[B"⟩ : MethodName) jdk_52_method_14_code 5 (some (.array .byte)) ws ({ frames := 2, cells := 1, slots := 8, locals := 24 } : Room) Z #[(.ref a1), (.int (0 : Int32)), (.int (4 : Int32))] h0 (Q154 Z c0 c1 c2 c3 h0 n0) := by
  refine own_enter #[.val (.ref a1), .val (.int (0 : Int32)), .val (.int (4 : Int32)), .unset, .unset] (plainFor_of_name pn154) (fun m => ef154 m a1 (0 : Int32) (4 : Int32)) ?_
  intro p e s m below meth c s₁ hx hby hml hown hnm hZ hrt hlk X0 e0
  have N0 := Fr.nil n0
  refine own_tp (.int (4 : Int32)) 1 (fun _ q => XS.iloadN X0.here hx rfl (hb hby d154_0) rfl q) ?_
  obtain ⟨_, _, ⟨T51, L51, k51, n51⟩, -, X51, ⟨Lc51, hQ51, l51, y51, z51⟩, st51⟩ := Jvm.LawKit.callS X0 hx (y := (⟨"java/lang/StringUTF16", "newBytesFor", "(I)[B"⟩ : MethodName)) hown (mvT hZ (hw _ (List.mem_of_getElem? (i := 95) rfl))) (mvT hZ (hw _ (List.mem_of_getElem? (i := 96) rfl))) (mvT hZ (hw _ (List.mem_of_getElem? (i := 77) rfl))) (mvT hZ (hw _ (List.mem_of_getElem? (i := 97) rfl))) (by decide) (backOf (W := 0) (rm153 l Z a0 hw [] h0 n0 Z0) hZ (hw _ (List.mem_of_getElem? (i := 97) rfl)) (hw _ (List.mem_of_getElem? (i := 77) rfl)) (by decide) (by decide)) (g := (mkF m 1 #[.val (.ref a1), .val (.int (0 : Int32)), .val (.int (4 : Int32)), .unset, .unset] [(.int (4 : Int32))])) rfl (by rw [hml]; rfl) (argsL := [(.int (4 : Int32))]) (rest := []) (lenOf pd154_0 rfl) rfl (by show 2 * 0 + _ ≤ _; exact Nat.le_of_eq rfl) (hb hby d154_1) (fun _ _ => ⟨rfl, e0, (by decide : 0 + 1 ≤ _), (by decide : 0 + 8 ≤ _)⟩)
  dsimp only [Pt.U, Pt.locs, Pt.cells, Pt.slots] at X51 l51 y51 z51 st51 hQ51
  subst l51 y51 z51
  obtain ⟨nb51, kn51, rfl, Nq51, Kp51, ge51, sz51, V51⟩ := hQ51
  have ne52 : a1 ≠ nb51 := Nat.ne_of_lt (Nat.lt_of_lt_of_le V1.lt sz51)
  have s0nb51 : h0.size ≤ nb51 := Nat.le_trans (Keep.refl h0 []).1 sz51
  have N51 := Fr.app N0 Nq51
  have O51 := Old.keep O0 Kp51 all0
  have Z51 : n0 ≤ T51.heap.size := Nat.le_trans Z0 Kp51.1
  have K51 : Keep h0 T51.heap [] := Keep.trans (Keep.refl h0 []) Kp51 all0
  refine own_t1 (.ref nb51) 4 st51 ?_
  refine own_ls #[.val (.ref a1), .val (.int (0 : Int32)), .val (.int (4 : Int32)), .val (.ref nb51), .unset] 5 (fun _ q => XS.astoreN X51.here hx rfl (hb hby d154_4) rfl rfl (l' := #[.val (.ref a1), .val (.int (0 : Int32)), .val (.int (4 : Int32)), .val (.ref nb51), .unset]) rfl q) ?_
  refine own_tp (.int (0 : Int32)) 6 (fun _ q => XS.iconst X51.here hx rfl (hb hby d154_5) q) ?_
  refine own_ls #[.val (.ref a1), .val (.int (0 : Int32)), .val (.int (4 : Int32)), .val (.ref nb51), .val (.int (0 : Int32))] 8 (fun _ q => XS.istore X51.here hx rfl (hb hby d154_6) rfl (l' := #[.val (.ref a1), .val (.int (0 : Int32)), .val (.int (4 : Int32)), .val (.ref nb51), .val (.int (0 : Int32))]) rfl q) ?_
  refine own_tp (.int (0 : Int32)) 10 (fun _ q => XS.iload X51.here hx rfl (hb hby d154_8) rfl q) ?_
  refine own_tp (.int (4 : Int32)) 11 (fun _ q => XS.iloadN X51.here hx rfl (hb hby d154_10) rfl q) ?_
  refine own_d2 14 (fun _ q => XS.icmpNo X51.here hx rfl (hb hby d154_11) rfl (tlt (by decide : (0 : Int32) < (4 : Int32))).2.1 q) ?_
  refine own_tp (.ref nb51) 15 (fun _ q => XS.aloadN X51.here hx rfl (hb hby d154_14) rfl rfl q) ?_
  refine own_tp (.int (0 : Int32)) 17 (fun _ q => XS.iload X51.here hx rfl (hb hby d154_15) rfl q) ?_
  refine own_tp (.ref a1) 18 (fun _ q => XS.aloadN X51.here hx rfl (hb hby d154_17) rfl rfl q) ?_
  refine own_tp (.int (0 : Int32)) 19 (fun _ q => XS.iloadN X51.here hx rfl (hb hby d154_18) rfl q) ?_
  have f53 := (V1.keep Kp51 nin0)
  obtain ⟨cl54, Ar54, q54, S54, Nn54, H54, G54⟩ := (id f53)
  have hin54 : ¬ ((0 : Int32) < 0 ∨ cl54.slots.size ≤ ((0 : Int32)).toNatClampNeg) := inb_of S54 ⟨by decide, by decide⟩
  have hat54 : cl54.slots[((0 : Int32)).toNatClampNeg]? = some (.int c0) := H54.at hin54 rfl
  refine own_t2 (.int c0) 20 (fun _ q => X51.caload hx (j := (0 : Int32)) (v := (.int c0)) Ar54.1 (State.isArrayOf_alike hZ.alike Ar54.2.1) Ar54.2.2 hin54 hat54 (g := (mkF m 19 #[.val (.ref a1), .val (.int (0 : Int32)), .val (.int (4 : Int32)), .val (.ref nb51), .val (.int (0 : Int32))] [(.int (0 : Int32)), (.ref a1), (.int (0 : Int32)), (.ref nb51)])) rfl rfl (hb hby d154_19) _ q) ?_
  obtain ⟨_, _, ⟨T55, L55, k55, n55⟩, -, X55, ⟨Lc55, hQ55, l55, y55, z55⟩, st55⟩ := Jvm.LawKit.callS X51 hx (y := (⟨"java/lang/StringUTF16", "putChar", "([BII)V"⟩ : MethodName)) hown (mvT hZ (hw _ (List.mem_of_getElem? (i := 102) rfl))) (mvT hZ (hw _ (List.mem_of_getElem? (i := 103) rfl))) (mvT hZ (hw _ (List.mem_of_getElem? (i := 77) rfl))) (mvT hZ (hw _ (List.mem_of_getElem? (i := 104) rfl))) (by decide) (backOf (W := 0) (rm126 l Z a0 hw [] nb51 kn51 0 c0 [(.int (0 : Int32)), (.int (0 : Int32)), (.int (0 : Int32)), (.int (0 : Int32)), (.int (0 : Int32)), (.int (0 : Int32)), (.int (0 : Int32)), (.int (0 : Int32))] T51.heap n0 Z51 ge51 (by simp) (by simp) V51 G1 US O51) hZ (hw _ (List.mem_of_getElem? (i := 104) rfl)) (hw _ (List.mem_of_getElem? (i := 77) rfl)) (by decide) (by decide)) (g := (mkF m 20 #[.val (.ref a1), .val (.int (0 : Int32)), .val (.int (4 : Int32)), .val (.ref nb51), .val (.int (0 : Int32))] [(.int c0), (.int (0 : Int32)), (.ref nb51)])) rfl (by rw [hml]; rfl) (argsL := [(.ref nb51), (.int (0 : Int32)), (.int c0)]) (rest := []) (lenOf pd154_1 rfl) rfl (by show 2 * 0 + _ ≤ _; exact Nat.le_of_eq rfl) (hb hby d154_20) (fun _ _ => ⟨rfl, rfl, (by decide : 1 + 0 ≤ _), (by decide : 8 + 0 ≤ _)⟩)
  dsimp only [Pt.U, Pt.locs, Pt.cells, Pt.slots] at X55 l55 y55 z55 st55 hQ55
  subst l55 y55 z55
  obtain ⟨rfl, Nq55, Kp55, V55⟩ := hQ55
  have N55 := Fr.app N51 Nq55
  have O55 := Old.keep O51 Kp55 (allS ge51 all0)
  have Z55 : n0 ≤ T55.heap.size := Nat.le_trans Z51 Kp55.1
  have K55 : Keep h0 T55.heap [] := Keep.trans K51 Kp55 (allS (Or.inr s0nb51) all0)
  have V55' : Arv Z T55.heap nb51 kn51 .byte (8 : Int32) [(.int (own_b0 c0)), (.int (own_b1 c0)), (.int (0 : Int32)), (.int (0 : Int32)), (.int (0 : Int32)), (.int (0 : Int32)), (.int (0 : Int32)), (.int (0 : Int32))] (.int (0 : Int32)) := V55
  refine own_cs [] 23 st55 ?_
  refine own_li #[.val (.ref a1), .val (.int (1 : Int32)), .val (.int (4 : Int32)), .val (.ref nb51), .val (.int (0 : Int32))] 26 (fun _ q => XS.iinc X55.here hx rfl (hb hby d154_23) rfl (l' := #[.val (.ref a1), .val (.int (1 : Int32)), .val (.int (4 : Int32)), .val (.ref nb51), .val (.int (0 : Int32))]) rfl q) ?_
  refine own_li #[.val (.ref a1), .val (.int (1 : Int32)), .val (.int (4 : Int32)), .val (.ref nb51), .val (.int (1 : Int32))] 29 (fun _ q => XS.iinc X55.here hx rfl (hb hby d154_26) rfl (l' := #[.val (.ref a1), .val (.int (1 : Int32)), .val (.int (4 : Int32)), .val (.ref nb51), .val (.int (1 : Int32))]) rfl q) ?_
  refine own_d0 8 (fun _ q => XS.goto X55.here hx rfl (pc0 := 29) (pc' := 8) rfl (hb hby d154_29) (by decide) (by decide) q) ?_
  refine own_tp (.int (1 : Int32)) 10 (fun _ q => XS.iload X55.here hx rfl (hb hby d154_8) rfl q) ?_
  refine own_tp (.int (4 : Int32)) 11 (fun _ q => XS.iloadN X55.here hx rfl (hb hby d154_10) rfl q) ?_
  refine own_d2 14 (fun _ q => XS.icmpNo X55.here hx rfl (hb hby d154_11) rfl (tlt (by decide : (1 : Int32) < (4 : Int32))).2.1 q) ?_
  refine own_tp (.ref nb51) 15 (fun _ q => XS.aloadN X55.here hx rfl (hb hby d154_14) rfl rfl q) ?_
  refine own_tp (.int (1 : Int32)) 17 (fun _ q => XS.iload X55.here hx rfl (hb hby d154_15) rfl q) ?_
  refine own_tp (.ref a1) 18 (fun _ q => XS.aloadN X55.here hx rfl (hb hby d154_17) rfl rfl q) ?_
  refine own_tp (.int (1 : Int32)) 19 (fun _ q => XS.iloadN X55.here hx rfl (hb hby d154_18) rfl q) ?_
  have f56 := (f53.keep Kp55 (ninS ne52 nin0))
  obtain ⟨cl57, Ar57, q57, S57, Nn57, H57, G57⟩ := (id f56)
  have hin57 : ¬ ((1 : Int32) < 0 ∨ cl57.slots.size ≤ ((1 : Int32)).toNatClampNeg) := inb_of S57 ⟨by decide, by decide⟩
  have hat57 : cl57.slots[((1 : Int32)).toNatClampNeg]? = some (.int c1) := H57.at hin57 rfl
  refine own_t2 (.int c1) 20 (fun _ q => X55.caload hx (j := (1 : Int32)) (v := (.int c1)) Ar57.1 (State.isArrayOf_alike hZ.alike Ar57.2.1) Ar57.2.2 hin57 hat57 (g := (mkF m 19 #[.val (.ref a1), .val (.int (1 : Int32)), .val (.int (4 : Int32)), .val (.ref nb51), .val (.int (1 : Int32))] [(.int (1 : Int32)), (.ref a1), (.int (1 : Int32)), (.ref nb51)])) rfl rfl (hb hby d154_19) _ q) ?_
  obtain ⟨_, _, ⟨T58, L58, k58, n58⟩, -, X58, ⟨Lc58, hQ58, l58, y58, z58⟩, st58⟩ := Jvm.LawKit.callS X55 hx (y := (⟨"java/lang/StringUTF16", "putChar", "([BII)V"⟩ : MethodName)) hown (mvT hZ (hw _ (List.mem_of_getElem? (i := 102) rfl))) (mvT hZ (hw _ (List.mem_of_getElem? (i := 103) rfl))) (mvT hZ (hw _ (List.mem_of_getElem? (i := 77) rfl))) (mvT hZ (hw _ (List.mem_of_getElem? (i := 104) rfl))) (by decide) (backOf (W := 0) (rm126 l Z a0 hw [] nb51 kn51 1 c1 [(.int (own_b0 c0)), (.int (own_b1 c0)), (.int (0 : Int32)), (.int (0 : Int32)), (.int (0 : Int32)), (.int (0 : Int32)), (.int (0 : Int32)), (.int (0 : Int32))] T55.heap n0 Z55 ge51 (by simp) (by simp) V55' G1 US O55) hZ (hw _ (List.mem_of_getElem? (i := 104) rfl)) (hw _ (List.mem_of_getElem? (i := 77) rfl)) (by decide) (by decide)) (g := (mkF m 20 #[.val (.ref a1), .val (.int (1 : Int32)), .val (.int (4 : Int32)), .val (.ref nb51), .val (.int (1 : Int32))] [(.int c1), (.int (1 : Int32)), (.ref nb51)])) rfl (by rw [hml]; rfl) (argsL := [(.ref nb51), (.int (1 : Int32)), (.int c1)]) (rest := []) (lenOf pd154_1 rfl) rfl (by show 2 * 0 + _ ≤ _; exact Nat.le_of_eq rfl) (hb hby d154_20) (fun _ _ => ⟨rfl, rfl, (by decide : 1 + 0 ≤ _), (by decide : 8 + 0 ≤ _)⟩)
  dsimp only [Pt.U, Pt.locs, Pt.cells, Pt.slots] at X58 l58 y58 z58 st58 hQ58
  subst l58 y58 z58
  obtain ⟨rfl, Nq58, Kp58, V58⟩ := hQ58
  have N58 := Fr.app N55 Nq58
  have O58 := Old.keep O55 Kp58 (allS ge51 all0)
  have Z58 : n0 ≤ T58.heap.size := Nat.le_trans Z55 Kp58.1
  have K58 : Keep h0 T58.heap [] := Keep.trans K55 Kp58 (allS (Or.inr s0nb51) all0)
  have V58' : Arv Z T58.heap nb51 kn51 .byte (8 : Int32) [(.int (own_b0 c0)), (.int (own_b1 c0)), (.int (own_b0 c1)), (.int (own_b1 c1)), (.int (0 : Int32)), (.int (0 : Int32)), (.int (0 : Int32)), (.int (0 : Int32))] (.int (0 : Int32)) := V58
  refine own_cs [] 23 st58 ?_
  refine own_li #[.val (.ref a1), .val (.int (2 : Int32)), .val (.int (4 : Int32)), .val (.ref nb51), .val (.int (1 : Int32))] 26 (fun _ q => XS.iinc X58.here hx rfl (hb hby d154_23) rfl (l' := #[.val (.ref a1), .val (.int (2 : Int32)), .val (.int (4 : Int32)), .val (.ref nb51), .val (.int (1 : Int32))]) rfl q) ?_
  refine own_li #[.val (.ref a1), .val (.int (2 : Int32)), .val (.int (4 : Int32)), .val (.ref nb51), .val (.int (2 : Int32))] 29 (fun _ q => XS.iinc X58.here hx rfl (hb hby d154_26) rfl (l' := #[.val (.ref a1), .val (.int (2 : Int32)), .val (.int (4 : Int32)), .val (.ref nb51), .val (.int (2 : Int32))]) rfl q) ?_
  refine own_d0 8 (fun _ q => XS.goto X58.here hx rfl (pc0 := 29) (pc' := 8) rfl (hb hby d154_29) (by decide) (by decide) q) ?_
  refine own_tp (.int (2 : Int32)) 10 (fun _ q => XS.iload X58.here hx rfl (hb hby d154_8) rfl q) ?_
  refine own_tp (.int (4 : Int32)) 11 (fun _ q => XS.iloadN X58.here hx rfl (hb hby d154_10) rfl q) ?_
  refine own_d2 14 (fun _ q => XS.icmpNo X58.here hx rfl (hb hby d154_11) rfl (tlt (by decide : (2 : Int32) < (4 : Int32))).2.1 q) ?_
  refine own_tp (.ref nb51) 15 (fun _ q => XS.aloadN X58.here hx rfl (hb hby d154_14) rfl rfl q) ?_
  refine own_tp (.int (2 : Int32)) 17 (fun _ q => XS.iload X58.here hx rfl (hb hby d154_15) rfl q) ?_
  refine own_tp (.ref a1) 18 (fun _ q => XS.aloadN X58.here hx rfl (hb hby d154_17) rfl rfl q) ?_
  refine own_tp (.int (2 : Int32)) 19 (fun _ q => XS.iloadN X58.here hx rfl (hb hby d154_18) rfl q) ?_
  have f59 := (f56.keep Kp58 (ninS ne52 nin0))
  obtain ⟨cl60, Ar60, q60, S60, Nn60, H60, G60⟩ := (id f59)
  have hin60 : ¬ ((2 : Int32) < 0 ∨ cl60.slots.size ≤ ((2 : Int32)).toNatClampNeg) := inb_of S60 ⟨by decide, by decide⟩
  have hat60 : cl60.slots[((2 : Int32)).toNatClampNeg]? = some (.int c2) := H60.at hin60 rfl
  refine own_t2 (.int c2) 20 (fun _ q => X58.caload hx (j := (2 : Int32)) (v := (.int c2)) Ar60.1 (State.isArrayOf_alike hZ.alike Ar60.2.1) Ar60.2.2 hin60 hat60 (g := (mkF m 19 #[.val (.ref a1), .val (.int (2 : Int32)), .val (.int (4 : Int32)), .val (.ref nb51), .val (.int (2 : Int32))] [(.int (2 : Int32)), (.ref a1), (.int (2 : Int32)), (.ref nb51)])) rfl rfl (hb hby d154_19) _ q) ?_
  obtain ⟨_, _, ⟨T61, L61, k61, n61⟩, -, X61, ⟨Lc61, hQ61, l61, y61, z61⟩, st61⟩ := Jvm.LawKit.callS X58 hx (y := (⟨"java/lang/StringUTF16", "putChar", "([BII)V"⟩ : MethodName)) hown (mvT hZ (hw _ (List.mem_of_getElem? (i := 102) rfl))) (mvT hZ (hw _ (List.mem_of_getElem? (i := 103) rfl))) (mvT hZ (hw _ (List.mem_of_getElem? (i := 77) rfl))) (mvT hZ (hw _ (List.mem_of_getElem? (i := 104) rfl))) (by decide) (backOf (W := 0) (rm126 l Z a0 hw [] nb51 kn51 2 c2 [(.int (own_b0 c0)), (.int (own_b1 c0)), (.int (own_b0 c1)), (.int (own_b1 c1)), (.int (0 : Int32)), (.int (0 : Int32)), (.int (0 : Int32)), (.int (0 : Int32))] T58.heap n0 Z58 ge51 (by simp) (by simp) V58' G1 US O58) hZ (hw _ (List.mem_of_getElem? (i := 104) rfl)) (hw _ (List.mem_of_getElem? (i := 77) rfl)) (by decide) (by decide)) (g := (mkF m 20 #[.val (.ref a1), .val (.int (2 : Int32)), .val (.int (4 : Int32)), .val (.ref nb51), .val (.int (2 : Int32))] [(.int c2), (.int (2 : Int32)), (.ref nb51)])) rfl (by rw [hml]; rfl) (argsL := [(.ref nb51), (.int (2 : Int32)), (.int c2)]) (rest := []) (lenOf pd154_1 rfl) rfl (by show 2 * 0 + _ ≤ _; exact Nat.le_of_eq rfl) (hb hby d154_20) (fun _ _ => ⟨rfl, rfl, (by decide : 1 + 0 ≤ _), (by decide : 8 + 0 ≤ _)⟩)
  dsimp only [Pt.U, Pt.locs, Pt.cells, Pt.slots] at X61 l61 y61 z61 st61 hQ61
  subst l61 y61 z61
  obtain ⟨rfl, Nq61, Kp61, V61⟩ := hQ61
  have N61 := Fr.app N58 Nq61
  have O61 := Old.keep O58 Kp61 (allS ge51 all0)
  have Z61 : n0 ≤ T61.heap.size := Nat.le_trans Z58 Kp61.1
  have K61 : Keep h0 T61.heap [] := Keep.trans K58 Kp61 (allS (Or.inr s0nb51) all0)
  have V61' : Arv Z T61.heap nb51 kn51 .byte (8 : Int32) [(.int (own_b0 c0)), (.int (own_b1 c0)), (.int (own_b0 c1)), (.int (own_b1 c1)), (.int (own_b0 c2)), (.int (own_b1 c2)), (.int (0 : Int32)), (.int (0 : Int32))] (.int (0 : Int32)) := V61
  refine own_cs [] 23 st61 ?_
  refine own_li #[.val (.ref a1), .val (.int (3 : Int32)), .val (.int (4 : Int32)), .val (.ref nb51), .val (.int (2 : Int32))] 26 (fun _ q => XS.iinc X61.here hx rfl (hb hby d154_23) rfl (l' := #[.val (.ref a1), .val (.int (3 : Int32)), .val (.int (4 : Int32)), .val (.ref nb51), .val (.int (2 : Int32))]) rfl q) ?_
  refine own_li #[.val (.ref a1), .val (.int (3 : Int32)), .val (.int (4 : Int32)), .val (.ref nb51), .val (.int (3 : Int32))] 29 (fun _ q => XS.iinc X61.here hx rfl (hb hby d154_26) rfl (l' := #[.val (.ref a1), .val (.int (3 : Int32)), .val (.int (4 : Int32)), .val (.ref nb51), .val (.int (3 : Int32))]) rfl q) ?_
  refine own_d0 8 (fun _ q => XS.goto X61.here hx rfl (pc0 := 29) (pc' := 8) rfl (hb hby d154_29) (by decide) (by decide) q) ?_
  refine own_tp (.int (3 : Int32)) 10 (fun _ q => XS.iload X61.here hx rfl (hb hby d154_8) rfl q) ?_
  refine own_tp (.int (4 : Int32)) 11 (fun _ q => XS.iloadN X61.here hx rfl (hb hby d154_10) rfl q) ?_
  refine own_d2 14 (fun _ q => XS.icmpNo X61.here hx rfl (hb hby d154_11) rfl (tlt (by decide : (3 : Int32) < (4 : Int32))).2.1 q) ?_
  refine own_tp (.ref nb51) 15 (fun _ q => XS.aloadN X61.here hx rfl (hb hby d154_14) rfl rfl q) ?_
  refine own_tp (.int (3 : Int32)) 17 (fun _ q => XS.iload X61.here hx rfl (hb hby d154_15) rfl q) ?_
  refine own_tp (.ref a1) 18 (fun _ q => XS.aloadN X61.here hx rfl (hb hby d154_17) rfl rfl q) ?_
  refine own_tp (.int (3 : Int32)) 19 (fun _ q => XS.iloadN X61.here hx rfl (hb hby d154_18) rfl q) ?_
  have f62 := (f59.keep Kp61 (ninS ne52 nin0))
  obtain ⟨cl63, Ar63, q63, S63, Nn63, H63, G63⟩ := (id f62)
  have hin63 : ¬ ((3 : Int32) < 0 ∨ cl63.slots.size ≤ ((3 : Int32)).toNatClampNeg) := inb_of S63 ⟨by decide, by decide⟩
  have hat63 : cl63.slots[((3 : Int32)).toNatClampNeg]? = some (.int c3) := H63.at hin63 rfl
  refine own_t2 (.int c3) 20 (fun _ q => X61.caload hx (j := (3 : Int32)) (v := (.int c3)) Ar63.1 (State.isArrayOf_alike hZ.alike Ar63.2.1) Ar63.2.2 hin63 hat63 (g := (mkF m 19 #[.val (.ref a1), .val (.int (3 : Int32)), .val (.int (4 : Int32)), .val (.ref nb51), .val (.int (3 : Int32))] [(.int (3 : Int32)), (.ref a1), (.int (3 : Int32)), (.ref nb51)])) rfl rfl (hb hby d154_19) _ q) ?_
  obtain ⟨_, _, ⟨T64, L64, k64, n64⟩, -, X64, ⟨Lc64, hQ64, l64, y64, z64⟩, st64⟩ := Jvm.LawKit.callS X61 hx (y := (⟨"java/lang/StringUTF16", "putChar", "([BII)V"⟩ : MethodName)) hown (mvT hZ (hw _ (List.mem_of_getElem? (i := 102) rfl))) (mvT hZ (hw _ (List.mem_of_getElem? (i := 103) rfl))) (mvT hZ (hw _ (List.mem_of_getElem? (i := 77) rfl))) (mvT hZ (hw _ (List.mem_of_getElem? (i := 104) rfl))) (by decide) (backOf (W := 0) (rm126 l Z a0 hw [] nb51 kn51 3 c3 [(.int (own_b0 c0)), (.int (own_b1 c0)), (.int (own_b0 c1)), (.int (own_b1 c1)), (.int (own_b0 c2)), (.int (own_b1 c2)), (.int (0 : Int32)), (.int (0 : Int32))] T61.heap n0 Z61 ge51 (by simp) (by simp) V61' G1 US O61) hZ (hw _ (List.mem_of_getElem? (i := 104) rfl)) (hw _ (List.mem_of_getElem? (i := 77) rfl)) (by decide) (by decide)) (g := (mkF m 20 #[.val (.ref a1), .val (.int (3 : Int32)), .val (.int (4 : Int32)), .val (.ref nb51), .val (.int (3 : Int32))] [(.int c3), (.int (3 : Int32)), (.ref nb51)])) rfl (by rw [hml]; rfl) (argsL := [(.ref nb51), (.int (3 : Int32)), (.int c3)]) (rest := []) (lenOf pd154_1 rfl) rfl (by show 2 * 0 + _ ≤ _; exact Nat.le_of_eq rfl) (hb hby d154_20) (fun _ _ => ⟨rfl, rfl, (by decide : 1 + 0 ≤ _), (by decide : 8 + 0 ≤ _)⟩)
  dsimp only [Pt.U, Pt.locs, Pt.cells, Pt.slots] at X64 l64 y64 z64 st64 hQ64
  subst l64 y64 z64
  obtain ⟨rfl, Nq64, Kp64, V64⟩ := hQ64
  have N64 := Fr.app N61 Nq64
  have O64 := Old.keep O61 Kp64 (allS ge51 all0)
  have Z64 : n0 ≤ T64.heap.size := Nat.le_trans Z61 Kp64.1
  have K64 : Keep h0 T64.heap [] := Keep.trans K61 Kp64 (allS (Or.inr s0nb51) all0)
  have V64' : Arv Z T64.heap nb51 kn51 .byte (8 : Int32) [(.int (own_b0 c0)), (.int (own_b1 c0)), (.int (own_b0 c1)), (.int (own_b1 c1)), (.int (own_b0 c2)), (.int (own_b1 c2)), (.int (own_b0 c3)), (.int (own_b1 c3))] (.int (0 : Int32)) := V64
  refine own_cs [] 23 st64 ?_
  refine own_li #[.val (.ref a1), .val (.int (4 : Int32)), .val (.int (4 : Int32)), .val (.ref nb51), .val (.int (3 : Int32))] 26 (fun _ q => XS.iinc X64.here hx rfl (hb hby d154_23) rfl (l' := #[.val (.ref a1), .val (.int (4 : Int32)), .val (.int (4 : Int32)), .val (.ref nb51), .val (.int (3 : Int32))]) rfl q) ?_
  refine own_li #[.val (.ref a1), .val (.int (4 : Int32)), .val (.int (4 : Int32)), .val (.ref nb51), .val (.int (4 : Int32))] 29 (fun _ q => XS.iinc X64.here hx rfl (hb hby d154_26) rfl (l' := #[.val (.ref a1), .val (.int (4 : Int32)), .val (.int (4 : Int32)), .val (.ref nb51), .val (.int (4 : Int32))]) rfl q) ?_
  refine own_d0 8 (fun _ q => XS.goto X64.here hx rfl (pc0 := 29) (pc' := 8) rfl (hb hby d154_29) (by decide) (by decide) q) ?_
  refine own_tp (.int (4 : Int32)) 10 (fun _ q => XS.iload X64.here hx rfl (hb hby d154_8) rfl q) ?_
  refine own_tp (.int (4 : Int32)) 11 (fun _ q => XS.iloadN X64.here hx rfl (hb hby d154_10) rfl q) ?_
  refine own_d2 32 (fun _ q => XS.icmpYes X64.here hx rfl (pc0 := 11) (pc' := 32) rfl (hb hby d154_11) rfl (flt (by decide : ¬ ((4 : Int32) < (4 : Int32)))).2.1 (by decide) (by decide) q) ?_
  refine own_tp (.ref nb51) 33 (fun _ q => XS.aloadN X64.here hx rfl (hb hby d154_32) rfl rfl q) ?_
  exact own_retR X64 hx hrt (hb hby d154_33) rfl rfl hlk (by decide) (by decide) rfl (⟨nb51, _, rfl, N64, K64, ge51, s0nb51, V64'⟩)

def Q155 (Z : State) (c0 c1 c2 c3 : Int32) (h0 : Heap) (n0 : Nat) (v : Option Value) (h : Heap) (L : List Loc) : Prop := ∃ (b : Addr) (k : ClassId), v = some (.ref b) ∧ Fr n0 L ∧ Keep h0 h [] ∧ n0 ≤ b ∧ h0.size ≤ b ∧ (((¬ (255 : Int32) < c0 ∧ ¬ (255 : Int32) < c1 ∧ ¬ (255 : Int32) < c2 ∧ ¬ (255 : Int32) < c3) ∧ Arv Z h b k .byte (4 : Int32) [(.int (own_lo c0)), (.int (own_lo c1)), (.int (own_lo c2)), (.int (own_lo c3))] (.int (0 : Int32))) ∨ ((∃ c ∈ ([c0, c1, c2, c3] : List Int32), (255 : Int32) < c) ∧ Arv Z h b k .byte (8 : Int32) [(.int (own_b0 c0)), (.int (own_b1 c0)), (.int (own_b0 c1)), (.int (own_b1 c1)), (.int (own_b0 c2)), (.int (own_b1 c2)), (.int (own_b0 c3)), (.int (own_b1 c3))] (.int (0 : Int32))))

theorem d155_0 : decode jdk_52_method_16_code 0 = .ok (.iload_n 2, 1) := by decide +kernel
theorem d155_1 : decode jdk_52_method_16_code 1 = .ok (.newarray .byte, 2) := by decide +kernel
theorem d155_3 : decode jdk_52_method_16_code 3 = .ok (.astore_n 3, 1) := by decide +kernel
theorem d155_4 : decode jdk_52_method_16_code 4 = .ok (.aload_n 0, 1) := by decide +kernel
theorem d155_5 : decode jdk_52_method_16_code 5 = .ok (.iload_n 1, 1) := by decide +kernel
theorem d155_6 : decode jdk_52_method_16_code 6 = .ok (.aload_n 3, 1) := by decide +kernel
theorem d155_7 : decode jdk_52_method_16_code 7 = .ok (.iconst 0, 1) := by decide +kernel
theorem d155_8 : decode jdk_52_method_16_code 8 = .ok (.iload_n 2, 1) := by decide +kernel
theorem d155_9 : decode jdk_52_method_16_code 9 = .ok (.invokestatic 115, 3) := by decide +kernel
theorem d155_12 : decode jdk_52_method_16_code 12 = .ok (.istore 4, 2) := by decide +kernel
theorem d155_14 : decode jdk_52_method_16_code 14 = .ok (.iload 4, 2) := by decide +kernel
theorem d155_16 : decode jdk_52_method_16_code 16 = .ok (.iload_n 2, 1) := by decide +kernel
theorem d155_17 : decode jdk_52_method_16_code 17 = .ok (.if_icmp .eq 40, 3) := by decide +kernel
theorem d155_20 : decode jdk_52_method_16_code 20 = .ok (.aload_n 0, 1) := by decide +kernel
theorem d155_21 : decode jdk_52_method_16_code 21 = .ok (.iload_n 1, 1) := by decide +kernel
theorem d155_22 : decode jdk_52_method_16_code 22 = .ok (.iload_n 2, 1) := by decide +kernel
theorem d155_23 : decode jdk_52_method_16_code 23 = .ok (.invokestatic 119, 3) := by decide +kernel
theorem d155_26 : decode jdk_52_method_16_code 26 = .ok (.astore 5, 2) := by decide +kernel
theorem d155_28 : decode jdk_52_method_16_code 28 = .ok (.aload 5, 2) := by decide +kernel
theorem d155_30 : decode jdk_52_method_16_code 30 = .ok (.iload 4, 2) := by decide +kernel
theorem d155_32 : decode jdk_52_method_16_code 32 = .ok (.invokestatic 71, 3) := by decide +kernel
theorem d155_35 : decode jdk_52_method_16_code 35 = .ok (.sipush 255, 3) := by decide +kernel
theorem d155_38 : decode jdk_52_method_16_code 38 = .ok (.if_icmp .gt 16, 3) := by decide +kernel
theorem d155_54 : decode jdk_52_method_16_code 54 = .ok (.aload 5, 2) := by decide +kernel
theorem d155_56 : decode jdk_52_method_16_code 56 = .ok (.areturn, 1) := by decide +kernel
theorem d155_57 : decode jdk_52_method_16_code 57 = .ok (.aload_n 3, 1) := by decide +kernel
theorem d155_58 : decode jdk_52_method_16_code 58 = .ok (.areturn, 1) := by decide +kernel
theorem pn155 : plainName "java/lang/StringUTF16" = true := by first | (simp [plainName, overriddenIn]; done) | decide +kernel
theorem pd155_0 : parseMethodDescriptor "([CI[BII)I" = some ⟨[(.array .char), .int, (.array .byte), .int, .int], some .int⟩ := by decide +kernel
theorem pd155_1 : parseMethodDescriptor "([CII)[B" = some ⟨[(.array .char), .int, .int], some (.array .byte)⟩ := by decide +kernel
theorem pd155_2 : parseMethodDescriptor "([BI)C" = some ⟨[(.array .byte), .int], some .char⟩ := by decide +kernel
theorem ef155 (m : MethodId) (x0 : Addr) (x1 : Int32) (x2 : Int32) : entryFrame m #[(.ref x0), (.int x1), (.int x2)] 6 = mkF m 0 #[.val (.ref x0), .val (.int x1), .val (.int x2), .unset, .unset, .unset] [] := by first | (simp [entryFrame, mkF, argsToLocals, Value.category]; done) | rfl
set_option maxRecDepth 65536 in
set_option maxHeartbeats 40000000 in
theorem rm155 (l : Launch) (Z : State) (a0 : Array Value) (hw : ∀ d ∈ tables_1, d.before a0 Z = true) (ws : List Jvm.Cond) (a1 : Addr) (k1 : ClassId) (c0 c1 c2 c3 : Int32) (h0 : Heap) (n0 : Nat) (Z0 : n0 ≤ h0.size) (hc0 : 0 ≤ c0.toInt ∧ c0.toInt ≤ 65535) (hc1 : 0 ≤ c1.toInt ∧ c1.toInt ≤ 65535) (hc2 : 0 ≤ c2.toInt ∧ c2.toInt ≤ 65535) (hc3 : 0 ≤ c3.toInt ∧ c3.toInt ≤ 65535) (V1 : Arv Z h0 a1 k1 .char (4 : Int32) [(.int c0), (.int c1), (.int c2), (.int c3)] (.int (0 : Int32))) (G1 : Int32) (US : own_US Z G1) (O0 : Old Z n0 h0) :
    own_Met l (⟨"java/lang/StringUTF16", "compress", "([CII)[B"⟩ : MethodName) jdk_52_method_16_code 6 (some (.array .byte)) ws ({ frames := 3, cells := 2, slots := 12, locals := 42 } : Room) Z #[(.ref a1), (.int (0 : Int32)), (.int (4 : Int32))] h0 (Q155 Z c0 c1 c2 c3 h0 n0) := by
  refine own_enter #[.val (.ref a1), .val (.int (0 : Int32)), .val (.int (4 : Int32)), .unset, .unset, .unset] (plainFor_of_name pn155) (fun m => ef155 m a1 (0 : Int32) (4 : Int32)) ?_
  intro p e s m below meth c s₁ hx hby hml hown hnm hZ hrt hlk X0 e0
  have N0 := Fr.nil n0
  refine own_tp (.int (4 : Int32)) 1 (fun _ q => XS.iloadN X0.here hx rfl (hb hby d155_0) rfl q) ?_
  obtain ⟨T51, h51, k51, X51, e51, E51, A51, st51⟩ := newP X0 hx hZ (hw _ (List.mem_of_getElem? (i := 24) rfl)) e0 (g := (mkF m 1 #[.val (.ref a1), .val (.int (0 : Int32)), .val (.int (4 : Int32)), .unset, .unset, .unset] [(.int (4 : Int32))])) rfl (hb hby d155_1) rfl (by decide) (cap := 4) (by decide) (by decide) (by decide) (by decide)
  obtain ⟨b51, g51⟩ : ∃ z, z = h0.size := ⟨_, rfl⟩
  rw [← g51] at A51 st51
  have V51 : Arv Z h51 b51 k51 .byte (4 : Int32) [(.int (0 : Int32)), (.int (0 : Int32)), (.int (0 : Int32)), (.int (0 : Int32))] (.int (0 : Int32)) := (Arv.new A51 (by decide)).pad (pad_rep [] (.int (0 : Int32)) 4)
  have ge51 : n0 ≤ b51 := Nat.le_trans Z0 (Nat.le_of_eq g51.symm)
  have sz51 : h0.size ≤ b51 := Nat.le_trans (Keep.refl h0 []).1 (Nat.le_of_eq g51.symm)
  have ne52 : a1 ≠ b51 := Nat.ne_of_lt (Nat.lt_of_lt_of_le V1.lt (Nat.le_of_eq g51.symm))
  have O51 := Old.ext O0 E51
  have K51 : Keep h0 h51 [] := (Keep.refl h0 []).ext E51
  have Z51 : n0 ≤ h51.size := Nat.le_trans Z0 E51.1
  refine own_t1 (.ref b51) 3 st51 ?_
  refine own_ls #[.val (.ref a1), .val (.int (0 : Int32)), .val (.int (4 : Int32)), .val (.ref b51), .unset, .unset] 4 (fun _ q => XS.astoreN X51.here hx rfl (hb hby d155_3) rfl rfl (l' := #[.val (.ref a1), .val (.int (0 : Int32)), .val (.int (4 : Int32)), .val (.ref b51), .unset, .unset]) rfl q) ?_
  refine own_tp (.ref a1) 5 (fun _ q => XS.aloadN X51.here hx rfl (hb hby d155_4) rfl rfl q) ?_
  refine own_tp (.int (0 : Int32)) 6 (fun _ q => XS.iloadN X51.here hx rfl (hb hby d155_5) rfl q) ?_
  refine own_tp (.ref b51) 7 (fun _ q => XS.aloadN X51.here hx rfl (hb hby d155_6) rfl rfl q) ?_
  refine own_tp (.int (0 : Int32)) 8 (fun _ q => XS.iconst X51.here hx rfl (hb hby d155_7) q) ?_
  refine own_tp (.int (4 : Int32)) 9 (fun _ q => XS.iloadN X51.here hx rfl (hb hby d155_8) rfl q) ?_
  have f53 := (V1.ext E51)
  obtain ⟨_, _, ⟨T54, L54, k54, n54⟩, -, X54, ⟨Lc54, hQ54, l54, y54, z54⟩, st54⟩ := Jvm.LawKit.callS X51 hx (y := (⟨"java/lang/StringUTF16", "compress", "([CI[BII)I"⟩ : MethodName)) hown (mvT hZ (hw _ (List.mem_of_getElem? (i := 79) rfl))) (mvT hZ (hw _ (List.mem_of_getElem? (i := 80) rfl))) (mvT hZ (hw _ (List.mem_of_getElem? (i := 77) rfl))) (mvT hZ (hw _ (List.mem_of_getElem? (i := 81) rfl))) (by decide) (backOf (W := 0) (rm151 l Z a0 hw [] a1 b51 k1 k51 c0 c1 c2 c3 h51 n0 Z51 ge51 ne52 f53 V51) hZ (hw _ (List.mem_of_getElem? (i := 81) rfl)) (hw _ (List.mem_of_getElem? (i := 77) rfl)) (by decide) (by decide)) (g := (mkF m 9 #[.val (.ref a1), .val (.int (0 : Int32)), .val (.int (4 : Int32)), .val (.ref b51), .unset, .unset] [(.int (4 : Int32)), (.int (0 : Int32)), (.ref b51), (.int (0 : Int32)), (.ref a1)])) rfl (by rw [hml]; rfl) (argsL := [(.ref a1), (.int (0 : Int32)), (.ref b51), (.int (0 : Int32)), (.int (4 : Int32))]) (rest := []) (lenOf pd155_0 rfl) rfl (by show 2 * 0 + _ ≤ _; exact Nat.le_of_eq rfl) (hb hby d155_9) (fun _ _ => ⟨rfl, e51, (by decide : 1 + 0 ≤ _), (by decide : 4 + 0 ≤ _)⟩)
  dsimp only [Pt.U, Pt.locs, Pt.cells, Pt.slots] at X54 l54 y54 z54 st54 hQ54
  subst l54 y54 z54
  obtain ⟨Nq54, Kp54, hD54⟩ := hQ54
  have N54 := Fr.app N0 Nq54
  have O54 := Old.keep O51 Kp54 (allS ge51 all0)
  have Z54 : n0 ≤ T54.heap.size := Nat.le_trans Z51 Kp54.1
  have K54 : Keep h0 T54.heap [] := Keep.trans K51 Kp54 (allS (Or.inr sz51) all0)
  rcases hD54 with ⟨rfl, hxw⟩ | ⟨rfl, hxw⟩ | ⟨rfl, hxw⟩ | ⟨rfl, hxw⟩ | ⟨rfl, hxw, VL⟩
  ·
    refine own_cs [(.int (0 : Int32))] 12 st54 ?_
    refine own_ls #[.val (.ref a1), .val (.int (0 : Int32)), .val (.int (4 : Int32)), .val (.ref b51), .val (.int (0 : Int32)), .unset] 14 (fun _ q => XS.istore X54.here hx rfl (hb hby d155_12) rfl (l' := #[.val (.ref a1), .val (.int (0 : Int32)), .val (.int (4 : Int32)), .val (.ref b51), .val (.int (0 : Int32)), .unset]) rfl q) ?_
    refine own_tp (.int (0 : Int32)) 16 (fun _ q => XS.iload X54.here hx rfl (hb hby d155_14) rfl q) ?_
    refine own_tp (.int (4 : Int32)) 17 (fun _ q => XS.iloadN X54.here hx rfl (hb hby d155_16) rfl q) ?_
    refine own_d2 20 (fun _ q => XS.icmpNo X54.here hx rfl (hb hby d155_17) rfl (feq (by decide : ¬ ((0 : Int32) = (4 : Int32)))).1 q) ?_
    refine own_tp (.ref a1) 21 (fun _ q => XS.aloadN X54.here hx rfl (hb hby d155_20) rfl rfl q) ?_
    refine own_tp (.int (0 : Int32)) 22 (fun _ q => XS.iloadN X54.here hx rfl (hb hby d155_21) rfl q) ?_
    refine own_tp (.int (4 : Int32)) 23 (fun _ q => XS.iloadN X54.here hx rfl (hb hby d155_22) rfl q) ?_
    have f55 := (f53.keep Kp54 (ninS ne52 nin0))
    obtain ⟨_, _, ⟨T56, L56, k56, n56⟩, -, X56, ⟨Lc56, hQ56, l56, y56, z56⟩, st56⟩ := Jvm.LawKit.callS X54 hx (y := (⟨"java/lang/StringUTF16", "toBytes", "([CII)[B"⟩ : MethodName)) hown (mvT hZ (hw _ (List.mem_of_getElem? (i := 92) rfl))) (mvT hZ (hw _ (List.mem_of_getElem? (i := 93) rfl))) (mvT hZ (hw _ (List.mem_of_getElem? (i := 77) rfl))) (mvT hZ (hw _ (List.mem_of_getElem? (i := 94) rfl))) (by decide) (backOf (W := 0) (rm154 l Z a0 hw [] a1 k1 c0 c1 c2 c3 T54.heap n0 Z54 f55 G1 US O54) hZ (hw _ (List.mem_of_getElem? (i := 94) rfl)) (hw _ (List.mem_of_getElem? (i := 77) rfl)) (by decide) (by decide)) (g := (mkF m 23 #[.val (.ref a1), .val (.int (0 : Int32)), .val (.int (4 : Int32)), .val (.ref b51), .val (.int (0 : Int32)), .unset] [(.int (4 : Int32)), (.int (0 : Int32)), (.ref a1)])) rfl (by rw [hml]; rfl) (argsL := [(.ref a1), (.int (0 : Int32)), (.int (4 : Int32))]) (rest := []) (lenOf pd155_1 rfl) rfl (by show 2 * 0 + _ ≤ _; exact Nat.le_of_eq rfl) (hb hby d155_23) (fun _ _ => ⟨rfl, rfl, (by decide : 1 + 1 ≤ _), (by decide : 4 + 8 ≤ _)⟩)
    dsimp only [Pt.U, Pt.locs, Pt.cells, Pt.slots] at X56 l56 y56 z56 st56 hQ56
    subst l56 y56 z56
    obtain ⟨ub56, ku56, rfl, Nq56, Kp56, ge56, sz56, V56⟩ := hQ56
    have ne57 : a1 ≠ ub56 := Nat.ne_of_lt (Nat.lt_of_lt_of_le f55.lt sz56)
    have s0ub56 : h0.size ≤ ub56 := Nat.le_trans K54.1 sz56
    have N56 := Fr.app N54 Nq56
    have O56 := Old.keep O54 Kp56 all0
    have Z56 : n0 ≤ T56.heap.size := Nat.le_trans Z54 Kp56.1
    have K56 : Keep h0 T56.heap [] := Keep.trans K54 Kp56 all0
    refine own_cs [(.ref ub56)] 26 st56 ?_
    refine own_ls #[.val (.ref a1), .val (.int (0 : Int32)), .val (.int (4 : Int32)), .val (.ref b51), .val (.int (0 : Int32)), .val (.ref ub56)] 28 (fun _ q => XS.astore X56.here hx rfl (hb hby d155_26) rfl rfl (l' := #[.val (.ref a1), .val (.int (0 : Int32)), .val (.int (4 : Int32)), .val (.ref b51), .val (.int (0 : Int32)), .val (.ref ub56)]) rfl q) ?_
    refine own_tp (.ref ub56) 30 (fun _ q => XS.aload X56.here hx rfl (hb hby d155_28) rfl rfl q) ?_
    refine own_tp (.int (0 : Int32)) 32 (fun _ q => XS.iload X56.here hx rfl (hb hby d155_30) rfl q) ?_
    obtain ⟨_, _, ⟨T58, L58, k58, n58⟩, -, X58, ⟨Lc58, hQ58, l58, y58, z58⟩, st58⟩ := Jvm.LawKit.callS X56 hx (y := (⟨"java/lang/StringUTF16", "getChar", "([BI)C"⟩ : MethodName)) hown (mvT hZ (hw _ (List.mem_of_getElem? (i := 108) rfl))) (mvT hZ (hw _ (List.mem_of_getElem? (i := 109) rfl))) (mvT hZ (hw _ (List.mem_of_getElem? (i := 77) rfl))) (mvT hZ (hw _ (List.mem_of_getElem? (i := 110) rfl))) (by decide) (backOf (W := 0) (rm109 l Z a0 hw [] ub56 ku56 0 [c0, c1, c2, c3] T56.heap n0 (by simp) (by simp) hc0 V56 G1 US O56) hZ (hw _ (List.mem_of_getElem? (i := 110) rfl)) (hw _ (List.mem_of_getElem? (i := 77) rfl)) (by decide) (by decide)) (g := (mkF m 32 #[.val (.ref a1), .val (.int (0 : Int32)), .val (.int (4 : Int32)), .val (.ref b51), .val (.int (0 : Int32)), .val (.ref ub56)] [(.int (0 : Int32)), (.ref ub56)])) rfl (by rw [hml]; rfl) (argsL := [(.ref ub56), (.int (0 : Int32))]) (rest := []) (lenOf pd155_2 rfl) rfl (by show 2 * 0 + _ ≤ _; exact Nat.le_of_eq rfl) (hb hby d155_32) (fun _ _ => ⟨rfl, rfl, (by decide : 2 + 0 ≤ _), (by decide : 12 + 0 ≤ _)⟩)
    dsimp only [Pt.U, Pt.locs, Pt.cells, Pt.slots] at X58 l58 y58 z58 st58 hQ58
    subst l58 y58 z58
    obtain ⟨rfl, Nq58, eq58⟩ := hQ58
    have N58 := Fr.app N56 Nq58
    refine own_t2 (.int c0) 35 st58 ?_
    refine own_tp (.int (255 : Int32)) 38 (fun _ q => XS.sipush X58.here hx rfl (hb hby d155_35) q) ?_
    refine own_d2 54 (fun _ q => XS.icmpYes X58.here hx rfl (pc0 := 38) (pc' := 54) rfl (hb hby d155_38) rfl (tlt hxw).2.2.1 (by decide) (by decide) q) ?_
    refine own_tp (.ref ub56) 56 (fun _ q => XS.aload X58.here hx rfl (hb hby d155_54) rfl rfl q) ?_
    exact own_retR X58 hx hrt (hb hby d155_56) rfl rfl hlk (by decide) (by decide) eq58 (⟨ub56, _, rfl, N58, K56, ge56, s0ub56, Or.inr ⟨⟨c0, by simp, hxw⟩, V56⟩⟩)
  ·
    refine own_cs [(.int (1 : Int32))] 12 st54 ?_
    refine own_ls #[.val (.ref a1), .val (.int (0 : Int32)), .val (.int (4 : Int32)), .val (.ref b51), .val (.int (1 : Int32)), .unset] 14 (fun _ q => XS.istore X54.here hx rfl (hb hby d155_12) rfl (l' := #[.val (.ref a1), .val (.int (0 : Int32)), .val (.int (4 : Int32)), .val (.ref b51), .val (.int (1 : Int32)), .unset]) rfl q) ?_
    refine own_tp (.int (1 : Int32)) 16 (fun _ q => XS.iload X54.here hx rfl (hb hby d155_14) rfl q) ?_
    refine own_tp (.int (4 : Int32)) 17 (fun _ q => XS.iloadN X54.here hx rfl (hb hby d155_16) rfl q) ?_
    refine own_d2 20 (fun _ q => XS.icmpNo X54.here hx rfl (hb hby d155_17) rfl (feq (by decide : ¬ ((1 : Int32) = (4 : Int32)))).1 q) ?_
    refine own_tp (.ref a1) 21 (fun _ q => XS.aloadN X54.here hx rfl (hb hby d155_20) rfl rfl q) ?_
    refine own_tp (.int (0 : Int32)) 22 (fun _ q => XS.iloadN X54.here hx rfl (hb hby d155_21) rfl q) ?_
    refine own_tp (.int (4 : Int32)) 23 (fun _ q => XS.iloadN X54.here hx rfl (hb hby d155_22) rfl q) ?_
    have f59 := (f53.keep Kp54 (ninS ne52 nin0))
    obtain ⟨_, _, ⟨T60, L60, k60, n60⟩, -, X60, ⟨Lc60, hQ60, l60, y60, z60⟩, st60⟩ := Jvm.LawKit.callS X54 hx (y := (⟨"java/lang/StringUTF16", "toBytes", "([CII)[B"⟩ : MethodName)) hown (mvT hZ (hw _ (List.mem_of_getElem? (i := 92) rfl))) (mvT hZ (hw _ (List.mem_of_getElem? (i := 93) rfl))) (mvT hZ (hw _ (List.mem_of_getElem? (i := 77) rfl))) (mvT hZ (hw _ (List.mem_of_getElem? (i := 94) rfl))) (by decide) (backOf (W := 0) (rm154 l Z a0 hw [] a1 k1 c0 c1 c2 c3 T54.heap n0 Z54 f59 G1 US O54) hZ (hw _ (List.mem_of_getElem? (i := 94) rfl)) (hw _ (List.mem_of_getElem? (i := 77) rfl)) (by decide) (by decide)) (g := (mkF m 23 #[.val (.ref a1), .val (.int (0 : Int32)), .val (.int (4 : Int32)), .val (.ref b51), .val (.int (1 : Int32)), .unset] [(.int (4 : Int32)), (.int (0 : Int32)), (.ref a1)])) rfl (by rw [hml]; rfl) (argsL := [(.ref a1), (.int (0 : Int32)), (.int (4 : Int32))]) (rest := []) (lenOf pd155_1 rfl) rfl (by show 2 * 0 + _ ≤ _; exact Nat.le_of_eq rfl) (hb hby d155_23) (fun _ _ => ⟨rfl, rfl, (by decide : 1 + 1 ≤ _), (by decide : 4 + 8 ≤ _)⟩)
    dsimp only [Pt.U, Pt.locs, Pt.cells, Pt.slots] at X60 l60 y60 z60 st60 hQ60
    subst l60 y60 z60
    obtain ⟨ub60, ku60, rfl, Nq60, Kp60, ge60, sz60, V60⟩ := hQ60
    have ne61 : a1 ≠ ub60 := Nat.ne_of_lt (Nat.lt_of_lt_of_le f59.lt sz60)
    have s0ub60 : h0.size ≤ ub60 := Nat.le_trans K54.1 sz60
    have N60 := Fr.app N54 Nq60
    have O60 := Old.keep O54 Kp60 all0
    have Z60 : n0 ≤ T60.heap.size := Nat.le_trans Z54 Kp60.1
    have K60 : Keep h0 T60.heap [] := Keep.trans K54 Kp60 all0
    refine own_cs [(.ref ub60)] 26 st60 ?_
    refine own_ls #[.val (.ref a1), .val (.int (0 : Int32)), .val (.int (4 : Int32)), .val (.ref b51), .val (.int (1 : Int32)), .val (.ref ub60)] 28 (fun _ q => XS.astore X60.here hx rfl (hb hby d155_26) rfl rfl (l' := #[.val (.ref a1), .val (.int (0 : Int32)), .val (.int (4 : Int32)), .val (.ref b51), .val (.int (1 : Int32)), .val (.ref ub60)]) rfl q) ?_
    refine own_tp (.ref ub60) 30 (fun _ q => XS.aload X60.here hx rfl (hb hby d155_28) rfl rfl q) ?_
    refine own_tp (.int (1 : Int32)) 32 (fun _ q => XS.iload X60.here hx rfl (hb hby d155_30) rfl q) ?_
    obtain ⟨_, _, ⟨T62, L62, k62, n62⟩, -, X62, ⟨Lc62, hQ62, l62, y62, z62⟩, st62⟩ := Jvm.LawKit.callS X60 hx (y := (⟨"java/lang/StringUTF16", "getChar", "([BI)C"⟩ : MethodName)) hown (mvT hZ (hw _ (List.mem_of_getElem? (i := 108) rfl))) (mvT hZ (hw _ (List.mem_of_getElem? (i := 109) rfl))) (mvT hZ (hw _ (List.mem_of_getElem? (i := 77) rfl))) (mvT hZ (hw _ (List.mem_of_getElem? (i := 110) rfl))) (by decide) (backOf (W := 0) (rm109 l Z a0 hw [] ub60 ku60 1 [c0, c1, c2, c3] T60.heap n0 (by simp) (by simp) hc1 V60 G1 US O60) hZ (hw _ (List.mem_of_getElem? (i := 110) rfl)) (hw _ (List.mem_of_getElem? (i := 77) rfl)) (by decide) (by decide)) (g := (mkF m 32 #[.val (.ref a1), .val (.int (0 : Int32)), .val (.int (4 : Int32)), .val (.ref b51), .val (.int (1 : Int32)), .val (.ref ub60)] [(.int (1 : Int32)), (.ref ub60)])) rfl (by rw [hml]; rfl) (argsL := [(.ref ub60), (.int (1 : Int32))]) (rest := []) (lenOf pd155_2 rfl) rfl (by show 2 * 0 + _ ≤ _; exact Nat.le_of_eq rfl) (hb hby d155_32) (fun _ _ => ⟨rfl, rfl, (by decide : 2 + 0 ≤ _), (by decide : 12 + 0 ≤ _)⟩)
    dsimp only [Pt.U, Pt.locs, Pt.cells, Pt.slots] at X62 l62 y62 z62 st62 hQ62
    subst l62 y62 z62
    obtain ⟨rfl, Nq62, eq62⟩ := hQ62
    have N62 := Fr.app N60 Nq62
    refine own_t2 (.int c1) 35 st62 ?_
    refine own_tp (.int (255 : Int32)) 38 (fun _ q => XS.sipush X62.here hx rfl (hb hby d155_35) q) ?_
    refine own_d2 54 (fun _ q => XS.icmpYes X62.here hx rfl (pc0 := 38) (pc' := 54) rfl (hb hby d155_38) rfl (tlt hxw).2.2.1 (by decide) (by decide) q) ?_
    refine own_tp (.ref ub60) 56 (fun _ q => XS.aload X62.here hx rfl (hb hby d155_54) rfl rfl q) ?_
    exact own_retR X62 hx hrt (hb hby d155_56) rfl rfl hlk (by decide) (by decide) eq62 (⟨ub60, _, rfl, N62, K60, ge60, s0ub60, Or.inr ⟨⟨c1, by simp, hxw⟩, V60⟩⟩)
  ·
    refine own_cs [(.int (2 : Int32))] 12 st54 ?_
    refine own_ls #[.val (.ref a1), .val (.int (0 : Int32)), .val (.int (4 : Int32)), .val (.ref b51), .val (.int (2 : Int32)), .unset] 14 (fun _ q => XS.istore X54.here hx rfl (hb hby d155_12) rfl (l' := #[.val (.ref a1), .val (.int (0 : Int32)), .val (.int (4 : Int32)), .val (.ref b51), .val (.int (2 : Int32)), .unset]) rfl q) ?_
    refine own_tp (.int (2 : Int32)) 16 (fun _ q => XS.iload X54.here hx rfl (hb hby d155_14) rfl q) ?_
    refine own_tp (.int (4 : Int32)) 17 (fun _ q => XS.iloadN X54.here hx rfl (hb hby d155_16) rfl q) ?_
    refine own_d2 20 (fun _ q => XS.icmpNo X54.here hx rfl (hb hby d155_17) rfl (feq (by decide : ¬ ((2 : Int32) = (4 : Int32)))).1 q) ?_
    refine own_tp (.ref a1) 21 (fun _ q => XS.aloadN X54.here hx rfl (hb hby d155_20) rfl rfl q) ?_
    refine own_tp (.int (0 : Int32)) 22 (fun _ q => XS.iloadN X54.here hx rfl (hb hby d155_21) rfl q) ?_
    refine own_tp (.int (4 : Int32)) 23 (fun _ q => XS.iloadN X54.here hx rfl (hb hby d155_22) rfl q) ?_
    have f63 := (f53.keep Kp54 (ninS ne52 nin0))
    obtain ⟨_, _, ⟨T64, L64, k64, n64⟩, -, X64, ⟨Lc64, hQ64, l64, y64, z64⟩, st64⟩ := Jvm.LawKit.callS X54 hx (y := (⟨"java/lang/StringUTF16", "toBytes", "([CII)[B"⟩ : MethodName)) hown (mvT hZ (hw _ (List.mem_of_getElem? (i := 92) rfl))) (mvT hZ (hw _ (List.mem_of_getElem? (i := 93) rfl))) (mvT hZ (hw _ (List.mem_of_getElem? (i := 77) rfl))) (mvT hZ (hw _ (List.mem_of_getElem? (i := 94) rfl))) (by decide) (backOf (W := 0) (rm154 l Z a0 hw [] a1 k1 c0 c1 c2 c3 T54.heap n0 Z54 f63 G1 US O54) hZ (hw _ (List.mem_of_getElem? (i := 94) rfl)) (hw _ (List.mem_of_getElem? (i := 77) rfl)) (by decide) (by decide)) (g := (mkF m 23 #[.val (.ref a1), .val (.int (0 : Int32)), .val (.int (4 : Int32)), .val (.ref b51), .val (.int (2 : Int32)), .unset] [(.int (4 : Int32)), (.int (0 : Int32)), (.ref a1)])) rfl (by rw [hml]; rfl) (argsL := [(.ref a1), (.int (0 : Int32)), (.int (4 : Int32))]) (rest := []) (lenOf pd155_1 rfl) rfl (by show 2 * 0 + _ ≤ _; exact Nat.le_of_eq rfl) (hb hby d155_23) (fun _ _ => ⟨rfl, rfl, (by decide : 1 + 1 ≤ _), (by decide : 4 + 8 ≤ _)⟩)
    dsimp only [Pt.U, Pt.locs, Pt.cells, Pt.slots] at X64 l64 y64 z64 st64 hQ64
    subst l64 y64 z64
    obtain ⟨ub64, ku64, rfl, Nq64, Kp64, ge64, sz64, V64⟩ := hQ64
    have ne65 : a1 ≠ ub64 := Nat.ne_of_lt (Nat.lt_of_lt_of_le f63.lt sz64)
    have s0ub64 : h0.size ≤ ub64 := Nat.le_trans K54.1 sz64
    have N64 := Fr.app N54 Nq64
    have O64 := Old.keep O54 Kp64 all0
    have Z64 : n0 ≤ T64.heap.size := Nat.le_trans Z54 Kp64.1
    have K64 : Keep h0 T64.heap [] := Keep.trans K54 Kp64 all0
    refine own_cs [(.ref ub64)] 26 st64 ?_
    refine own_ls #[.val (.ref a1), .val (.int (0 : Int32)), .val (.int (4 : Int32)), .val (.ref b51), .val (.int (2 : Int32)), .val (.ref ub64)] 28 (fun _ q => XS.astore X64.here hx rfl (hb hby d155_26) rfl rfl (l' := #[.val (.ref a1), .val (.int (0 : Int32)), .val (.int (4 : Int32)), .val (.ref b51), .val (.int (2 : Int32)), .val (.ref ub64)]) rfl q) ?_
    refine own_tp (.ref ub64) 30 (fun _ q => XS.aload X64.here hx rfl (hb hby d155_28) rfl rfl q) ?_
    refine own_tp (.int (2 : Int32)) 32 (fun _ q => XS.iload X64.here hx rfl (hb hby d155_30) rfl q) ?_
    obtain ⟨_, _, ⟨T66, L66, k66, n66⟩, -, X66, ⟨Lc66, hQ66, l66, y66, z66⟩, st66⟩ := Jvm.LawKit.callS X64 hx (y := (⟨"java/lang/StringUTF16", "getChar", "([BI)C"⟩ : MethodName)) hown (mvT hZ (hw _ (List.mem_of_getElem? (i := 108) rfl))) (mvT hZ (hw _ (List.mem_of_getElem? (i := 109) rfl))) (mvT hZ (hw _ (List.mem_of_getElem? (i := 77) rfl))) (mvT hZ (hw _ (List.mem_of_getElem? (i := 110) rfl))) (by decide) (backOf (W := 0) (rm109 l Z a0 hw [] ub64 ku64 2 [c0, c1, c2, c3] T64.heap n0 (by simp) (by simp) hc2 V64 G1 US O64) hZ (hw _ (List.mem_of_getElem? (i := 110) rfl)) (hw _ (List.mem_of_getElem? (i := 77) rfl)) (by decide) (by decide)) (g := (mkF m 32 #[.val (.ref a1), .val (.int (0 : Int32)), .val (.int (4 : Int32)), .val (.ref b51), .val (.int (2 : Int32)), .val (.ref ub64)] [(.int (2 : Int32)), (.ref ub64)])) rfl (by rw [hml]; rfl) (argsL := [(.ref ub64), (.int (2 : Int32))]) (rest := []) (lenOf pd155_2 rfl) rfl (by show 2 * 0 + _ ≤ _; exact Nat.le_of_eq rfl) (hb hby d155_32) (fun _ _ => ⟨rfl, rfl, (by decide : 2 + 0 ≤ _), (by decide : 12 + 0 ≤ _)⟩)
    dsimp only [Pt.U, Pt.locs, Pt.cells, Pt.slots] at X66 l66 y66 z66 st66 hQ66
    subst l66 y66 z66
    obtain ⟨rfl, Nq66, eq66⟩ := hQ66
    have N66 := Fr.app N64 Nq66
    refine own_t2 (.int c2) 35 st66 ?_
    refine own_tp (.int (255 : Int32)) 38 (fun _ q => XS.sipush X66.here hx rfl (hb hby d155_35) q) ?_
    refine own_d2 54 (fun _ q => XS.icmpYes X66.here hx rfl (pc0 := 38) (pc' := 54) rfl (hb hby d155_38) rfl (tlt hxw).2.2.1 (by decide) (by decide) q) ?_
    refine own_tp (.ref ub64) 56 (fun _ q => XS.aload X66.here hx rfl (hb hby d155_54) rfl rfl q) ?_
    exact own_retR X66 hx hrt (hb hby d155_56) rfl rfl hlk (by decide) (by decide) eq66 (⟨ub64, _, rfl, N66, K64, ge64, s0ub64, Or.inr ⟨⟨c2, by simp, hxw⟩, V64⟩⟩)
  ·
    refine own_cs [(.int (3 : Int32))] 12 st54 ?_
    refine own_ls #[.val (.ref a1), .val (.int (0 : Int32)), .val (.int (4 : Int32)), .val (.ref b51), .val (.int (3 : Int32)), .unset] 14 (fun _ q => XS.istore X54.here hx rfl (hb hby d155_12) rfl (l' := #[.val (.ref a1), .val (.int (0 : Int32)), .val (.int (4 : Int32)), .val (.ref b51), .val (.int (3 : Int32)), .unset]) rfl q) ?_
    refine own_tp (.int (3 : Int32)) 16 (fun _ q => XS.iload X54.here hx rfl (hb hby d155_14) rfl q) ?_
    refine own_tp (.int (4 : Int32)) 17 (fun _ q => XS.iloadN X54.here hx rfl (hb hby d155_16) rfl q) ?_
    refine own_d2 20 (fun _ q => XS.icmpNo X54.here hx rfl (hb hby d155_17) rfl (feq (by decide : ¬ ((3 : Int32) = (4 : Int32)))).1 q) ?_
    refine own_tp (.ref a1) 21 (fun _ q => XS.aloadN X54.here hx rfl (hb hby d155_20) rfl rfl q) ?_
    refine own_tp (.int (0 : Int32)) 22 (fun _ q => XS.iloadN X54.here hx rfl (hb hby d155_21) rfl q) ?_
    refine own_tp (.int (4 : Int32)) 23 (fun _ q => XS.iloadN X54.here hx rfl (hb hby d155_22) rfl q) ?_
    have f67 := (f53.keep Kp54 (ninS ne52 nin0))
    obtain ⟨_, _, ⟨T68, L68, k68, n68⟩, -, X68, ⟨Lc68, hQ68, l68, y68, z68⟩, st68⟩ := Jvm.LawKit.callS X54 hx (y := (⟨"java/lang/StringUTF16", "toBytes", "([CII)[B"⟩ : MethodName)) hown (mvT hZ (hw _ (List.mem_of_getElem? (i := 92) rfl))) (mvT hZ (hw _ (List.mem_of_getElem? (i := 93) rfl))) (mvT hZ (hw _ (List.mem_of_getElem? (i := 77) rfl))) (mvT hZ (hw _ (List.mem_of_getElem? (i := 94) rfl))) (by decide) (backOf (W := 0) (rm154 l Z a0 hw [] a1 k1 c0 c1 c2 c3 T54.heap n0 Z54 f67 G1 US O54) hZ (hw _ (List.mem_of_getElem? (i := 94) rfl)) (hw _ (List.mem_of_getElem? (i := 77) rfl)) (by decide) (by decide)) (g := (mkF m 23 #[.val (.ref a1), .val (.int (0 : Int32)), .val (.int (4 : Int32)), .val (.ref b51), .val (.int (3 : Int32)), .unset] [(.int (4 : Int32)), (.int (0 : Int32)), (.ref a1)])) rfl (by rw [hml]; rfl) (argsL := [(.ref a1), (.int (0 : Int32)), (.int (4 : Int32))]) (rest := []) (lenOf pd155_1 rfl) rfl (by show 2 * 0 + _ ≤ _; exact Nat.le_of_eq rfl) (hb hby d155_23) (fun _ _ => ⟨rfl, rfl, (by decide : 1 + 1 ≤ _), (by decide : 4 + 8 ≤ _)⟩)
    dsimp only [Pt.U, Pt.locs, Pt.cells, Pt.slots] at X68 l68 y68 z68 st68 hQ68
    subst l68 y68 z68
    obtain ⟨ub68, ku68, rfl, Nq68, Kp68, ge68, sz68, V68⟩ := hQ68
    have ne69 : a1 ≠ ub68 := Nat.ne_of_lt (Nat.lt_of_lt_of_le f67.lt sz68)
    have s0ub68 : h0.size ≤ ub68 := Nat.le_trans K54.1 sz68
    have N68 := Fr.app N54 Nq68
    have O68 := Old.keep O54 Kp68 all0
    have Z68 : n0 ≤ T68.heap.size := Nat.le_trans Z54 Kp68.1
    have K68 : Keep h0 T68.heap [] := Keep.trans K54 Kp68 all0
    refine own_cs [(.ref ub68)] 26 st68 ?_
    refine own_ls #[.val (.ref a1), .val (.int (0 : Int32)), .val (.int (4 : Int32)), .val (.ref b51), .val (.int (3 : Int32)), .val (.ref ub68)] 28 (fun _ q => XS.astore X68.here hx rfl (hb hby d155_26) rfl rfl (l' := #[.val (.ref a1), .val (.int (0 : Int32)), .val (.int (4 : Int32)), .val (.ref b51), .val (.int (3 : Int32)), .val (.ref ub68)]) rfl q) ?_
    refine own_tp (.ref ub68) 30 (fun _ q => XS.aload X68.here hx rfl (hb hby d155_28) rfl rfl q) ?_
    refine own_tp (.int (3 : Int32)) 32 (fun _ q => XS.iload X68.here hx rfl (hb hby d155_30) rfl q) ?_
    obtain ⟨_, _, ⟨T70, L70, k70, n70⟩, -, X70, ⟨Lc70, hQ70, l70, y70, z70⟩, st70⟩ := Jvm.LawKit.callS X68 hx (y := (⟨"java/lang/StringUTF16", "getChar", "([BI)C"⟩ : MethodName)) hown (mvT hZ (hw _ (List.mem_of_getElem? (i := 108) rfl))) (mvT hZ (hw _ (List.mem_of_getElem? (i := 109) rfl))) (mvT hZ (hw _ (List.mem_of_getElem? (i := 77) rfl))) (mvT hZ (hw _ (List.mem_of_getElem? (i := 110) rfl))) (by decide) (backOf (W := 0) (rm109 l Z a0 hw [] ub68 ku68 3 [c0, c1, c2, c3] T68.heap n0 (by simp) (by simp) hc3 V68 G1 US O68) hZ (hw _ (List.mem_of_getElem? (i := 110) rfl)) (hw _ (List.mem_of_getElem? (i := 77) rfl)) (by decide) (by decide)) (g := (mkF m 32 #[.val (.ref a1), .val (.int (0 : Int32)), .val (.int (4 : Int32)), .val (.ref b51), .val (.int (3 : Int32)), .val (.ref ub68)] [(.int (3 : Int32)), (.ref ub68)])) rfl (by rw [hml]; rfl) (argsL := [(.ref ub68), (.int (3 : Int32))]) (rest := []) (lenOf pd155_2 rfl) rfl (by show 2 * 0 + _ ≤ _; exact Nat.le_of_eq rfl) (hb hby d155_32) (fun _ _ => ⟨rfl, rfl, (by decide : 2 + 0 ≤ _), (by decide : 12 + 0 ≤ _)⟩)
    dsimp only [Pt.U, Pt.locs, Pt.cells, Pt.slots] at X70 l70 y70 z70 st70 hQ70
    subst l70 y70 z70
    obtain ⟨rfl, Nq70, eq70⟩ := hQ70
    have N70 := Fr.app N68 Nq70
    refine own_t2 (.int c3) 35 st70 ?_
    refine own_tp (.int (255 : Int32)) 38 (fun _ q => XS.sipush X70.here hx rfl (hb hby d155_35) q) ?_
    refine own_d2 54 (fun _ q => XS.icmpYes X70.here hx rfl (pc0 := 38) (pc' := 54) rfl (hb hby d155_38) rfl (tlt hxw).2.2.1 (by decide) (by decide) q) ?_
    refine own_tp (.ref ub68) 56 (fun _ q => XS.aload X70.here hx rfl (hb hby d155_54) rfl rfl q) ?_
    exact own_retR X70 hx hrt (hb hby d155_56) rfl rfl hlk (by decide) (by decide) eq70 (⟨ub68, _, rfl, N70, K68, ge68, s0ub68, Or.inr ⟨⟨c3, by simp, hxw⟩, V68⟩⟩)
  ·
    refine own_cs [(.int (4 : Int32))] 12 st54 ?_
    refine own_ls #[.val (.ref a1), .val (.int (0 : Int32)), .val (.int (4 : Int32)), .val (.ref b51), .val (.int (4 : Int32)), .unset] 14 (fun _ q => XS.istore X54.here hx rfl (hb hby d155_12) rfl (l' := #[.val (.ref a1), .val (.int (0 : Int32)), .val (.int (4 : Int32)), .val (.ref b51), .val (.int (4 : Int32)), .unset]) rfl q) ?_
    refine own_tp (.int (4 : Int32)) 16 (fun _ q => XS.iload X54.here hx rfl (hb hby d155_14) rfl q) ?_
    refine own_tp (.int (4 : Int32)) 17 (fun _ q => XS.iloadN X54.here hx rfl (hb hby d155_16) rfl q) ?_
    refine own_d2 57 (fun _ q => XS.icmpYes X54.here hx rfl (pc0 := 17) (pc' := 57) rfl (hb hby d155_17) rfl (teq (by decide : (4 : Int32) = (4 : Int32))).1 (by decide) (by decide) q) ?_
    refine own_tp (.ref b51) 58 (fun _ q => XS.aloadN X54.here hx rfl (hb hby d155_57) rfl rfl q) ?_
    exact own_retR X54 hx hrt (hb hby d155_58) rfl rfl hlk (by decide) (by decide) rfl (⟨b51, _, rfl, N54, K54, ge51, sz51, Or.inl ⟨hxw, VL⟩⟩)

def Q156  (h0 : Heap) (n0 : Nat) (v : Option Value) (h : Heap) (L : List Loc) : Prop := v = some (.int (0 : Int32)) ∧ Fr n0 L ∧ h = h0

theorem d156_0 : decode jdk_52_method_15_code 0 = .ok (.iload_n 1, 1) := by decide +kernel
theorem d156_1 : decode jdk_52_method_15_code 1 = .ok (.aload_n 0, 1) := by decide +kernel
theorem d156_2 : decode jdk_52_method_15_code 2 = .ok (.arraylength, 1) := by decide +kernel
theorem d156_3 : decode jdk_52_method_15_code 3 = .ok (.isub, 1) := by decide +kernel
theorem d156_4 : decode jdk_52_method_15_code 4 = .ok (.bipush 31, 2) := by decide +kernel
theorem d156_6 : decode jdk_52_method_15_code 6 = .ok (.iushr, 1) := by decide +kernel
theorem d156_7 : decode jdk_52_method_15_code 7 = .ok (.i2b, 1) := by decide +kernel
theorem d156_8 : decode jdk_52_method_15_code 8 = .ok (.ireturn, 1) := by decide +kernel
theorem pn156 : plainName "java/lang/StringUTF16" = true := by first | (simp [plainName, overriddenIn]; done) | decide +kernel
theorem ef156 (m : MethodId) (x0 : Addr) (x1 : Int32) : entryFrame m #[(.ref x0), (.int x1)] 2 = mkF m 0 #[.val (.ref x0), .val (.int x1)] [] := by first | (simp [entryFrame, mkF, argsToLocals, Value.category]; done) | rfl
set_option maxRecDepth 65536 in
set_option maxHeartbeats 40000000 in
theorem rm156 (l : Launch) (Z : State) (a0 : Array Value) (hw : ∀ d ∈ tables_1, d.before a0 Z = true) (ws : List Jvm.Cond) (b1 : Addr) (k1 : ClassId) (vs1 : List Value) (h0 : Heap) (n0 : Nat) (V1 : Arv Z h0 b1 k1 .byte (4 : Int32) vs1 (.int (0 : Int32))) :
    own_Met l (⟨"java/lang/StringUTF16", "coderFromArrayLen", "([BI)B"⟩ : MethodName) jdk_52_method_15_code 2 (some .byte) ws ({ frames := 0, cells := 0, slots := 0, locals := 0 } : Room) Z #[(.ref b1), (.int (4 : Int32))] h0 (Q156 h0 n0) := by
  refine own_enter #[.val (.ref b1), .val (.int (4 : Int32))] (plainFor_of_name pn156) (fun m => ef156 m b1 (4 : Int32)) ?_
  intro p e s m below meth c s₁ hx hby hml hown hnm hZ hrt hlk X0 e0
  have N0 := Fr.nil n0
  refine own_tp (.int (4 : Int32)) 1 (fun _ q => XS.iloadN X0.here hx rfl (hb hby d156_0) rfl q) ?_
  refine own_tp (.ref b1) 2 (fun _ q => XS.aloadN X0.here hx rfl (hb hby d156_1) rfl rfl q) ?_
  obtain ⟨cl51, Ar51, -, Sz51, Nn51, -, -⟩ := (id V1)
  refine own_t1 (.int (4 : Int32)) 3 (fun t q => X0.arraylength hx (by rw [e0]; exact Ar51.1) (State.isArrayOf_alike hZ.alike Ar51.2.1) (g := (mkF m 2 #[.val (.ref b1), .val (.int (4 : Int32))] [(.ref b1), (.int (4 : Int32))])) rfl rfl (hb hby d156_2) _ (by rw [len_of Sz51 Nn51]; exact q)) ?_
  refine own_t2 (.int (0 : Int32)) 4 (fun _ q => XS.isub X0.here hx rfl (hb hby d156_3) rfl q) ?_
  refine own_tp (.int (31 : Int32)) 6 (fun _ q => XS.bipush X0.here hx rfl (hb hby d156_4) q) ?_
  refine own_d1 7 (fun _ q => XS.iushr X0.here hx rfl (hb hby d156_6) rfl q) ?_
  refine own_d0 8 (fun _ q => XS.i2b X0.here hx rfl (hb hby d156_7) rfl q) ?_
  exact own_retN (t := .byte) X0 hx hrt (hb hby d156_8) (by simp) hlk (by decide) (by decide) e0 (⟨rfl, N0, rfl⟩)

def Q157  (h0 : Heap) (n0 : Nat) (v : Option Value) (h : Heap) (L : List Loc) : Prop := v = some (.int (1 : Int32)) ∧ Fr n0 L ∧ h = h0

theorem d157_0 : decode jdk_52_method_15_code 0 = .ok (.iload_n 1, 1) := by decide +kernel
theorem d157_1 : decode jdk_52_method_15_code 1 = .ok (.aload_n 0, 1) := by decide +kernel
theorem d157_2 : decode jdk_52_method_15_code 2 = .ok (.arraylength, 1) := by decide +kernel
theorem d157_3 : decode jdk_52_method_15_code 3 = .ok (.isub, 1) := by decide +kernel
theorem d157_4 : decode jdk_52_method_15_code 4 = .ok (.bipush 31, 2) := by decide +kernel
theorem d157_6 : decode jdk_52_method_15_code 6 = .ok (.iushr, 1) := by decide +kernel
theorem d157_7 : decode jdk_52_method_15_code 7 = .ok (.i2b, 1) := by decide +kernel
theorem d157_8 : decode jdk_52_method_15_code 8 = .ok (.ireturn, 1) := by decide +kernel
theorem pn157 : plainName "java/lang/StringUTF16" = true := by first | (simp [plainName, overriddenIn]; done) | decide +kernel
theorem ef157 (m : MethodId) (x0 : Addr) (x1 : Int32) : entryFrame m #[(.ref x0), (.int x1)] 2 = mkF m 0 #[.val (.ref x0), .val (.int x1)] [] := by first | (simp [entryFrame, mkF, argsToLocals, Value.category]; done) | rfl
set_option maxRecDepth 65536 in
set_option maxHeartbeats 40000000 in
theorem rm157 (l : Launch) (Z : State) (a0 : Array Value) (hw : ∀ d ∈ tables_1, d.before a0 Z = true) (ws : List Jvm.Cond) (b1 : Addr) (k1 : ClassId) (vs1 : List Value) (h0 : Heap) (n0 : Nat) (V1 : Arv Z h0 b1 k1 .byte (8 : Int32) vs1 (.int (0 : Int32))) :
    own_Met l (⟨"java/lang/StringUTF16", "coderFromArrayLen", "([BI)B"⟩ : MethodName) jdk_52_method_15_code 2 (some .byte) ws ({ frames := 0, cells := 0, slots := 0, locals := 0 } : Room) Z #[(.ref b1), (.int (4 : Int32))] h0 (Q157 h0 n0) := by
  refine own_enter #[.val (.ref b1), .val (.int (4 : Int32))] (plainFor_of_name pn157) (fun m => ef157 m b1 (4 : Int32)) ?_
  intro p e s m below meth c s₁ hx hby hml hown hnm hZ hrt hlk X0 e0
  have N0 := Fr.nil n0
  refine own_tp (.int (4 : Int32)) 1 (fun _ q => XS.iloadN X0.here hx rfl (hb hby d157_0) rfl q) ?_
  refine own_tp (.ref b1) 2 (fun _ q => XS.aloadN X0.here hx rfl (hb hby d157_1) rfl rfl q) ?_
  obtain ⟨cl51, Ar51, -, Sz51, Nn51, -, -⟩ := (id V1)
  refine own_t1 (.int (8 : Int32)) 3 (fun t q => X0.arraylength hx (by rw [e0]; exact Ar51.1) (State.isArrayOf_alike hZ.alike Ar51.2.1) (g := (mkF m 2 #[.val (.ref b1), .val (.int (4 : Int32))] [(.ref b1), (.int (4 : Int32))])) rfl rfl (hb hby d157_2) _ (by rw [len_of Sz51 Nn51]; exact q)) ?_
  refine own_t2 (.int (-4 : Int32)) 4 (fun _ q => XS.isub X0.here hx rfl (hb hby d157_3) rfl q) ?_
  refine own_tp (.int (31 : Int32)) 6 (fun _ q => XS.bipush X0.here hx rfl (hb hby d157_4) q) ?_
  refine own_t2 (.int (1 : Int32)) 7 (fun _ q => XS.iushr X0.here hx rfl (hb hby d157_6) rfl q) ?_
  refine own_d0 8 (fun _ q => XS.i2b X0.here hx rfl (hb hby d157_7) rfl q) ?_
  exact own_retN (t := .byte) X0 hx hrt (hb hby d157_8) (by simp) hlk (by decide) (by decide) e0 (⟨rfl, N0, rfl⟩)

theorem own_all4 {c0 c1 c2 c3 : Int32} (h : ¬ (255 : Int32) < c0 ∧ ¬ (255 : Int32) < c1 ∧ ¬ (255 : Int32) < c2 ∧ ¬ (255 : Int32) < c3) : ∀ c ∈ ([c0, c1, c2, c3] : List Int32), ¬ (255 : Int32) < c := by
  intro c hc
  simp only [List.mem_cons, List.not_mem_nil, or_false] at hc
  rcases hc with rfl | rfl | rfl | rfl
  · exact h.1
  · exact h.2.1
  · exact h.2.2.1
  · exact h.2.2.2

def Q158 (Z : State) (x1 : Addr) (c0 c1 c2 c3 : Int32) (h0 : Heap) (n0 : Nat) (v : Option Value) (h : Heap) (L : List Loc) : Prop := v = none ∧ Fr n0 L ∧ Keep h0 h [x1] ∧ ∃ (t : Addr) (kb : ClassId) (cd N : Int32) (vs : List Value), n0 ≤ t ∧ h0.size ≤ t ∧ Exa Z h x1 "java/lang/String" ∧ Fld Z h x1 "java/lang/String" "value" "[B" (.ref t) ∧ Fld Z h x1 "java/lang/String" "coder" "B" (.int cd) ∧ Arv Z h t kb .byte N vs (.int (0 : Int32)) ∧ own_Cod ([c0, c1, c2, c3] : List Int32) cd N vs

theorem d158_0 : decode jdk_42_method_149_code 0 = .ok (.aload_n 0, 1) := by decide +kernel
theorem d158_1 : decode jdk_42_method_149_code 1 = .ok (.invokespecial 1, 3) := by decide +kernel
theorem d158_4 : decode jdk_42_method_149_code 4 = .ok (.iload_n 3, 1) := by decide +kernel
theorem d158_5 : decode jdk_42_method_149_code 5 = .ok (.ifCond .ne 22, 3) := by decide +kernel
theorem d158_27 : decode jdk_42_method_149_code 27 = .ok (.getstatic 38, 3) := by decide +kernel
theorem d158_30 : decode jdk_42_method_149_code 30 = .ok (.ifCond .eq 28, 3) := by decide +kernel
theorem d158_33 : decode jdk_42_method_149_code 33 = .ok (.aload_n 1, 1) := by decide +kernel
theorem d158_34 : decode jdk_42_method_149_code 34 = .ok (.iload_n 2, 1) := by decide +kernel
theorem d158_35 : decode jdk_42_method_149_code 35 = .ok (.iload_n 3, 1) := by decide +kernel
theorem d158_36 : decode jdk_42_method_149_code 36 = .ok (.invokestatic 177, 3) := by decide +kernel
theorem d158_39 : decode jdk_42_method_149_code 39 = .ok (.astore 5, 2) := by decide +kernel
theorem d158_41 : decode jdk_42_method_149_code 41 = .ok (.aload_n 0, 1) := by decide +kernel
theorem d158_42 : decode jdk_42_method_149_code 42 = .ok (.aload 5, 2) := by decide +kernel
theorem d158_44 : decode jdk_42_method_149_code 44 = .ok (.iload_n 3, 1) := by decide +kernel
theorem d158_45 : decode jdk_42_method_149_code 45 = .ok (.invokestatic 47, 3) := by decide +kernel
theorem d158_48 : decode jdk_42_method_149_code 48 = .ok (.putfield 15, 3) := by decide +kernel
theorem d158_51 : decode jdk_42_method_149_code 51 = .ok (.aload_n 0, 1) := by decide +kernel
theorem d158_52 : decode jdk_42_method_149_code 52 = .ok (.aload 5, 2) := by decide +kernel
theorem d158_54 : decode jdk_42_method_149_code 54 = .ok (.putfield 9, 3) := by decide +kernel
theorem d158_57 : decode jdk_42_method_149_code 57 = .ok (.return_, 1) := by decide +kernel
theorem pn158 : plainName "java/lang/String" = true := by first | (simp [plainName, overriddenIn]; done) | decide +kernel
theorem pd158_0 : parseMethodDescriptor "([CII)[B" = some ⟨[(.array .char), .int, .int], some (.array .byte)⟩ := by decide +kernel
theorem pd158_1 : parseMethodDescriptor "([BI)B" = some ⟨[(.array .byte), .int], some .byte⟩ := by decide +kernel
theorem ef158 (m : MethodId) (x0 : Addr) (x1 : Addr) (x2 : Int32) (x3 : Int32) : entryFrame m #[(.ref x0), (.ref x1), (.int x2), (.int x3), .null] 6 = mkF m 0 #[.val (.ref x0), .val (.ref x1), .val (.int x2), .val (.int x3), .val .null, .unset] [] := by first | (simp [entryFrame, mkF, argsToLocals, Value.category]; done) | rfl
set_option maxRecDepth 65536 in
set_option maxHeartbeats 40000000 in
theorem rm158 (l : Launch) (Z : State) (a0 : Array Value) (hw : ∀ d ∈ tables_1, d.before a0 Z = true) (ws : List Jvm.Cond) (x1 a1 : Addr) (k1 : ClassId) (c0 c1 c2 c3 : Int32) (u1 u2 : Value) (h0 : Heap) (n0 : Nat) (Z0 : n0 ≤ h0.size) (g1 : n0 ≤ x1) (hxa : x1 ≠ a1) (hc0 : 0 ≤ c0.toInt ∧ c0.toInt ≤ 65535) (hc1 : 0 ≤ c1.toInt ∧ c1.toInt ≤ 65535) (hc2 : 0 ≤ c2.toInt ∧ c2.toInt ≤ 65535) (hc3 : 0 ≤ c3.toInt ∧ c3.toInt ≤ 65535) (V1 : Arv Z h0 a1 k1 .char (4 : Int32) [(.int c0), (.int c1), (.int c2), (.int c3)] (.int (0 : Int32))) (E1 : Exa Z h0 x1 "java/lang/String") (F1 : Fld Z h0 x1 "java/lang/String" "value" "[B" u1) (F2 : Fld Z h0 x1 "java/lang/String" "coder" "B" u2) (G1 : Int32) (US : own_US Z G1) (O0 : Old Z n0 h0) :
    own_Met l (⟨"java/lang/String", "<init>", "([CIILjava/lang/Void;)V"⟩ : MethodName) jdk_42_method_149_code 6 none ws ({ frames := 4, cells := 2, slots := 12, locals := 61 } : Room) Z #[(.ref x1), (.ref a1), (.int (0 : Int32)), (.int (4 : Int32)), .null] h0 (Q158 Z x1 c0 c1 c2 c3 h0 n0) := by
  refine own_enter #[.val (.ref x1), .val (.ref a1), .val (.int (0 : Int32)), .val (.int (4 : Int32)), .val .null, .unset] (plainFor_of_name pn158) (fun m => ef158 m x1 a1 (0 : Int32) (4 : Int32)) ?_
  intro p e s m below meth c s₁ hx hby hml hown hnm hZ hrt hlk X0 e0
  have N0 := Fr.nil n0
  refine own_tp (.ref x1) 1 (fun _ q => XS.aloadN X0.here hx rfl (hb hby d158_0) rfl rfl q) ?_
  obtain ⟨T51, X51, e51, st51⟩ := initO X0 hx hZ hown (hw _ (List.mem_of_getElem? (i := 20) rfl)) (hw _ (List.mem_of_getElem? (i := 21) rfl)) (hw _ (List.mem_of_getElem? (i := 22) rfl)) e0 (g := (mkF m 1 #[.val (.ref x1), .val (.ref a1), .val (.int (0 : Int32)), .val (.int (4 : Int32)), .val .null, .unset] [(.ref x1)])) rfl (by rw [hml]; rfl) rfl (hb hby d158_1) (by decide) (W := 0) (by show 2 * 0 + _ ≤ _; exact Nat.le_of_eq rfl) (by decide)
  refine own_d1 4 st51 ?_
  refine own_tp (.int (4 : Int32)) 5 (fun _ q => XS.iloadN X51.here hx rfl (hb hby d158_4) rfl q) ?_
  refine own_d1 27 (fun _ q => XS.ifYes X51.here hx rfl (pc0 := 5) (pc' := 27) rfl (hb hby d158_5) rfl ((if0 _ _).trans (feq (by decide : ¬ ((4 : Int32) = (0 : Int32)))).2) (by decide) (by decide) q) ?_
  obtain ⟨T52, X52, e52, st52⟩ := getS2 X51 hx hZ hown (host := "") (Or.inl (hw _ (List.mem_of_getElem? (i := 50) rfl))) Via.refl e51 (US.2.1.ext O0.2) (g := (mkF m 27 #[.val (.ref x1), .val (.ref a1), .val (.int (0 : Int32)), .val (.int (4 : Int32)), .val .null, .unset] [])) rfl (hb hby d158_27)
  refine own_tp (.int G1) 30 st52 ?_
  refine own_d1 33 (fun _ q => XS.ifNo X52.here hx rfl (hb hby d158_30) rfl ((if0 _ _).trans (feq US.1).1) q) ?_
  refine own_tp (.ref a1) 34 (fun _ q => XS.aloadN X52.here hx rfl (hb hby d158_33) rfl rfl q) ?_
  refine own_tp (.int (0 : Int32)) 35 (fun _ q => XS.iloadN X52.here hx rfl (hb hby d158_34) rfl q) ?_
  refine own_tp (.int (4 : Int32)) 36 (fun _ q => XS.iloadN X52.here hx rfl (hb hby d158_35) rfl q) ?_
  obtain ⟨_, _, ⟨T53, L53, k53, n53⟩, -, X53, ⟨Lc53, hQ53, l53, y53, z53⟩, st53⟩ := Jvm.LawKit.callS X52 hx (y := (⟨"java/lang/StringUTF16", "compress", "([CII)[B"⟩ : MethodName)) hown (mvT hZ (hw _ (List.mem_of_getElem? (i := 75) rfl))) (mvT hZ (hw _ (List.mem_of_getElem? (i := 76) rfl))) (mvT hZ (hw _ (List.mem_of_getElem? (i := 77) rfl))) (mvT hZ (hw _ (List.mem_of_getElem? (i := 78) rfl))) (by decide) (backOf (W := 0) (rm155 l Z a0 hw [] a1 k1 c0 c1 c2 c3 h0 n0 Z0 hc0 hc1 hc2 hc3 V1 G1 US O0) hZ (hw _ (List.mem_of_getElem? (i := 78) rfl)) (hw _ (List.mem_of_getElem? (i := 77) rfl)) (by decide) (by decide)) (g := (mkF m 36 #[.val (.ref x1), .val (.ref a1), .val (.int (0 : Int32)), .val (.int (4 : Int32)), .val .null, .unset] [(.int (4 : Int32)), (.int (0 : Int32)), (.ref a1)])) rfl (by rw [hml]; rfl) (argsL := [(.ref a1), (.int (0 : Int32)), (.int (4 : Int32))]) (rest := []) (lenOf pd158_0 rfl) rfl (by show 2 * 0 + _ ≤ _; exact Nat.le_of_eq rfl) (hb hby d158_36) (fun _ _ => ⟨rfl, e52, (by decide : 0 + 2 ≤ _), (by decide : 0 + 12 ≤ _)⟩)
  dsimp only [Pt.U, Pt.locs, Pt.cells, Pt.slots] at X53 l53 y53 z53 st53 hQ53
  subst l53 y53 z53
  obtain ⟨vb53, kv53, rfl, Nq53, Kp53, ge53, sz53, hD53⟩ := hQ53
  have ne54 : a1 ≠ vb53 := Nat.ne_of_lt (Nat.lt_of_lt_of_le V1.lt sz53)
  have ne55 : x1 ≠ vb53 := Nat.ne_of_lt (Nat.lt_of_lt_of_le E1.lt sz53)
  have s0vb53 : h0.size ≤ vb53 := Nat.le_trans (Keep.refl h0 [x1]).1 sz53
  have N53 := Fr.app N0 Nq53
  have O53 := Old.keep O0 Kp53 all0
  have Z53 : n0 ≤ T53.heap.size := Nat.le_trans Z0 Kp53.1
  have K53 : Keep h0 T53.heap [x1] := Keep.trans (Keep.refl h0 [x1]) Kp53 all0
  refine own_cs [(.ref vb53)] 39 st53 ?_
  rcases hD53 with ⟨hxw, VL⟩ | ⟨hxw, VL⟩
  ·
    refine own_ls #[.val (.ref x1), .val (.ref a1), .val (.int (0 : Int32)), .val (.int (4 : Int32)), .val .null, .val (.ref vb53)] 41 (fun _ q => XS.astore X53.here hx rfl (hb hby d158_39) rfl rfl (l' := #[.val (.ref x1), .val (.ref a1), .val (.int (0 : Int32)), .val (.int (4 : Int32)), .val .null, .val (.ref vb53)]) rfl q) ?_
    refine own_tp (.ref x1) 42 (fun _ q => XS.aloadN X53.here hx rfl (hb hby d158_41) rfl rfl q) ?_
    refine own_tp (.ref vb53) 44 (fun _ q => XS.aload X53.here hx rfl (hb hby d158_42) rfl rfl q) ?_
    refine own_tp (.int (4 : Int32)) 45 (fun _ q => XS.iloadN X53.here hx rfl (hb hby d158_44) rfl q) ?_
    obtain ⟨_, _, ⟨T56, L56, k56, n56⟩, -, X56, ⟨Lc56, hQ56, l56, y56, z56⟩, st56⟩ := Jvm.LawKit.callS X53 hx (y := (⟨"java/lang/StringUTF16", "coderFromArrayLen", "([BI)B"⟩ : MethodName)) hown (mvT hZ (hw _ (List.mem_of_getElem? (i := 82) rfl))) (mvT hZ (hw _ (List.mem_of_getElem? (i := 83) rfl))) (mvT hZ (hw _ (List.mem_of_getElem? (i := 77) rfl))) (mvT hZ (hw _ (List.mem_of_getElem? (i := 84) rfl))) (by decide) (backOf (W := 1) (rm156 l Z a0 hw [] vb53 _ _ T53.heap n0 VL) hZ (hw _ (List.mem_of_getElem? (i := 84) rfl)) (hw _ (List.mem_of_getElem? (i := 77) rfl)) (by decide) (by decide)) (g := (mkF m 45 #[.val (.ref x1), .val (.ref a1), .val (.int (0 : Int32)), .val (.int (4 : Int32)), .val .null, .val (.ref vb53)] [(.int (4 : Int32)), (.ref vb53), (.ref x1)])) rfl (by rw [hml]; rfl) (argsL := [(.ref vb53), (.int (4 : Int32))]) (rest := [(.ref x1)]) (lenOf pd158_1 rfl) rfl (by show 2 * 0 + _ ≤ _; exact Nat.le_of_eq rfl) (hb hby d158_45) (fun _ _ => ⟨rfl, rfl, (by decide : 2 + 0 ≤ _), (by decide : 12 + 0 ≤ _)⟩)
    dsimp only [Pt.U, Pt.locs, Pt.cells, Pt.slots] at X56 l56 y56 z56 st56 hQ56
    subst l56 y56 z56
    obtain ⟨rfl, Nq56, eq56⟩ := hQ56
    have N56 := Fr.app N53 Nq56
    refine own_t2 (.int (0 : Int32)) 48 st56 ?_
    have f57 := (F2.keep Kp53 nin0)
    have f58 := (E1.keep Kp53)
    obtain ⟨T59, h59, X59, e59, W59, st59⟩ := putFN X56 hx hZ hown (hw _ (List.mem_of_getElem? (i := 30) rfl)) Via.refl eq56 f57 f58 (Or.inr ⟨(hw _ (List.mem_of_getElem? (i := 26) rfl)), rfl, hnm⟩) (hw _ (List.mem_of_getElem? (i := 10) rfl)) (ty := .byte) (v' := (.int (0 : Int32))) (by decide) rfl rfl (g := (mkF m 48 #[.val (.ref x1), .val (.ref a1), .val (.int (0 : Int32)), .val (.int (4 : Int32)), .val .null, .val (.ref vb53)] [(.int (0 : Int32)), (.ref x1)])) rfl rfl (hb hby d158_48)
    have Fw59 := f57.same W59
    have N59 := Fr.snoc X59 N56 g1
    have O59 := Old.wr O53 W59 g1
    have K59 : Keep h0 h59 [x1] := K53.wr W59 (Or.inl (List.mem_of_getElem? (i := 0) rfl))
    have Z59 : n0 ≤ h59.size := Nat.le_trans Z53 (Nat.le_of_eq W59.size.symm)
    refine own_d2 51 st59 ?_
    refine own_tp (.ref x1) 52 (fun _ q => XS.aloadN X59.here hx rfl (hb hby d158_51) rfl rfl q) ?_
    refine own_tp (.ref vb53) 54 (fun _ q => XS.aload X59.here hx rfl (hb hby d158_52) rfl rfl q) ?_
    have f60 := ((F1.keep Kp53 nin0).other W59 (Or.inr (slot_ne (Or.inr (hw _ (List.mem_of_getElem? (i := 25) rfl))) (Or.inr (hw _ (List.mem_of_getElem? (i := 26) rfl))) (by decide) (t := (.array .byte)) (t' := .byte) (by decide) (by decide))))
    have f61 := (f58.wr W59)
    obtain ⟨T62, h62, X62, e62, W62, st62⟩ := putF X59 hx hZ hown (host := "") (Or.inl (hw _ (List.mem_of_getElem? (i := 29) rfl))) Via.refl e59 f60 f61 (Or.inr ⟨(hw _ (List.mem_of_getElem? (i := 25) rfl)), rfl, hnm⟩) (hw _ (List.mem_of_getElem? (i := 10) rfl)) (ty := (.array .byte)) (by decide) rfl rfl (g := (mkF m 54 #[.val (.ref x1), .val (.ref a1), .val (.int (0 : Int32)), .val (.int (4 : Int32)), .val .null, .val (.ref vb53)] [(.ref vb53), (.ref x1)])) rfl rfl (hb hby d158_54)
    have Fw62 := f60.same W62
    have N62 := Fr.snoc X62 N59 g1
    have O62 := Old.wr O59 W62 g1
    have K62 : Keep h0 h62 [x1] := K59.wr W62 (Or.inl (List.mem_of_getElem? (i := 0) rfl))
    have Z62 : n0 ≤ h62.size := Nat.le_trans Z59 (Nat.le_of_eq W62.size.symm)
    refine own_d2 57 st62 ?_
    have f63 := (f61.wr W62)
    have f64 := (Fw59.other W62 (Or.inr (slot_ne (Or.inr (hw _ (List.mem_of_getElem? (i := 26) rfl))) (Or.inr (hw _ (List.mem_of_getElem? (i := 25) rfl))) (by decide) (t := .byte) (t' := (.array .byte)) (by decide) (by decide))))
    have f65 := ((VL.other W59 (Ne.symm ne55)).other W62 (Ne.symm ne55))
    exact own_retV X62 hx hrt (hb hby d158_57) hlk (by decide) (by decide) e62 (⟨rfl, N62, K62, vb53, _, _, _, _, ge53, s0vb53, f63, Fw62, f64, f65, Or.inl ⟨rfl, rfl, rfl, (own_all4 hxw)⟩⟩)
  ·
    refine own_ls #[.val (.ref x1), .val (.ref a1), .val (.int (0 : Int32)), .val (.int (4 : Int32)), .val .null, .val (.ref vb53)] 41 (fun _ q => XS.astore X53.here hx rfl (hb hby d158_39) rfl rfl (l' := #[.val (.ref x1), .val (.ref a1), .val (.int (0 : Int32)), .val (.int (4 : Int32)), .val .null, .val (.ref vb53)]) rfl q) ?_
    refine own_tp (.ref x1) 42 (fun _ q => XS.aloadN X53.here hx rfl (hb hby d158_41) rfl rfl q) ?_
    refine own_tp (.ref vb53) 44 (fun _ q => XS.aload X53.here hx rfl (hb hby d158_42) rfl rfl q) ?_
    refine own_tp (.int (4 : Int32)) 45 (fun _ q => XS.iloadN X53.here hx rfl (hb hby d158_44) rfl q) ?_
    obtain ⟨_, _, ⟨T66, L66, k66, n66⟩, -, X66, ⟨Lc66, hQ66, l66, y66, z66⟩, st66⟩ := Jvm.LawKit.callS X53 hx (y := (⟨"java/lang/StringUTF16", "coderFromArrayLen", "([BI)B"⟩ : MethodName)) hown (mvT hZ (hw _ (List.mem_of_getElem? (i := 82) rfl))) (mvT hZ (hw _ (List.mem_of_getElem? (i := 83) rfl))) (mvT hZ (hw _ (List.mem_of_getElem? (i := 77) rfl))) (mvT hZ (hw _ (List.mem_of_getElem? (i := 84) rfl))) (by decide) (backOf (W := 1) (rm157 l Z a0 hw [] vb53 _ _ T53.heap n0 VL) hZ (hw _ (List.mem_of_getElem? (i := 84) rfl)) (hw _ (List.mem_of_getElem? (i := 77) rfl)) (by decide) (by decide)) (g := (mkF m 45 #[.val (.ref x1), .val (.ref a1), .val (.int (0 : Int32)), .val (.int (4 : Int32)), .val .null, .val (.ref vb53)] [(.int (4 : Int32)), (.ref vb53), (.ref x1)])) rfl (by rw [hml]; rfl) (argsL := [(.ref vb53), (.int (4 : Int32))]) (rest := [(.ref x1)]) (lenOf pd158_1 rfl) rfl (by show 2 * 0 + _ ≤ _; exact Nat.le_of_eq rfl) (hb hby d158_45) (fun _ _ => ⟨rfl, rfl, (by decide : 2 + 0 ≤ _), (by decide : 12 + 0 ≤ _)⟩)
    dsimp only [Pt.U, Pt.locs, Pt.cells, Pt.slots] at X66 l66 y66 z66 st66 hQ66
    subst l66 y66 z66
    obtain ⟨rfl, Nq66, eq66⟩ := hQ66
    have N66 := Fr.app N53 Nq66
    refine own_t2 (.int (1 : Int32)) 48 st66 ?_
    have f67 := (F2.keep Kp53 nin0)
    have f68 := (E1.keep Kp53)
    obtain ⟨T69, h69, X69, e69, W69, st69⟩ := putFN X66 hx hZ hown (hw _ (List.mem_of_getElem? (i := 30) rfl)) Via.refl eq66 f67 f68 (Or.inr ⟨(hw _ (List.mem_of_getElem? (i := 26) rfl)), rfl, hnm⟩) (hw _ (List.mem_of_getElem? (i := 10) rfl)) (ty := .byte) (v' := (.int (1 : Int32))) (by decide) rfl rfl (g := (mkF m 48 #[.val (.ref x1), .val (.ref a1), .val (.int (0 : Int32)), .val (.int (4 : Int32)), .val .null, .val (.ref vb53)] [(.int (1 : Int32)), (.ref x1)])) rfl rfl (hb hby d158_48)
    have Fw69 := f67.same W69
    have N69 := Fr.snoc X69 N66 g1
    have O69 := Old.wr O53 W69 g1
    have K69 : Keep h0 h69 [x1] := K53.wr W69 (Or.inl (List.mem_of_getElem? (i := 0) rfl))
    have Z69 : n0 ≤ h69.size := Nat.le_trans Z53 (Nat.le_of_eq W69.size.symm)
    refine own_d2 51 st69 ?_
    refine own_tp (.ref x1) 52 (fun _ q => XS.aloadN X69.here hx rfl (hb hby d158_51) rfl rfl q) ?_
    refine own_tp (.ref vb53) 54 (fun _ q => XS.aload X69.here hx rfl (hb hby d158_52) rfl rfl q) ?_
    have f70 := ((F1.keep Kp53 nin0).other W69 (Or.inr (slot_ne (Or.inr (hw _ (List.mem_of_getElem? (i := 25) rfl))) (Or.inr (hw _ (List.mem_of_getElem? (i := 26) rfl))) (by decide) (t := (.array .byte)) (t' := .byte) (by decide) (by decide))))
    have f71 := (f68.wr W69)
    obtain ⟨T72, h72, X72, e72, W72, st72⟩ := putF X69 hx hZ hown (host := "") (Or.inl (hw _ (List.mem_of_getElem? (i := 29) rfl))) Via.refl e69 f70 f71 (Or.inr ⟨(hw _ (List.mem_of_getElem? (i := 25) rfl)), rfl, hnm⟩) (hw _ (List.mem_of_getElem? (i := 10) rfl)) (ty := (.array .byte)) (by decide) rfl rfl (g := (mkF m 54 #[.val (.ref x1), .val (.ref a1), .val (.int (0 : Int32)), .val (.int (4 : Int32)), .val .null, .val (.ref vb53)] [(.ref vb53), (.ref x1)])) rfl rfl (hb hby d158_54)
    have Fw72 := f70.same W72
    have N72 := Fr.snoc X72 N69 g1
    have O72 := Old.wr O69 W72 g1
    have K72 : Keep h0 h72 [x1] := K69.wr W72 (Or.inl (List.mem_of_getElem? (i := 0) rfl))
    have Z72 : n0 ≤ h72.size := Nat.le_trans Z69 (Nat.le_of_eq W72.size.symm)
    refine own_d2 57 st72 ?_
    have f73 := (f71.wr W72)
    have f74 := (Fw69.other W72 (Or.inr (slot_ne (Or.inr (hw _ (List.mem_of_getElem? (i := 26) rfl))) (Or.inr (hw _ (List.mem_of_getElem? (i := 25) rfl))) (by decide) (t := .byte) (t' := (.array .byte)) (by decide) (by decide))))
    have f75 := ((VL.other W69 (Ne.symm ne55)).other W72 (Ne.symm ne55))
    exact own_retV X72 hx hrt (hb hby d158_57) hlk (by decide) (by decide) e72 (⟨rfl, N72, K72, vb53, _, _, _, _, ge53, s0vb53, f73, Fw72, f74, f75, Or.inr ⟨rfl, rfl, rfl, hxw⟩⟩)

def Q159 (Z : State) (x1 : Addr) (c0 c1 c2 c3 : Int32) (h0 : Heap) (n0 : Nat) (v : Option Value) (h : Heap) (L : List Loc) : Prop := v = none ∧ Fr n0 L ∧ Keep h0 h [x1] ∧ ∃ (t : Addr) (kb : ClassId) (cd N : Int32) (vs : List Value), n0 ≤ t ∧ h0.size ≤ t ∧ Exa Z h x1 "java/lang/String" ∧ Fld Z h x1 "java/lang/String" "value" "[B" (.ref t) ∧ Fld Z h x1 "java/lang/String" "coder" "B" (.int cd) ∧ Arv Z h t kb .byte N vs (.int (0 : Int32)) ∧ own_Cod ([c0, c1, c2, c3] : List Int32) cd N vs

theorem d159_0 : decode jdk_42_method_3_code 0 = .ok (.aload_n 0, 1) := by decide +kernel
theorem d159_1 : decode jdk_42_method_3_code 1 = .ok (.aload_n 1, 1) := by decide +kernel
theorem d159_2 : decode jdk_42_method_3_code 2 = .ok (.iconst 0, 1) := by decide +kernel
theorem d159_3 : decode jdk_42_method_3_code 3 = .ok (.aload_n 1, 1) := by decide +kernel
theorem d159_4 : decode jdk_42_method_3_code 4 = .ok (.arraylength, 1) := by decide +kernel
theorem d159_5 : decode jdk_42_method_3_code 5 = .ok (.aconst_null, 1) := by decide +kernel
theorem d159_6 : decode jdk_42_method_3_code 6 = .ok (.invokespecial 27, 3) := by decide +kernel
theorem d159_9 : decode jdk_42_method_3_code 9 = .ok (.return_, 1) := by decide +kernel
theorem pn159 : plainName "java/lang/String" = true := by first | (simp [plainName, overriddenIn]; done) | decide +kernel
theorem pd159_0 : parseMethodDescriptor "([CIILjava/lang/Void;)V" = some ⟨[(.array .char), .int, .int, (.object "java/lang/Void")], none⟩ := by decide +kernel
theorem ef159 (m : MethodId) (x0 : Addr) (x1 : Addr) : entryFrame m #[(.ref x0), (.ref x1)] 2 = mkF m 0 #[.val (.ref x0), .val (.ref x1)] [] := by first | (simp [entryFrame, mkF, argsToLocals, Value.category]; done) | rfl
set_option maxRecDepth 65536 in
set_option maxHeartbeats 40000000 in
theorem rm159 (l : Launch) (Z : State) (a0 : Array Value) (hw : ∀ d ∈ tables_1, d.before a0 Z = true) (ws : List Jvm.Cond) (x1 a1 : Addr) (k1 : ClassId) (c0 c1 c2 c3 : Int32) (u1 u2 : Value) (h0 : Heap) (n0 : Nat) (Z0 : n0 ≤ h0.size) (g1 : n0 ≤ x1) (hxa : x1 ≠ a1) (hc0 : 0 ≤ c0.toInt ∧ c0.toInt ≤ 65535) (hc1 : 0 ≤ c1.toInt ∧ c1.toInt ≤ 65535) (hc2 : 0 ≤ c2.toInt ∧ c2.toInt ≤ 65535) (hc3 : 0 ≤ c3.toInt ∧ c3.toInt ≤ 65535) (V1 : Arv Z h0 a1 k1 .char (4 : Int32) [(.int c0), (.int c1), (.int c2), (.int c3)] (.int (0 : Int32))) (E1 : Exa Z h0 x1 "java/lang/String") (F1 : Fld Z h0 x1 "java/lang/String" "value" "[B" u1) (F2 : Fld Z h0 x1 "java/lang/String" "coder" "B" u2) (G1 : Int32) (US : own_US Z G1) (O0 : Old Z n0 h0) :
    own_Met l (⟨"java/lang/String", "<init>", "([C)V"⟩ : MethodName) jdk_42_method_3_code 2 none ws ({ frames := 5, cells := 2, slots := 12, locals := 78 } : Room) Z #[(.ref x1), (.ref a1)] h0 (Q159 Z x1 c0 c1 c2 c3 h0 n0) := by
  refine own_enter #[.val (.ref x1), .val (.ref a1)] (plainFor_of_name pn159) (fun m => ef159 m x1 a1) ?_
  intro p e s m below meth c s₁ hx hby hml hown hnm hZ hrt hlk X0 e0
  have N0 := Fr.nil n0
  refine own_tp (.ref x1) 1 (fun _ q => XS.aloadN X0.here hx rfl (hb hby d159_0) rfl rfl q) ?_
  refine own_tp (.ref a1) 2 (fun _ q => XS.aloadN X0.here hx rfl (hb hby d159_1) rfl rfl q) ?_
  refine own_tp (.int (0 : Int32)) 3 (fun _ q => XS.iconst X0.here hx rfl (hb hby d159_2) q) ?_
  refine own_tp (.ref a1) 4 (fun _ q => XS.aloadN X0.here hx rfl (hb hby d159_3) rfl rfl q) ?_
  obtain ⟨cl51, Ar51, -, Sz51, Nn51, -, -⟩ := (id V1)
  refine own_t1 (.int (4 : Int32)) 5 (fun t q => X0.arraylength hx (by rw [e0]; exact Ar51.1) (State.isArrayOf_alike hZ.alike Ar51.2.1) (g := (mkF m 4 #[.val (.ref x1), .val (.ref a1)] [(.ref a1), (.int (0 : Int32)), (.ref a1), (.ref x1)])) rfl rfl (hb hby d159_4) _ (by rw [len_of Sz51 Nn51]; exact q)) ?_
  refine own_tp .null 6 (fun _ q => XS.aconstNull X0.here hx rfl (hb hby d159_5) q) ?_
  obtain ⟨_, _, ⟨T52, L52, k52, n52⟩, -, X52, ⟨Lc52, hQ52, l52, y52, z52⟩, st52⟩ := X0.specialBack hx (y := (⟨"java/lang/String", "<init>", "([CIILjava/lang/Void;)V"⟩ : MethodName)) rfl hown (mvT hZ (hw _ (List.mem_of_getElem? (i := 16) rfl))) (mvT hZ (hw _ (List.mem_of_getElem? (i := 17) rfl))) (mvT hZ (hw _ (List.mem_of_getElem? (i := 19) rfl))) (by decide) (backOf (W := 0) (rm158 l Z a0 hw [] x1 a1 k1 c0 c1 c2 c3 _ _ h0 n0 Z0 g1 hxa hc0 hc1 hc2 hc3 V1 E1 F1 F2 G1 US O0) hZ (hw _ (List.mem_of_getElem? (i := 19) rfl)) (hw _ (List.mem_of_getElem? (i := 11) rfl)) (by decide) (by decide)) (g := (mkF m 6 #[.val (.ref x1), .val (.ref a1)] [.null, (.int (4 : Int32)), (.int (0 : Int32)), (.ref a1), (.ref x1)])) rfl (by rw [hml]; rfl) (Steps.refl _) (a := x1) (argsL := [(.ref a1), (.int (0 : Int32)), (.int (4 : Int32)), .null]) (rest := []) (lenOf pd159_0 rfl) rfl (by show 2 * 0 + _ ≤ _; exact Nat.le_of_eq rfl) (hb hby d159_6) (fun _ _ => ⟨rfl, e0, (by decide : 0 + 2 ≤ _), (by decide : 0 + 12 ≤ _)⟩)
  dsimp only [Pt.U, Pt.locs, Pt.cells, Pt.slots] at X52 l52 y52 z52 st52 hQ52
  subst l52 y52 z52
  obtain ⟨rfl, Nq52, Kp52, rest52⟩ := hQ52
  refine own_csR [] 9 st52 ?_
  exact own_retV X52 hx hrt (hb hby d159_9) hlk (by decide) (by decide) rfl (⟨rfl, Fr.app N0 Nq52, Kp52, rest52⟩)

def Q1 (h0 : Heap) (n0 : Nat) (v : Option Value) (h : Heap) (L : List Loc) : Prop := ∃ r : Int32, v = some (.int r) ∧ (0 ≤ r.toInt ∧ r.toInt ≤ 65535) ∧ Fr n0 L ∧ h = h0

theorem d1_0 : decode method_3_code 0 = .ok (.iload_n 0, 1) := by decide +kernel
theorem d1_1 : decode method_3_code 1 = .ok (.ldc 28, 2) := by decide +kernel
theorem d1_3 : decode method_3_code 3 = .ok (.iand, 1) := by decide +kernel
theorem d1_4 : decode method_3_code 4 = .ok (.ifCond .eq 9, 3) := by decide +kernel
theorem d1_7 : decode method_3_code 7 = .ok (.iload_n 0, 1) := by decide +kernel
theorem d1_8 : decode method_3_code 8 = .ok (.ldc 29, 2) := by decide +kernel
theorem d1_10 : decode method_3_code 10 = .ok (.iand, 1) := by decide +kernel
theorem d1_11 : decode method_3_code 11 = .ok (.i2c, 1) := by decide +kernel
theorem d1_12 : decode method_3_code 12 = .ok (.ireturn, 1) := by decide +kernel
theorem d1_13 : decode method_3_code 13 = .ok (.bipush 8, 2) := by decide +kernel
theorem d1_15 : decode method_3_code 15 = .ok (.iload_n 0, 1) := by decide +kernel
theorem d1_16 : decode method_3_code 16 = .ok (.bipush 7, 2) := by decide +kernel
theorem d1_18 : decode method_3_code 18 = .ok (.iand, 1) := by decide +kernel
theorem d1_19 : decode method_3_code 19 = .ok (.iadd, 1) := by decide +kernel
theorem d1_20 : decode method_3_code 20 = .ok (.i2c, 1) := by decide +kernel
theorem d1_21 : decode method_3_code 21 = .ok (.ireturn, 1) := by decide +kernel
theorem pn1 : plainName "com/example/leastwise/leastwise/provisioning/WordLinesSpacesAlonePinLaw" = true := by first | (simp [plainName, overriddenIn]; done) | decide +kernel
theorem ef1 (m : MethodId) (x0 : Int32) : entryFrame m #[(.int x0)] 1 = mkF m 0 #[.val (.int x0)] [] := by first | (simp [entryFrame, mkF, argsToLocals, Value.category]; done) | rfl
set_option maxRecDepth 65536 in
set_option maxHeartbeats 40000000 in
theorem rm1 (l : Launch) (Z : State) (a0 : Array Value) (hw : ∀ d ∈ tables_1, d.before a0 Z = true) (ws : List Jvm.Cond) (p1 : Int32) (h0 : Heap) (n0 : Nat)  :
    own_Met l (⟨"com/example/leastwise/leastwise/provisioning/WordLinesSpacesAlonePinLaw", "draw", "(I)C"⟩ : MethodName) method_3_code 1 (some .char) ws ({ frames := 0, cells := 0, slots := 0, locals := 0 } : Room) Z #[(.int p1)] h0 (Q1 h0 n0) := by
  refine own_enter #[.val (.int p1)] (plainFor_of_name pn1) (fun m => ef1 m p1) ?_
  intro p e s m below meth c s₁ hx hby hml hown hnm hZ hrt hlk X0 e0
  have N0 := Fr.nil n0
  refine own_tp (.int p1) 1 (fun _ q => XS.iloadN X0.here hx rfl (hb hby d1_0) rfl q) ?_
  refine own_tp (.int (65536 : Int32)) 3 (fun _ q => X0.ldcInt hx hown (mvT hZ (hw _ (List.mem_of_getElem? (i := 5) rfl))) (g := (mkF m 1 #[.val (.int p1)] [(.int p1)])) rfl (hb hby d1_1) _ q) ?_
  refine own_t2 (.int (p1 &&& (65536 : Int32))) 4 (fun _ q => XS.iand X0.here hx rfl (hb hby d1_3) rfl q) ?_
  by_cases c51 : (p1 &&& (65536 : Int32)) = (0 : Int32)
  ·
    refine own_d1 13 (fun _ q => XS.ifYes X0.here hx rfl (pc0 := 4) (pc' := 13) rfl (hb hby d1_4) rfl ((if0 _ _).trans (teq c51).1) (by decide) (by decide) q) ?_
    refine own_tp (.int (8 : Int32)) 15 (fun _ q => XS.bipush X0.here hx rfl (hb hby d1_13) q) ?_
    refine own_tp (.int p1) 16 (fun _ q => XS.iloadN X0.here hx rfl (hb hby d1_15) rfl q) ?_
    refine own_tp (.int (7 : Int32)) 18 (fun _ q => XS.bipush X0.here hx rfl (hb hby d1_16) q) ?_
    refine own_t2 (.int (p1 &&& (7 : Int32))) 19 (fun _ q => XS.iand X0.here hx rfl (hb hby d1_18) rfl q) ?_
    refine own_t2 (.int ((8 : Int32) + (p1 &&& (7 : Int32)))) 20 (fun _ q => XS.iadd X0.here hx rfl (hb hby d1_19) rfl q) ?_
    refine own_t1 (.int (((8 : Int32) + (p1 &&& (7 : Int32))).toUInt32.toUInt16.toUInt32.toInt32)) 21 (fun _ q => XS.i2c X0.here hx rfl (hb hby d1_20) rfl q) ?_
    exact own_retN (t := .char) X0 hx hrt (hb hby d1_21) (by simp) hlk (by decide) (by decide) e0 (⟨_, rfl, own_c16 _, N0, rfl⟩)
  ·
    refine own_d1 7 (fun _ q => XS.ifNo X0.here hx rfl (hb hby d1_4) rfl ((if0 _ _).trans (feq c51).1) q) ?_
    refine own_tp (.int p1) 8 (fun _ q => XS.iloadN X0.here hx rfl (hb hby d1_7) rfl q) ?_
    refine own_tp (.int (65535 : Int32)) 10 (fun _ q => X0.ldcInt hx hown (mvT hZ (hw _ (List.mem_of_getElem? (i := 91) rfl))) (g := (mkF m 8 #[.val (.int p1)] [(.int p1)])) rfl (hb hby d1_8) _ q) ?_
    refine own_t2 (.int (p1 &&& (65535 : Int32))) 11 (fun _ q => XS.iand X0.here hx rfl (hb hby d1_10) rfl q) ?_
    refine own_t1 (.int ((p1 &&& (65535 : Int32)).toUInt32.toUInt16.toUInt32.toInt32)) 12 (fun _ q => XS.i2c X0.here hx rfl (hb hby d1_11) rfl q) ?_
    exact own_retN (t := .char) X0 hx hrt (hb hby d1_12) (by simp) hlk (by decide) (by decide) e0 (⟨_, rfl, own_c16 _, N0, rfl⟩)

def Q2 (p1 : Int32) (h0 : Heap) (n0 : Nat) (v : Option Value) (h : Heap) (L : List Loc) : Prop := v = some (.int (own_al p1)) ∧ Fr n0 L ∧ h = h0

theorem d2_0 : decode method_4_code 0 = .ok (.iload_n 0, 1) := by decide +kernel
theorem d2_1 : decode method_4_code 1 = .ok (.bipush 9, 2) := by decide +kernel
theorem d2_3 : decode method_4_code 3 = .ok (.if_icmp .lt 21, 3) := by decide +kernel
theorem d2_6 : decode method_4_code 6 = .ok (.iload_n 0, 1) := by decide +kernel
theorem d2_7 : decode method_4_code 7 = .ok (.bipush 13, 2) := by decide +kernel
theorem d2_9 : decode method_4_code 9 = .ok (.if_icmp .gt 15, 3) := by decide +kernel
theorem d2_12 : decode method_4_code 12 = .ok (.iload_n 0, 1) := by decide +kernel
theorem d2_13 : decode method_4_code 13 = .ok (.bipush 10, 2) := by decide +kernel
theorem d2_15 : decode method_4_code 15 = .ok (.if_icmp .eq 9, 3) := by decide +kernel
theorem d2_18 : decode method_4_code 18 = .ok (.iload_n 0, 1) := by decide +kernel
theorem d2_19 : decode method_4_code 19 = .ok (.bipush 13, 2) := by decide +kernel
theorem d2_21 : decode method_4_code 21 = .ok (.if_icmp .ne 7, 3) := by decide +kernel
theorem d2_24 : decode method_4_code 24 = .ok (.iconst 1, 1) := by decide +kernel
theorem d2_25 : decode method_4_code 25 = .ok (.goto 4, 3) := by decide +kernel
theorem d2_28 : decode method_4_code 28 = .ok (.iconst 0, 1) := by decide +kernel
theorem d2_29 : decode method_4_code 29 = .ok (.ireturn, 1) := by decide +kernel
theorem pn2 : plainName "com/example/leastwise/leastwise/provisioning/WordLinesSpacesAlonePinLaw" = true := by first | (simp [plainName, overriddenIn]; done) | decide +kernel
theorem ef2 (m : MethodId) (x0 : Int32) : entryFrame m #[(.int x0)] 1 = mkF m 0 #[.val (.int x0)] [] := by first | (simp [entryFrame, mkF, argsToLocals, Value.category]; done) | rfl
set_option maxRecDepth 65536 in
set_option maxHeartbeats 40000000 in
theorem rm2 (l : Launch) (Z : State) (a0 : Array Value) (hw : ∀ d ∈ tables_1, d.before a0 Z = true) (ws : List Jvm.Cond) (p1 : Int32) (h0 : Heap) (n0 : Nat)  :
    own_Met l (⟨"com/example/leastwise/leastwise/provisioning/WordLinesSpacesAlonePinLaw", "allowed", "(C)Z"⟩ : MethodName) method_4_code 1 (some .boolean) ws ({ frames := 0, cells := 0, slots := 0, locals := 0 } : Room) Z #[(.int p1)] h0 (Q2 p1 h0 n0) := by
  refine own_enter #[.val (.int p1)] (plainFor_of_name pn2) (fun m => ef2 m p1) ?_
  intro p e s m below meth c s₁ hx hby hml hown hnm hZ hrt hlk X0 e0
  have N0 := Fr.nil n0
  refine own_tp (.int p1) 1 (fun _ q => XS.iloadN X0.here hx rfl (hb hby d2_0) rfl q) ?_
  refine own_tp (.int (9 : Int32)) 3 (fun _ q => XS.bipush X0.here hx rfl (hb hby d2_1) q) ?_
  by_cases c51 : p1 < (9 : Int32)
  ·
    refine own_d2 24 (fun _ q => XS.icmpYes X0.here hx rfl (pc0 := 3) (pc' := 24) rfl (hb hby d2_3) rfl (tlt c51).1 (by decide) (by decide) q) ?_
    refine own_tp (.int (1 : Int32)) 25 (fun _ q => XS.iconst X0.here hx rfl (hb hby d2_24) q) ?_
    refine own_d0 29 (fun _ q => XS.goto X0.here hx rfl (pc0 := 25) (pc' := 29) rfl (hb hby d2_25) (by decide) (by decide) q) ?_
    exact own_retN (t := .boolean) X0 hx hrt (hb hby d2_29) (by simp) hlk (by decide) (by decide) e0 (⟨by have hv : own_al p1 = (1 : Int32) := (by first | (simp only [own_al, c51, ↓reduceIte]; done) | (simp [own_al, c51]; done)); rw [hv] <;> rfl, N0, rfl⟩)
  ·
    refine own_d2 6 (fun _ q => XS.icmpNo X0.here hx rfl (hb hby d2_3) rfl (flt c51).1 q) ?_
    refine own_tp (.int p1) 7 (fun _ q => XS.iloadN X0.here hx rfl (hb hby d2_6) rfl q) ?_
    refine own_tp (.int (13 : Int32)) 9 (fun _ q => XS.bipush X0.here hx rfl (hb hby d2_7) q) ?_
    by_cases c52 : (13 : Int32) < p1
    ·
      refine own_d2 24 (fun _ q => XS.icmpYes X0.here hx rfl (pc0 := 9) (pc' := 24) rfl (hb hby d2_9) rfl (tlt c52).2.2.1 (by decide) (by decide) q) ?_
      refine own_tp (.int (1 : Int32)) 25 (fun _ q => XS.iconst X0.here hx rfl (hb hby d2_24) q) ?_
      refine own_d0 29 (fun _ q => XS.goto X0.here hx rfl (pc0 := 25) (pc' := 29) rfl (hb hby d2_25) (by decide) (by decide) q) ?_
      exact own_retN (t := .boolean) X0 hx hrt (hb hby d2_29) (by simp) hlk (by decide) (by decide) e0 (⟨by have hv : own_al p1 = (1 : Int32) := (by first | (simp only [own_al, c51, c52, ↓reduceIte]; done) | (simp [own_al, c51, c52]; done)); rw [hv] <;> rfl, N0, rfl⟩)
    ·
      refine own_d2 12 (fun _ q => XS.icmpNo X0.here hx rfl (hb hby d2_9) rfl (flt c52).2.2.1 q) ?_
      refine own_tp (.int p1) 13 (fun _ q => XS.iloadN X0.here hx rfl (hb hby d2_12) rfl q) ?_
      refine own_tp (.int (10 : Int32)) 15 (fun _ q => XS.bipush X0.here hx rfl (hb hby d2_13) q) ?_
      by_cases c53 : p1 = (10 : Int32)
      ·
        refine own_d2 24 (fun _ q => XS.icmpYes X0.here hx rfl (pc0 := 15) (pc' := 24) rfl (hb hby d2_15) rfl (teq c53).1 (by decide) (by decide) q) ?_
        refine own_tp (.int (1 : Int32)) 25 (fun _ q => XS.iconst X0.here hx rfl (hb hby d2_24) q) ?_
        refine own_d0 29 (fun _ q => XS.goto X0.here hx rfl (pc0 := 25) (pc' := 29) rfl (hb hby d2_25) (by decide) (by decide) q) ?_
        exact own_retN (t := .boolean) X0 hx hrt (hb hby d2_29) (by simp) hlk (by decide) (by decide) e0 (⟨by have hv : own_al p1 = (1 : Int32) := (by first | (simp only [own_al, c51, c52, c53, ↓reduceIte]; done) | (simp [own_al, c51, c52, c53]; done)); rw [hv] <;> rfl, N0, rfl⟩)
      ·
        refine own_d2 18 (fun _ q => XS.icmpNo X0.here hx rfl (hb hby d2_15) rfl (feq c53).1 q) ?_
        refine own_tp (.int p1) 19 (fun _ q => XS.iloadN X0.here hx rfl (hb hby d2_18) rfl q) ?_
        refine own_tp (.int (13 : Int32)) 21 (fun _ q => XS.bipush X0.here hx rfl (hb hby d2_19) q) ?_
        by_cases c54 : p1 = (13 : Int32)
        ·
          refine own_d2 24 (fun _ q => XS.icmpNo X0.here hx rfl (hb hby d2_21) rfl (teq c54).2 q) ?_
          refine own_tp (.int (1 : Int32)) 25 (fun _ q => XS.iconst X0.here hx rfl (hb hby d2_24) q) ?_
          refine own_d0 29 (fun _ q => XS.goto X0.here hx rfl (pc0 := 25) (pc' := 29) rfl (hb hby d2_25) (by decide) (by decide) q) ?_
          exact own_retN (t := .boolean) X0 hx hrt (hb hby d2_29) (by simp) hlk (by decide) (by decide) e0 (⟨by have hv : own_al p1 = (1 : Int32) := (by first | (simp only [own_al, c51, c52, c53, c54, ↓reduceIte]; done) | (simp [own_al, c51, c52, c53, c54]; done)); rw [hv] <;> rfl, N0, rfl⟩)
        ·
          refine own_d2 28 (fun _ q => XS.icmpYes X0.here hx rfl (pc0 := 21) (pc' := 28) rfl (hb hby d2_21) rfl (feq c54).2 (by decide) (by decide) q) ?_
          refine own_tp (.int (0 : Int32)) 29 (fun _ q => XS.iconst X0.here hx rfl (hb hby d2_28) q) ?_
          exact own_retN (t := .boolean) X0 hx hrt (hb hby d2_29) (by simp) hlk (by decide) (by decide) e0 (⟨by have hv : own_al p1 = (0 : Int32) := (by first | (simp only [own_al, c51, c52, c53, c54, ↓reduceIte]; done) | (simp [own_al, c51, c52, c53, c54]; done)); rw [hv] <;> rfl, N0, rfl⟩)

def Q3 (cs : List Int32) (h0 : Heap) (n0 : Nat) (v : Option Value) (h : Heap) (L : List Loc) : Prop := v = some (.int (own_sp cs)) ∧ Fr n0 L ∧ h = h0

theorem d3_0 : decode prog_113_method_12_code 0 = .ok (.aload_n 0, 1) := by decide +kernel
theorem d3_1 : decode prog_113_method_12_code 1 = .ok (.bipush 9, 2) := by decide +kernel
theorem d3_3 : decode prog_113_method_12_code 3 = .ok (.invokevirtual 17, 3) := by decide +kernel
theorem d3_6 : decode prog_113_method_12_code 6 = .ok (.ifCond .ge 25, 3) := by decide +kernel
theorem d3_9 : decode prog_113_method_12_code 9 = .ok (.aload_n 0, 1) := by decide +kernel
theorem d3_10 : decode prog_113_method_12_code 10 = .ok (.bipush 11, 2) := by decide +kernel
theorem d3_12 : decode prog_113_method_12_code 12 = .ok (.invokevirtual 17, 3) := by decide +kernel
theorem d3_15 : decode prog_113_method_12_code 15 = .ok (.ifCond .ge 16, 3) := by decide +kernel
theorem d3_18 : decode prog_113_method_12_code 18 = .ok (.aload_n 0, 1) := by decide +kernel
theorem d3_19 : decode prog_113_method_12_code 19 = .ok (.bipush 12, 2) := by decide +kernel
theorem d3_21 : decode prog_113_method_12_code 21 = .ok (.invokevirtual 17, 3) := by decide +kernel
theorem d3_24 : decode prog_113_method_12_code 24 = .ok (.ifCond .ge 7, 3) := by decide +kernel
theorem d3_27 : decode prog_113_method_12_code 27 = .ok (.iconst 1, 1) := by decide +kernel
theorem d3_28 : decode prog_113_method_12_code 28 = .ok (.goto 4, 3) := by decide +kernel
theorem d3_31 : decode prog_113_method_12_code 31 = .ok (.iconst 0, 1) := by decide +kernel
theorem d3_32 : decode prog_113_method_12_code 32 = .ok (.ireturn, 1) := by decide +kernel
theorem pn3 : plainName "com/example/leastwise/leastwise/provisioning/WordLines" = true := by first | (simp [plainName, overriddenIn]; done) | decide +kernel
theorem pd3_0 : parseMethodDescriptor "(I)I" = some ⟨[.int], some .int⟩ := by decide +kernel
theorem ef3 (m : MethodId) (x0 : Addr) : entryFrame m #[(.ref x0)] 1 = mkF m 0 #[.val (.ref x0)] [] := by first | (simp [entryFrame, mkF, argsToLocals, Value.category]; done) | rfl
set_option maxRecDepth 65536 in
set_option maxHeartbeats 40000000 in
theorem rm3 (l : Launch) (Z : State) (a0 : Array Value) (hw : ∀ d ∈ tables_1, d.before a0 Z = true) (ws : List Jvm.Cond) (a1 b1 : Addr) (k1 : ClassId) (cs : List Int32) (h0 : Heap) (n0 : Nat) (hl : cs.length ≤ 1000) (hch : ∀ c ∈ cs, 0 ≤ c.toInt ∧ c.toInt ≤ 65535) (G1 : Int32) (US : own_US Z G1) (O0 : Old Z n0 h0) (G3 : Value) (rG3 : G3.isRef = true) (Sf : Sta Z Z.heap "jdk/internal/util/Preconditions" "SIOOBE_FORMATTER" "Ljava/util/function/BiFunction;" G3) (E1 : Exa Z h0 a1 "java/lang/String") (C1 : Fld Z h0 a1 "java/lang/String" "coder" "B" (.int (0 : Int32))) (L1 : Fld Z h0 a1 "java/lang/String" "value" "[B" (.ref b1)) (hcs : ∀ c ∈ cs, ¬ (255 : Int32) < c) (V1 : Arv Z h0 b1 k1 .byte (Int32.ofNat cs.length) (own_lows cs) (.int (0 : Int32))) :
    own_Met l (⟨"com/example/leastwise/leastwise/provisioning/WordLines", "spacesAlone", "(Ljava/lang/String;)Z"⟩ : MethodName) prog_113_method_12_code 1 (some .boolean) ws ({ frames := 4, cells := 0, slots := 0, locals := 59 } : Room) Z #[(.ref a1)] h0 (Q3 cs h0 n0) := by
  refine own_enter #[.val (.ref a1)] (plainFor_of_name pn3) (fun m => ef3 m a1) ?_
  intro p e s m below meth c s₁ hx hby hml hown hnm hZ hrt hlk X0 e0
  have N0 := Fr.nil n0
  refine own_tp (.ref a1) 1 (fun _ q => XS.aloadN X0.here hx rfl (hb hby d3_0) rfl rfl q) ?_
  refine own_tp (.int (9 : Int32)) 3 (fun _ q => XS.bipush X0.here hx rfl (hb hby d3_1) q) ?_
  obtain ⟨cq51, kq51, q51a, q51b, q51c⟩ := isOf hZ e0 E1
  obtain ⟨_, _, ⟨T51, L51, k51, n51⟩, -, X51, ⟨Lc51, hQ51, l51, y51, z51⟩, st51⟩ := X0.virtualBack hx (y := (⟨"java/lang/String", "indexOf", "(I)I"⟩ : MethodName)) (z := (⟨"java/lang/String", "indexOf", "(I)I"⟩ : MethodName)) hown (mvT hZ (hw _ (List.mem_of_getElem? (i := 35) rfl))) (mvT hZ (hw _ (List.mem_of_getElem? (i := 36) rfl))) (notFace_of_selects (args := #[]) (mvT hZ (hw _ (List.mem_of_getElem? (i := 38) rfl)))) (mvT hZ (hw _ (List.mem_of_getElem? (i := 38) rfl))) (mvT hZ (hw _ (List.mem_of_getElem? (i := 37) rfl))) (by decide) (backOf (W := 0) (rm117 l Z a0 hw [] a1 b1 k1 cs (9 : Int32) h0 n0 hl hch G1 US O0 G3 rG3 Sf E1 C1 L1 hcs V1 (by decide)) hZ (hw _ (List.mem_of_getElem? (i := 39) rfl)) (hw _ (List.mem_of_getElem? (i := 11) rfl)) (by decide) (by decide)) q51a q51c (g := (mkF m 3 #[.val (.ref a1)] [(.int (9 : Int32)), (.ref a1)])) rfl (by rw [hml]; rfl) (Steps.refl _) (argsL := [(.int (9 : Int32))]) (rest := []) (lenOf pd3_0 rfl) rfl (by show 2 * 0 + _ ≤ _; exact Nat.le_of_eq rfl) (hb hby d3_3) (fun _ _ => ⟨rfl, e0, (by decide : 0 + 0 ≤ _), (by decide : 0 + 0 ≤ _)⟩)
  dsimp only [Pt.U, Pt.locs, Pt.cells, Pt.slots] at X51 l51 y51 z51 st51 hQ51
  subst l51 y51 z51
  obtain ⟨r51, rfl, hR51, Nq51, eq51⟩ := hQ51
  have N51 := Fr.app N0 Nq51
  refine own_csR [(.int r51)] 6 st51 ?_
  by_cases c52 : r51 < (0 : Int32)
  ·
    refine own_d1 9 (fun _ q => XS.ifNo X51.here hx rfl (hb hby d3_6) rfl ((if0 _ _).trans (tlt c52).2.1) q) ?_
    refine own_tp (.ref a1) 10 (fun _ q => XS.aloadN X51.here hx rfl (hb hby d3_9) rfl rfl q) ?_
    refine own_tp (.int (11 : Int32)) 12 (fun _ q => XS.bipush X51.here hx rfl (hb hby d3_10) q) ?_
    obtain ⟨cq53, kq53, q53a, q53b, q53c⟩ := isOf hZ eq51 E1
    obtain ⟨_, _, ⟨T53, L53, k53, n53⟩, -, X53, ⟨Lc53, hQ53, l53, y53, z53⟩, st53⟩ := X51.virtualBack hx (y := (⟨"java/lang/String", "indexOf", "(I)I"⟩ : MethodName)) (z := (⟨"java/lang/String", "indexOf", "(I)I"⟩ : MethodName)) hown (mvT hZ (hw _ (List.mem_of_getElem? (i := 35) rfl))) (mvT hZ (hw _ (List.mem_of_getElem? (i := 36) rfl))) (notFace_of_selects (args := #[]) (mvT hZ (hw _ (List.mem_of_getElem? (i := 38) rfl)))) (mvT hZ (hw _ (List.mem_of_getElem? (i := 38) rfl))) (mvT hZ (hw _ (List.mem_of_getElem? (i := 37) rfl))) (by decide) (backOf (W := 0) (rm117 l Z a0 hw [] a1 b1 k1 cs (11 : Int32) h0 n0 hl hch G1 US O0 G3 rG3 Sf E1 C1 L1 hcs V1 (by decide)) hZ (hw _ (List.mem_of_getElem? (i := 39) rfl)) (hw _ (List.mem_of_getElem? (i := 11) rfl)) (by decide) (by decide)) q53a q53c (g := (mkF m 12 #[.val (.ref a1)] [(.int (11 : Int32)), (.ref a1)])) rfl (by rw [hml]; rfl) (Steps.refl _) (argsL := [(.int (11 : Int32))]) (rest := []) (lenOf pd3_0 rfl) rfl (by show 2 * 0 + _ ≤ _; exact Nat.le_of_eq rfl) (hb hby d3_12) (fun _ _ => ⟨rfl, eq51, (by decide : 0 + 0 ≤ _), (by decide : 0 + 0 ≤ _)⟩)
    dsimp only [Pt.U, Pt.locs, Pt.cells, Pt.slots] at X53 l53 y53 z53 st53 hQ53
    subst l53 y53 z53
    obtain ⟨r53, rfl, hR53, Nq53, eq53⟩ := hQ53
    have N53 := Fr.app N51 Nq53
    refine own_csR [(.int r53)] 15 st53 ?_
    by_cases c54 : r53 < (0 : Int32)
    ·
      refine own_d1 18 (fun _ q => XS.ifNo X53.here hx rfl (hb hby d3_15) rfl ((if0 _ _).trans (tlt c54).2.1) q) ?_
      refine own_tp (.ref a1) 19 (fun _ q => XS.aloadN X53.here hx rfl (hb hby d3_18) rfl rfl q) ?_
      refine own_tp (.int (12 : Int32)) 21 (fun _ q => XS.bipush X53.here hx rfl (hb hby d3_19) q) ?_
      obtain ⟨cq55, kq55, q55a, q55b, q55c⟩ := isOf hZ eq53 E1
      obtain ⟨_, _, ⟨T55, L55, k55, n55⟩, -, X55, ⟨Lc55, hQ55, l55, y55, z55⟩, st55⟩ := X53.virtualBack hx (y := (⟨"java/lang/String", "indexOf", "(I)I"⟩ : MethodName)) (z := (⟨"java/lang/String", "indexOf", "(I)I"⟩ : MethodName)) hown (mvT hZ (hw _ (List.mem_of_getElem? (i := 35) rfl))) (mvT hZ (hw _ (List.mem_of_getElem? (i := 36) rfl))) (notFace_of_selects (args := #[]) (mvT hZ (hw _ (List.mem_of_getElem? (i := 38) rfl)))) (mvT hZ (hw _ (List.mem_of_getElem? (i := 38) rfl))) (mvT hZ (hw _ (List.mem_of_getElem? (i := 37) rfl))) (by decide) (backOf (W := 0) (rm117 l Z a0 hw [] a1 b1 k1 cs (12 : Int32) h0 n0 hl hch G1 US O0 G3 rG3 Sf E1 C1 L1 hcs V1 (by decide)) hZ (hw _ (List.mem_of_getElem? (i := 39) rfl)) (hw _ (List.mem_of_getElem? (i := 11) rfl)) (by decide) (by decide)) q55a q55c (g := (mkF m 21 #[.val (.ref a1)] [(.int (12 : Int32)), (.ref a1)])) rfl (by rw [hml]; rfl) (Steps.refl _) (argsL := [(.int (12 : Int32))]) (rest := []) (lenOf pd3_0 rfl) rfl (by show 2 * 0 + _ ≤ _; exact Nat.le_of_eq rfl) (hb hby d3_21) (fun _ _ => ⟨rfl, eq53, (by decide : 0 + 0 ≤ _), (by decide : 0 + 0 ≤ _)⟩)
      dsimp only [Pt.U, Pt.locs, Pt.cells, Pt.slots] at X55 l55 y55 z55 st55 hQ55
      subst l55 y55 z55
      obtain ⟨r55, rfl, hR55, Nq55, eq55⟩ := hQ55
      have N55 := Fr.app N53 Nq55
      refine own_csR [(.int r55)] 24 st55 ?_
      by_cases c56 : r55 < (0 : Int32)
      ·
        refine own_d1 27 (fun _ q => XS.ifNo X55.here hx rfl (hb hby d3_24) rfl ((if0 _ _).trans (tlt c56).2.1) q) ?_
        refine own_tp (.int (1 : Int32)) 28 (fun _ q => XS.iconst X55.here hx rfl (hb hby d3_27) q) ?_
        refine own_d0 32 (fun _ q => XS.goto X55.here hx rfl (pc0 := 28) (pc' := 32) rfl (hb hby d3_28) (by decide) (by decide) q) ?_
        exact own_retN (t := .boolean) X55 hx hrt (hb hby d3_32) (by simp) hlk (by decide) (by decide) eq55 (⟨by rw [own_spA (own_Rn hR51 c52) (own_Rn hR53 c54) (own_Rn hR55 c56)]; rfl, N55, rfl⟩)
      ·
        refine own_d1 31 (fun _ q => XS.ifYes X55.here hx rfl (pc0 := 24) (pc' := 31) rfl (hb hby d3_24) rfl ((if0 _ _).trans (flt c56).2.1) (by decide) (by decide) q) ?_
        refine own_tp (.int (0 : Int32)) 32 (fun _ q => XS.iconst X55.here hx rfl (hb hby d3_31) q) ?_
        exact own_retN (t := .boolean) X55 hx hrt (hb hby d3_32) (by simp) hlk (by decide) (by decide) eq55 (⟨by rw [own_spB (own_Ry hR55 c56) (Or.inr (Or.inr rfl))]; rfl, N55, rfl⟩)
    ·
      refine own_d1 31 (fun _ q => XS.ifYes X53.here hx rfl (pc0 := 15) (pc' := 31) rfl (hb hby d3_15) rfl ((if0 _ _).trans (flt c54).2.1) (by decide) (by decide) q) ?_
      refine own_tp (.int (0 : Int32)) 32 (fun _ q => XS.iconst X53.here hx rfl (hb hby d3_31) q) ?_
      exact own_retN (t := .boolean) X53 hx hrt (hb hby d3_32) (by simp) hlk (by decide) (by decide) eq53 (⟨by rw [own_spB (own_Ry hR53 c54) (Or.inr (Or.inl rfl))]; rfl, N53, rfl⟩)
  ·
    refine own_d1 31 (fun _ q => XS.ifYes X51.here hx rfl (pc0 := 6) (pc' := 31) rfl (hb hby d3_6) rfl ((if0 _ _).trans (flt c52).2.1) (by decide) (by decide) q) ?_
    refine own_tp (.int (0 : Int32)) 32 (fun _ q => XS.iconst X51.here hx rfl (hb hby d3_31) q) ?_
    exact own_retN (t := .boolean) X51 hx hrt (hb hby d3_32) (by simp) hlk (by decide) (by decide) eq51 (⟨by rw [own_spB (own_Ry hR51 c52) (Or.inl rfl)]; rfl, N51, rfl⟩)

def Q4 (cs : List Int32) (h0 : Heap) (n0 : Nat) (v : Option Value) (h : Heap) (L : List Loc) : Prop := v = some (.int (own_sp cs)) ∧ Fr n0 L ∧ h = h0

theorem d4_0 : decode prog_113_method_12_code 0 = .ok (.aload_n 0, 1) := by decide +kernel
theorem d4_1 : decode prog_113_method_12_code 1 = .ok (.bipush 9, 2) := by decide +kernel
theorem d4_3 : decode prog_113_method_12_code 3 = .ok (.invokevirtual 17, 3) := by decide +kernel
theorem d4_6 : decode prog_113_method_12_code 6 = .ok (.ifCond .ge 25, 3) := by decide +kernel
theorem d4_9 : decode prog_113_method_12_code 9 = .ok (.aload_n 0, 1) := by decide +kernel
theorem d4_10 : decode prog_113_method_12_code 10 = .ok (.bipush 11, 2) := by decide +kernel
theorem d4_12 : decode prog_113_method_12_code 12 = .ok (.invokevirtual 17, 3) := by decide +kernel
theorem d4_15 : decode prog_113_method_12_code 15 = .ok (.ifCond .ge 16, 3) := by decide +kernel
theorem d4_18 : decode prog_113_method_12_code 18 = .ok (.aload_n 0, 1) := by decide +kernel
theorem d4_19 : decode prog_113_method_12_code 19 = .ok (.bipush 12, 2) := by decide +kernel
theorem d4_21 : decode prog_113_method_12_code 21 = .ok (.invokevirtual 17, 3) := by decide +kernel
theorem d4_24 : decode prog_113_method_12_code 24 = .ok (.ifCond .ge 7, 3) := by decide +kernel
theorem d4_27 : decode prog_113_method_12_code 27 = .ok (.iconst 1, 1) := by decide +kernel
theorem d4_28 : decode prog_113_method_12_code 28 = .ok (.goto 4, 3) := by decide +kernel
theorem d4_31 : decode prog_113_method_12_code 31 = .ok (.iconst 0, 1) := by decide +kernel
theorem d4_32 : decode prog_113_method_12_code 32 = .ok (.ireturn, 1) := by decide +kernel
theorem pn4 : plainName "com/example/leastwise/leastwise/provisioning/WordLines" = true := by first | (simp [plainName, overriddenIn]; done) | decide +kernel
theorem pd4_0 : parseMethodDescriptor "(I)I" = some ⟨[.int], some .int⟩ := by decide +kernel
theorem ef4 (m : MethodId) (x0 : Addr) : entryFrame m #[(.ref x0)] 1 = mkF m 0 #[.val (.ref x0)] [] := by first | (simp [entryFrame, mkF, argsToLocals, Value.category]; done) | rfl
set_option maxRecDepth 65536 in
set_option maxHeartbeats 40000000 in
theorem rm4 (l : Launch) (Z : State) (a0 : Array Value) (hw : ∀ d ∈ tables_1, d.before a0 Z = true) (ws : List Jvm.Cond) (a1 b1 : Addr) (k1 : ClassId) (cs : List Int32) (h0 : Heap) (n0 : Nat) (hl : cs.length ≤ 1000) (hch : ∀ c ∈ cs, 0 ≤ c.toInt ∧ c.toInt ≤ 65535) (G1 : Int32) (US : own_US Z G1) (O0 : Old Z n0 h0) (G3 : Value) (rG3 : G3.isRef = true) (Sf : Sta Z Z.heap "jdk/internal/util/Preconditions" "SIOOBE_FORMATTER" "Ljava/util/function/BiFunction;" G3) (E1 : Exa Z h0 a1 "java/lang/String") (C1 : Fld Z h0 a1 "java/lang/String" "coder" "B" (.int (1 : Int32))) (L1 : Fld Z h0 a1 "java/lang/String" "value" "[B" (.ref b1)) (V1 : Arv Z h0 b1 k1 .byte (Int32.ofNat (2 * cs.length)) (own_wide cs) (.int (0 : Int32))) :
    own_Met l (⟨"com/example/leastwise/leastwise/provisioning/WordLines", "spacesAlone", "(Ljava/lang/String;)Z"⟩ : MethodName) prog_113_method_12_code 1 (some .boolean) ws ({ frames := 7, cells := 0, slots := 0, locals := 102 } : Room) Z #[(.ref a1)] h0 (Q4 cs h0 n0) := by
  refine own_enter #[.val (.ref a1)] (plainFor_of_name pn4) (fun m => ef4 m a1) ?_
  intro p e s m below meth c s₁ hx hby hml hown hnm hZ hrt hlk X0 e0
  have N0 := Fr.nil n0
  refine own_tp (.ref a1) 1 (fun _ q => XS.aloadN X0.here hx rfl (hb hby d4_0) rfl rfl q) ?_
  refine own_tp (.int (9 : Int32)) 3 (fun _ q => XS.bipush X0.here hx rfl (hb hby d4_1) q) ?_
  obtain ⟨cq51, kq51, q51a, q51b, q51c⟩ := isOf hZ e0 E1
  obtain ⟨_, _, ⟨T51, L51, k51, n51⟩, -, X51, ⟨Lc51, hQ51, l51, y51, z51⟩, st51⟩ := X0.virtualBack hx (y := (⟨"java/lang/String", "indexOf", "(I)I"⟩ : MethodName)) (z := (⟨"java/lang/String", "indexOf", "(I)I"⟩ : MethodName)) hown (mvT hZ (hw _ (List.mem_of_getElem? (i := 35) rfl))) (mvT hZ (hw _ (List.mem_of_getElem? (i := 36) rfl))) (notFace_of_selects (args := #[]) (mvT hZ (hw _ (List.mem_of_getElem? (i := 38) rfl)))) (mvT hZ (hw _ (List.mem_of_getElem? (i := 38) rfl))) (mvT hZ (hw _ (List.mem_of_getElem? (i := 37) rfl))) (by decide) (backOf (W := 0) (rm122 l Z a0 hw [] a1 b1 k1 cs (9 : Int32) h0 n0 hl hch G1 US O0 G3 rG3 Sf E1 C1 L1 V1 (by decide)) hZ (hw _ (List.mem_of_getElem? (i := 39) rfl)) (hw _ (List.mem_of_getElem? (i := 11) rfl)) (by decide) (by decide)) q51a q51c (g := (mkF m 3 #[.val (.ref a1)] [(.int (9 : Int32)), (.ref a1)])) rfl (by rw [hml]; rfl) (Steps.refl _) (argsL := [(.int (9 : Int32))]) (rest := []) (lenOf pd4_0 rfl) rfl (by show 2 * 0 + _ ≤ _; exact Nat.le_of_eq rfl) (hb hby d4_3) (fun _ _ => ⟨rfl, e0, (by decide : 0 + 0 ≤ _), (by decide : 0 + 0 ≤ _)⟩)
  dsimp only [Pt.U, Pt.locs, Pt.cells, Pt.slots] at X51 l51 y51 z51 st51 hQ51
  subst l51 y51 z51
  obtain ⟨r51, rfl, hR51, Nq51, eq51⟩ := hQ51
  have N51 := Fr.app N0 Nq51
  refine own_csR [(.int r51)] 6 st51 ?_
  by_cases c52 : r51 < (0 : Int32)
  ·
    refine own_d1 9 (fun _ q => XS.ifNo X51.here hx rfl (hb hby d4_6) rfl ((if0 _ _).trans (tlt c52).2.1) q) ?_
    refine own_tp (.ref a1) 10 (fun _ q => XS.aloadN X51.here hx rfl (hb hby d4_9) rfl rfl q) ?_
    refine own_tp (.int (11 : Int32)) 12 (fun _ q => XS.bipush X51.here hx rfl (hb hby d4_10) q) ?_
    obtain ⟨cq53, kq53, q53a, q53b, q53c⟩ := isOf hZ eq51 E1
    obtain ⟨_, _, ⟨T53, L53, k53, n53⟩, -, X53, ⟨Lc53, hQ53, l53, y53, z53⟩, st53⟩ := X51.virtualBack hx (y := (⟨"java/lang/String", "indexOf", "(I)I"⟩ : MethodName)) (z := (⟨"java/lang/String", "indexOf", "(I)I"⟩ : MethodName)) hown (mvT hZ (hw _ (List.mem_of_getElem? (i := 35) rfl))) (mvT hZ (hw _ (List.mem_of_getElem? (i := 36) rfl))) (notFace_of_selects (args := #[]) (mvT hZ (hw _ (List.mem_of_getElem? (i := 38) rfl)))) (mvT hZ (hw _ (List.mem_of_getElem? (i := 38) rfl))) (mvT hZ (hw _ (List.mem_of_getElem? (i := 37) rfl))) (by decide) (backOf (W := 0) (rm122 l Z a0 hw [] a1 b1 k1 cs (11 : Int32) h0 n0 hl hch G1 US O0 G3 rG3 Sf E1 C1 L1 V1 (by decide)) hZ (hw _ (List.mem_of_getElem? (i := 39) rfl)) (hw _ (List.mem_of_getElem? (i := 11) rfl)) (by decide) (by decide)) q53a q53c (g := (mkF m 12 #[.val (.ref a1)] [(.int (11 : Int32)), (.ref a1)])) rfl (by rw [hml]; rfl) (Steps.refl _) (argsL := [(.int (11 : Int32))]) (rest := []) (lenOf pd4_0 rfl) rfl (by show 2 * 0 + _ ≤ _; exact Nat.le_of_eq rfl) (hb hby d4_12) (fun _ _ => ⟨rfl, eq51, (by decide : 0 + 0 ≤ _), (by decide : 0 + 0 ≤ _)⟩)
    dsimp only [Pt.U, Pt.locs, Pt.cells, Pt.slots] at X53 l53 y53 z53 st53 hQ53
    subst l53 y53 z53
    obtain ⟨r53, rfl, hR53, Nq53, eq53⟩ := hQ53
    have N53 := Fr.app N51 Nq53
    refine own_csR [(.int r53)] 15 st53 ?_
    by_cases c54 : r53 < (0 : Int32)
    ·
      refine own_d1 18 (fun _ q => XS.ifNo X53.here hx rfl (hb hby d4_15) rfl ((if0 _ _).trans (tlt c54).2.1) q) ?_
      refine own_tp (.ref a1) 19 (fun _ q => XS.aloadN X53.here hx rfl (hb hby d4_18) rfl rfl q) ?_
      refine own_tp (.int (12 : Int32)) 21 (fun _ q => XS.bipush X53.here hx rfl (hb hby d4_19) q) ?_
      obtain ⟨cq55, kq55, q55a, q55b, q55c⟩ := isOf hZ eq53 E1
      obtain ⟨_, _, ⟨T55, L55, k55, n55⟩, -, X55, ⟨Lc55, hQ55, l55, y55, z55⟩, st55⟩ := X53.virtualBack hx (y := (⟨"java/lang/String", "indexOf", "(I)I"⟩ : MethodName)) (z := (⟨"java/lang/String", "indexOf", "(I)I"⟩ : MethodName)) hown (mvT hZ (hw _ (List.mem_of_getElem? (i := 35) rfl))) (mvT hZ (hw _ (List.mem_of_getElem? (i := 36) rfl))) (notFace_of_selects (args := #[]) (mvT hZ (hw _ (List.mem_of_getElem? (i := 38) rfl)))) (mvT hZ (hw _ (List.mem_of_getElem? (i := 38) rfl))) (mvT hZ (hw _ (List.mem_of_getElem? (i := 37) rfl))) (by decide) (backOf (W := 0) (rm122 l Z a0 hw [] a1 b1 k1 cs (12 : Int32) h0 n0 hl hch G1 US O0 G3 rG3 Sf E1 C1 L1 V1 (by decide)) hZ (hw _ (List.mem_of_getElem? (i := 39) rfl)) (hw _ (List.mem_of_getElem? (i := 11) rfl)) (by decide) (by decide)) q55a q55c (g := (mkF m 21 #[.val (.ref a1)] [(.int (12 : Int32)), (.ref a1)])) rfl (by rw [hml]; rfl) (Steps.refl _) (argsL := [(.int (12 : Int32))]) (rest := []) (lenOf pd4_0 rfl) rfl (by show 2 * 0 + _ ≤ _; exact Nat.le_of_eq rfl) (hb hby d4_21) (fun _ _ => ⟨rfl, eq53, (by decide : 0 + 0 ≤ _), (by decide : 0 + 0 ≤ _)⟩)
      dsimp only [Pt.U, Pt.locs, Pt.cells, Pt.slots] at X55 l55 y55 z55 st55 hQ55
      subst l55 y55 z55
      obtain ⟨r55, rfl, hR55, Nq55, eq55⟩ := hQ55
      have N55 := Fr.app N53 Nq55
      refine own_csR [(.int r55)] 24 st55 ?_
      by_cases c56 : r55 < (0 : Int32)
      ·
        refine own_d1 27 (fun _ q => XS.ifNo X55.here hx rfl (hb hby d4_24) rfl ((if0 _ _).trans (tlt c56).2.1) q) ?_
        refine own_tp (.int (1 : Int32)) 28 (fun _ q => XS.iconst X55.here hx rfl (hb hby d4_27) q) ?_
        refine own_d0 32 (fun _ q => XS.goto X55.here hx rfl (pc0 := 28) (pc' := 32) rfl (hb hby d4_28) (by decide) (by decide) q) ?_
        exact own_retN (t := .boolean) X55 hx hrt (hb hby d4_32) (by simp) hlk (by decide) (by decide) eq55 (⟨by rw [own_spA (own_Rn hR51 c52) (own_Rn hR53 c54) (own_Rn hR55 c56)]; rfl, N55, rfl⟩)
      ·
        refine own_d1 31 (fun _ q => XS.ifYes X55.here hx rfl (pc0 := 24) (pc' := 31) rfl (hb hby d4_24) rfl ((if0 _ _).trans (flt c56).2.1) (by decide) (by decide) q) ?_
        refine own_tp (.int (0 : Int32)) 32 (fun _ q => XS.iconst X55.here hx rfl (hb hby d4_31) q) ?_
        exact own_retN (t := .boolean) X55 hx hrt (hb hby d4_32) (by simp) hlk (by decide) (by decide) eq55 (⟨by rw [own_spB (own_Ry hR55 c56) (Or.inr (Or.inr rfl))]; rfl, N55, rfl⟩)
    ·
      refine own_d1 31 (fun _ q => XS.ifYes X53.here hx rfl (pc0 := 15) (pc' := 31) rfl (hb hby d4_15) rfl ((if0 _ _).trans (flt c54).2.1) (by decide) (by decide) q) ?_
      refine own_tp (.int (0 : Int32)) 32 (fun _ q => XS.iconst X53.here hx rfl (hb hby d4_31) q) ?_
      exact own_retN (t := .boolean) X53 hx hrt (hb hby d4_32) (by simp) hlk (by decide) (by decide) eq53 (⟨by rw [own_spB (own_Ry hR53 c54) (Or.inr (Or.inl rfl))]; rfl, N53, rfl⟩)
  ·
    refine own_d1 31 (fun _ q => XS.ifYes X51.here hx rfl (pc0 := 6) (pc' := 31) rfl (hb hby d4_6) rfl ((if0 _ _).trans (flt c52).2.1) (by decide) (by decide) q) ?_
    refine own_tp (.int (0 : Int32)) 32 (fun _ q => XS.iconst X51.here hx rfl (hb hby d4_31) q) ?_
    exact own_retN (t := .boolean) X51 hx hrt (hb hby d4_32) (by simp) hlk (by decide) (by decide) eq51 (⟨by rw [own_spB (own_Ry hR51 c52) (Or.inl rfl)]; rfl, N51, rfl⟩)

def Q5 (Z : State) (x1 : Addr) (h0 : Heap) (n0 : Nat) (v : Option Value) (h : Heap) (L : List Loc) : Prop := v = none ∧ Fr n0 L ∧ Keep h0 h [x1] ∧ ∃ (t : Addr) (kb : ClassId) (cd N : Int32) (vs : List Value), Exa Z h x1 "java/lang/String" ∧ Fld Z h x1 "java/lang/String" "value" "[B" (.ref t) ∧ Fld Z h x1 "java/lang/String" "coder" "B" (.int cd) ∧ Arv Z h t kb .byte N vs (.int (0 : Int32)) ∧ own_Cod [] cd N vs

theorem d5_0 : decode jdk_42_method_149_code 0 = .ok (.aload_n 0, 1) := by decide +kernel
theorem d5_1 : decode jdk_42_method_149_code 1 = .ok (.invokespecial 1, 3) := by decide +kernel
theorem d5_4 : decode jdk_42_method_149_code 4 = .ok (.iload_n 3, 1) := by decide +kernel
theorem d5_5 : decode jdk_42_method_149_code 5 = .ok (.ifCond .ne 22, 3) := by decide +kernel
theorem d5_8 : decode jdk_42_method_149_code 8 = .ok (.aload_n 0, 1) := by decide +kernel
theorem d5_9 : decode jdk_42_method_149_code 9 = .ok (.ldc 7, 2) := by decide +kernel
theorem d5_11 : decode jdk_42_method_149_code 11 = .ok (.getfield 9, 3) := by decide +kernel
theorem d5_14 : decode jdk_42_method_149_code 14 = .ok (.putfield 9, 3) := by decide +kernel
theorem d5_17 : decode jdk_42_method_149_code 17 = .ok (.aload_n 0, 1) := by decide +kernel
theorem d5_18 : decode jdk_42_method_149_code 18 = .ok (.ldc 7, 2) := by decide +kernel
theorem d5_20 : decode jdk_42_method_149_code 20 = .ok (.getfield 15, 3) := by decide +kernel
theorem d5_23 : decode jdk_42_method_149_code 23 = .ok (.putfield 15, 3) := by decide +kernel
theorem d5_26 : decode jdk_42_method_149_code 26 = .ok (.return_, 1) := by decide +kernel
theorem pn5 : plainName "java/lang/String" = true := by first | (simp [plainName, overriddenIn]; done) | decide +kernel
theorem ef5 (m : MethodId) (x0 : Addr) (x1 : Addr) (x2 : Int32) (x3 : Int32) : entryFrame m #[(.ref x0), (.ref x1), (.int x2), (.int x3), .null] 6 = mkF m 0 #[.val (.ref x0), .val (.ref x1), .val (.int x2), .val (.int x3), .val .null, .unset] [] := by first | (simp [entryFrame, mkF, argsToLocals, Value.category]; done) | rfl
set_option maxRecDepth 65536 in
set_option maxHeartbeats 40000000 in
theorem rm5 (l : Launch) (Z : State) (a0 : Array Value) (hw : ∀ d ∈ tables_1, d.before a0 Z = true) (ws : List Jvm.Cond) (x1 a1 : Addr) (h0 : Heap) (n0 : Nat) (hE : EW Z a0 own_EL) (Z0 : n0 ≤ h0.size) (g1 : n0 ≤ x1) (E1 : Exa Z h0 x1 "java/lang/String") (F1 : Fld Z h0 x1 "java/lang/String" "value" "[B" .null) (F2 : Fld Z h0 x1 "java/lang/String" "coder" "B" (.int (0 : Int32))) (G1 : Int32) (US : own_US Z G1) (O0 : Old Z n0 h0) :
    own_MetW own_EL l (⟨"java/lang/String", "<init>", "([CIILjava/lang/Void;)V"⟩ : MethodName) jdk_42_method_149_code 6 none ws ({ frames := 1, cells := 4, slots := 8, locals := 12 } : Room) Z #[(.ref x1), (.ref a1), (.int (0 : Int32)), (.int (0 : Int32)), .null] h0 (Q5 Z x1 h0 n0) := by
  refine own_enterW #[.val (.ref x1), .val (.ref a1), .val (.int (0 : Int32)), .val (.int (0 : Int32)), .val .null, .unset] (plainFor_of_name pn5) (fun m => ef5 m x1 a1 (0 : Int32) (0 : Int32)) hE ?_
  intro p e s m below meth c s₁ hx hby hml hown hnm hZ hrt hlk X0 e0 Wd0
  have N0 := Fr.nil n0
  have wS := own_wS hw
  have G0 : Safe Z own_EL s.vm h0 x1 := own_safe0 hZ.alike E1 F1
  refine own_tp (.ref x1) 1 (fun _ q => XS.aloadN X0.here hx rfl (hb hby d5_0) rfl rfl q) ?_
  obtain ⟨T51, X51, e51, st51⟩ := initO X0 hx hZ hown (hw _ (List.mem_of_getElem? (i := 20) rfl)) (hw _ (List.mem_of_getElem? (i := 21) rfl)) (hw _ (List.mem_of_getElem? (i := 22) rfl)) e0 (g := (mkF m 1 #[.val (.ref x1), .val (.ref a1), .val (.int (0 : Int32)), .val (.int (0 : Int32)), .val .null, .unset] [(.ref x1)])) rfl (by rw [hml]; rfl) rfl (hb hby d5_1) (by decide) (W := 0) (by show 2 * 0 + _ ≤ _; exact Nat.le_of_eq rfl) (by decide)
  refine own_d1 4 st51 ?_
  refine own_tp (.int (0 : Int32)) 5 (fun _ q => XS.iloadN X51.here hx rfl (hb hby d5_4) rfl q) ?_
  refine own_d1 8 (fun _ q => XS.ifNo X51.here hx rfl (hb hby d5_5) rfl ((if0 _ _).trans (teq (by decide : (0 : Int32) = (0 : Int32))).2) q) ?_
  refine own_tp (.ref x1) 9 (fun _ q => XS.aloadN X51.here hx rfl (hb hby d5_8) rfl rfl q) ?_
  obtain ⟨b52, T52, h52, bb52, kk52, X52, e52, E52, Wd52, ho52, A52, Cd52, Vl52, V52, Ch52, Sf52, st52⟩ := own_ldc X51 hx Wd0 hown (hw _ (List.mem_of_getElem? (i := 23) rfl)) wS e51 (by simp [own_EL]) (vs := []) (z := (0 : Int32)) ⟨by decide, by decide⟩ (by decide) rfl (g := (mkF m 9 #[.val (.ref x1), .val (.ref a1), .val (.int (0 : Int32)), .val (.int (0 : Int32)), .val .null, .unset] [(.ref x1)])) rfl (hb hby d5_9) (n := 0) (by decide) (by decide) (by decide) (by decide)
  have hZ52 : Z.Warmed39 (s.setVm T52.vm).vm := Wd52.hZ
  have hown52 : (s.setVm T52.vm).vm.findClass "java/lang/String" = some m.cls := ho52
  have O52 := Old.ext O0 E52
  have K52 : Keep h0 h52 [x1] := (Keep.refl h0 [x1]).ext E52
  have Z52 : n0 ≤ h52.size := Nat.le_trans Z0 E52.1
  have G52_x1 := CHr.safe Ch52 E1.lt G0
  have nl52_x1 := Sf52 x1 G52_x1
  refine own_tp (.ref b52) 11 st52 ?_
  obtain ⟨T53, X53, e53, st53⟩ := getF X52 hx hZ52 hown52 (host := "") (Or.inl (hw _ (List.mem_of_getElem? (i := 29) rfl))) Via.refl e52 Vl52 (g := (mkF m 11 #[.val (.ref x1), .val (.ref a1), .val (.int (0 : Int32)), .val (.int (0 : Int32)), .val .null, .unset] [(.ref b52), (.ref x1)])) rfl rfl (hb hby d5_11)
  refine own_t1 (.ref bb52) 14 st53 ?_
  have f54 := (F1.ext E52)
  have f55 := (E1.ext E52)
  obtain ⟨T56, h56, X56, e56, W56, st56⟩ := putF X53 hx hZ52 hown52 (host := "") (Or.inl (hw _ (List.mem_of_getElem? (i := 29) rfl))) Via.refl e53 f54 f55 (Or.inr ⟨(hw _ (List.mem_of_getElem? (i := 25) rfl)), rfl, hnm⟩) (hw _ (List.mem_of_getElem? (i := 10) rfl)) (ty := (.array .byte)) (by decide) rfl rfl (g := (mkF m 14 #[.val (.ref x1), .val (.ref a1), .val (.int (0 : Int32)), .val (.int (0 : Int32)), .val .null, .unset] [(.ref bb52), (.ref x1)])) rfl rfl (hb hby d5_14)
  have Fw56 := f54.same W56
  have N56 := Fr.snoc X56 N0 g1
  have O56 := Old.wr O52 W56 g1
  have K56 : Keep h0 h56 [x1] := K52.wr W56 (Or.inl (List.mem_of_getElem? (i := 0) rfl))
  have Z56 : n0 ≤ h56.size := Nat.le_trans Z52 (Nat.le_of_eq W56.size.symm)
  have Wd56 := Wd52.wr W56 G52_x1
  refine own_d2 17 st56 ?_
  refine own_tp (.ref x1) 18 (fun _ q => XS.aloadN X56.here hx rfl (hb hby d5_17) rfl rfl q) ?_
  have f58 := (Safe.wr W56 G52_x1 Wd52.chv G52_x1)
  have f59 := (f55.wr W56)
  obtain ⟨b57, T57, h57, bb57, kk57, X57, e57, E57, Wd57, ho57, A57, Cd57, Vl57, V57, Ch57, Sf57, st57⟩ := own_ldc X56 hx Wd56 hown52 (hw _ (List.mem_of_getElem? (i := 23) rfl)) wS e56 (by simp [own_EL]) (vs := []) (z := (0 : Int32)) ⟨by decide, by decide⟩ (by decide) rfl (g := (mkF m 18 #[.val (.ref x1), .val (.ref a1), .val (.int (0 : Int32)), .val (.int (0 : Int32)), .val .null, .unset] [(.ref x1)])) rfl (hb hby d5_18) (n := 0) (by decide) (by decide) (by decide) (by decide)
  have hZ57 : Z.Warmed39 (s.setVm T57.vm).vm := Wd57.hZ
  have hown57 : (s.setVm T57.vm).vm.findClass "java/lang/String" = some m.cls := ho57
  have O57 := Old.ext O56 E57
  have K57 : Keep h0 h57 [x1] := K56.ext E57
  have Z57 : n0 ≤ h57.size := Nat.le_trans Z56 E57.1
  have G57_x1 := CHr.safe Ch57 f59.lt f58
  have nl57_x1 := Sf57 x1 G57_x1
  refine own_tp (.ref b57) 20 st57 ?_
  obtain ⟨T60, X60, e60, st60⟩ := getF X57 hx hZ57 hown57 (host := "") (Or.inl (hw _ (List.mem_of_getElem? (i := 30) rfl))) Via.refl e57 Cd57 (g := (mkF m 20 #[.val (.ref x1), .val (.ref a1), .val (.int (0 : Int32)), .val (.int (0 : Int32)), .val .null, .unset] [(.ref b57), (.ref x1)])) rfl rfl (hb hby d5_20)
  refine own_t1 (.int (0 : Int32)) 23 st60 ?_
  have f61 := (((F2.ext E52).other W56 (Or.inr (slot_ne (Or.inr (hw _ (List.mem_of_getElem? (i := 26) rfl))) (Or.inr (hw _ (List.mem_of_getElem? (i := 25) rfl))) (by decide) (t := .byte) (t' := (.array .byte)) (by decide) (by decide)))).ext E57)
  have f62 := (f59.ext E57)
  obtain ⟨T63, h63, X63, e63, W63, st63⟩ := putFN X60 hx hZ57 hown57 (hw _ (List.mem_of_getElem? (i := 30) rfl)) Via.refl e60 f61 f62 (Or.inr ⟨(hw _ (List.mem_of_getElem? (i := 26) rfl)), rfl, hnm⟩) (hw _ (List.mem_of_getElem? (i := 10) rfl)) (ty := .byte) (v' := (.int (0 : Int32))) (by decide) rfl rfl (g := (mkF m 23 #[.val (.ref x1), .val (.ref a1), .val (.int (0 : Int32)), .val (.int (0 : Int32)), .val .null, .unset] [(.int (0 : Int32)), (.ref x1)])) rfl rfl (hb hby d5_23)
  have Fw63 := f61.same W63
  have N63 := Fr.snoc X63 N56 g1
  have O63 := Old.wr O57 W63 g1
  have K63 : Keep h0 h63 [x1] := K57.wr W63 (Or.inl (List.mem_of_getElem? (i := 0) rfl))
  have Z63 : n0 ≤ h63.size := Nat.le_trans Z57 (Nat.le_of_eq W63.size.symm)
  have Wd63 := Wd57.wr W63 G57_x1
  refine own_d2 26 st63 ?_
  have f64 := (f62.wr W63)
  have f65 := ((Fw56.ext E57).other W63 (Or.inr (slot_ne (Or.inr (hw _ (List.mem_of_getElem? (i := 25) rfl))) (Or.inr (hw _ (List.mem_of_getElem? (i := 26) rfl))) (by decide) (t := (.array .byte)) (t' := .byte) (by decide) (by decide))))
  have f66 := (((V52.other W56 (Ne.symm nl52_x1.2)).ext E57).other W63 (Ne.symm nl52_x1.2))
  exact own_retVW X63 hx hrt (hb hby d5_26) hlk (by decide) (by decide) e63 Wd63 (⟨rfl, N63, K63, bb52, _, _, _, _, f64, f65, Fw63, f66, Or.inl ⟨rfl, rfl, rfl, by simp⟩⟩)

def Q6 (Z : State) (x1 : Addr) (h0 : Heap) (n0 : Nat) (v : Option Value) (h : Heap) (L : List Loc) : Prop := v = none ∧ Fr n0 L ∧ Keep h0 h [x1] ∧ ∃ (t : Addr) (kb : ClassId) (cd N : Int32) (vs : List Value), Exa Z h x1 "java/lang/String" ∧ Fld Z h x1 "java/lang/String" "value" "[B" (.ref t) ∧ Fld Z h x1 "java/lang/String" "coder" "B" (.int cd) ∧ Arv Z h t kb .byte N vs (.int (0 : Int32)) ∧ own_Cod [] cd N vs

theorem d6_0 : decode jdk_42_method_3_code 0 = .ok (.aload_n 0, 1) := by decide +kernel
theorem d6_1 : decode jdk_42_method_3_code 1 = .ok (.aload_n 1, 1) := by decide +kernel
theorem d6_2 : decode jdk_42_method_3_code 2 = .ok (.iconst 0, 1) := by decide +kernel
theorem d6_3 : decode jdk_42_method_3_code 3 = .ok (.aload_n 1, 1) := by decide +kernel
theorem d6_4 : decode jdk_42_method_3_code 4 = .ok (.arraylength, 1) := by decide +kernel
theorem d6_5 : decode jdk_42_method_3_code 5 = .ok (.aconst_null, 1) := by decide +kernel
theorem d6_6 : decode jdk_42_method_3_code 6 = .ok (.invokespecial 27, 3) := by decide +kernel
theorem d6_9 : decode jdk_42_method_3_code 9 = .ok (.return_, 1) := by decide +kernel
theorem pn6 : plainName "java/lang/String" = true := by first | (simp [plainName, overriddenIn]; done) | decide +kernel
theorem pd6_0 : parseMethodDescriptor "([CIILjava/lang/Void;)V" = some ⟨[(.array .char), .int, .int, (.object "java/lang/Void")], none⟩ := by decide +kernel
theorem ef6 (m : MethodId) (x0 : Addr) (x1 : Addr) : entryFrame m #[(.ref x0), (.ref x1)] 2 = mkF m 0 #[.val (.ref x0), .val (.ref x1)] [] := by first | (simp [entryFrame, mkF, argsToLocals, Value.category]; done) | rfl
set_option maxRecDepth 65536 in
set_option maxHeartbeats 40000000 in
theorem rm6 (l : Launch) (Z : State) (a0 : Array Value) (hw : ∀ d ∈ tables_1, d.before a0 Z = true) (ws : List Jvm.Cond) (x1 a1 : Addr) (k1 : ClassId) (h0 : Heap) (n0 : Nat) (hE : EW Z a0 own_EL) (Z0 : n0 ≤ h0.size) (g1 : n0 ≤ x1) (E1 : Exa Z h0 x1 "java/lang/String") (F1 : Fld Z h0 x1 "java/lang/String" "value" "[B" .null) (F2 : Fld Z h0 x1 "java/lang/String" "coder" "B" (.int (0 : Int32))) (G1 : Int32) (US : own_US Z G1) (O0 : Old Z n0 h0) (V1 : Arv Z h0 a1 k1 .char (0 : Int32) [] (.int (0 : Int32))) :
    own_MetW own_EL l (⟨"java/lang/String", "<init>", "([C)V"⟩ : MethodName) jdk_42_method_3_code 2 none ws ({ frames := 2, cells := 4, slots := 8, locals := 29 } : Room) Z #[(.ref x1), (.ref a1)] h0 (Q6 Z x1 h0 n0) := by
  refine own_enterW #[.val (.ref x1), .val (.ref a1)] (plainFor_of_name pn6) (fun m => ef6 m x1 a1) hE ?_
  intro p e s m below meth c s₁ hx hby hml hown hnm hZ hrt hlk X0 e0 Wd0
  have N0 := Fr.nil n0
  have wS := own_wS hw
  refine own_tp (.ref x1) 1 (fun _ q => XS.aloadN X0.here hx rfl (hb hby d6_0) rfl rfl q) ?_
  refine own_tp (.ref a1) 2 (fun _ q => XS.aloadN X0.here hx rfl (hb hby d6_1) rfl rfl q) ?_
  refine own_tp (.int (0 : Int32)) 3 (fun _ q => XS.iconst X0.here hx rfl (hb hby d6_2) q) ?_
  refine own_tp (.ref a1) 4 (fun _ q => XS.aloadN X0.here hx rfl (hb hby d6_3) rfl rfl q) ?_
  obtain ⟨cl51, Ar51, -, Sz51, Nn51, -, -⟩ := (id V1)
  refine own_t1 (.int (0 : Int32)) 5 (fun t q => X0.arraylength hx (by rw [e0]; exact Ar51.1) (State.isArrayOf_alike hZ.alike Ar51.2.1) (g := (mkF m 4 #[.val (.ref x1), .val (.ref a1)] [(.ref a1), (.int (0 : Int32)), (.ref a1), (.ref x1)])) rfl rfl (hb hby d6_4) _ (by rw [len_of Sz51 Nn51]; exact q)) ?_
  refine own_tp .null 6 (fun _ q => XS.aconstNull X0.here hx rfl (hb hby d6_5) q) ?_
  obtain ⟨_, _, ⟨T52, L52, k52, n52⟩, -, X52, hS52, -, ⟨Lc52, hQ52, l52, y52, z52, Ch52⟩, st52⟩ := X0.specialBackS hx (y := (⟨"java/lang/String", "<init>", "([CIILjava/lang/Void;)V"⟩ : MethodName)) rfl hown (mvT hZ (hw _ (List.mem_of_getElem? (i := 16) rfl))) (mvT hZ (hw _ (List.mem_of_getElem? (i := 17) rfl))) (mvT hZ (hw _ (List.mem_of_getElem? (i := 19) rfl))) (by decide) (backOfSH (W := 0) (rm5 l Z a0 hw [] x1 a1 h0 n0 hE Z0 g1 E1 F1 F2 G1 US O0) hZ (hw _ (List.mem_of_getElem? (i := 19) rfl)) (hw _ (List.mem_of_getElem? (i := 11) rfl)) (by decide) (by decide) Wd0.hE Wd0.chv) (g := (mkF m 6 #[.val (.ref x1), .val (.ref a1)] [.null, (.int (0 : Int32)), (.int (0 : Int32)), (.ref a1), (.ref x1)])) rfl (by rw [hml]; rfl) (Steps.refl _) (a := x1) (argsL := [(.ref a1), (.int (0 : Int32)), (.int (0 : Int32)), .null]) (rest := []) (lenOf pd6_0 rfl) rfl (by show 2 * 0 + _ ≤ _; exact Nat.le_of_eq rfl) (hb hby d6_6) (fun _ _ => ⟨rfl, e0, (by decide : 0 + 4 ≤ _), (by decide : 0 + 8 ≤ _)⟩)
  dsimp only [Pt.U, Pt.locs, Pt.cells, Pt.slots] at X52 l52 y52 z52 st52 hQ52 hS52 Ch52
  subst l52 y52 z52
  have Wd52 := own_Wd.call Wd0 hS52 Ch52
  have hZ52 : Z.Warmed39 (s.setVm T52.vm).vm := Wd52.hZ
  have hown52 : (s.setVm T52.vm).vm.findClass "java/lang/String" = some m.cls := own_since_own hS52 hown
  have Y52 : Stand p l e ({ frames := 2, cells := 4, slots := 8, locals := 29 } : Room) (s.setVm T52.vm) m #[(.ref x1), (.ref a1)] below meth c T52 _ _ _ := X52
  obtain ⟨rfl, Nq52, Kp52, rest52⟩ := hQ52
  refine own_csR [] 9 st52 ?_
  exact own_retVW Y52 hx hrt (hb hby d6_9) hlk (by decide) (by decide) rfl Wd52 (⟨rfl, Fr.app N0 Nq52, Kp52, rest52⟩)

def Q7 (Z : State) (c0 c1 c2 c3 : Int32) (h0 : Heap) (n0 : Nat) (v : Option Value) (h : Heap) (L : List Loc) : Prop := ∃ s : Addr, v = some (.ref s) ∧ Fr n0 L ∧ Keep h0 h [] ∧ n0 ≤ s ∧ h0.size ≤ s ∧ own_S Z h s []

theorem d7_0 : decode method_5_code 0 = .ok (.iload_n 0, 1) := by decide +kernel
theorem d7_1 : decode method_5_code 1 = .ok (.ifCond .ne 14, 3) := by decide +kernel
theorem d7_4 : decode method_5_code 4 = .ok (.new 30, 3) := by decide +kernel
theorem d7_7 : decode method_5_code 7 = .ok (.dup, 1) := by decide +kernel
theorem d7_8 : decode method_5_code 8 = .ok (.iconst 0, 1) := by decide +kernel
theorem d7_9 : decode method_5_code 9 = .ok (.newarray .char, 2) := by decide +kernel
theorem d7_11 : decode method_5_code 11 = .ok (.invokespecial 32, 3) := by decide +kernel
theorem d7_14 : decode method_5_code 14 = .ok (.areturn, 1) := by decide +kernel
theorem pn7 : plainName "com/example/leastwise/leastwise/provisioning/WordLinesSpacesAlonePinLaw" = true := by first | (simp [plainName, overriddenIn]; done) | decide +kernel
theorem pd7_0 : parseMethodDescriptor "([C)V" = some ⟨[(.array .char)], none⟩ := by decide +kernel
theorem ef7 (m : MethodId) (x0 : Int32) (x1 : Int32) (x2 : Int32) (x3 : Int32) (x4 : Int32) : entryFrame m #[(.int x0), (.int x1), (.int x2), (.int x3), (.int x4)] 5 = mkF m 0 #[.val (.int x0), .val (.int x1), .val (.int x2), .val (.int x3), .val (.int x4)] [] := by first | (simp [entryFrame, mkF, argsToLocals, Value.category]; done) | rfl
set_option maxRecDepth 65536 in
set_option maxHeartbeats 40000000 in
theorem rm7 (l : Launch) (Z : State) (a0 : Array Value) (hw : ∀ d ∈ tables_1, d.before a0 Z = true) (ws : List Jvm.Cond) (c0 c1 c2 c3 : Int32) (h0 : Heap) (n0 : Nat) (hE : EW Z a0 own_EL) (Z0 : n0 ≤ h0.size) (hc0 : 0 ≤ c0.toInt ∧ c0.toInt ≤ 65535) (hc1 : 0 ≤ c1.toInt ∧ c1.toInt ≤ 65535) (hc2 : 0 ≤ c2.toInt ∧ c2.toInt ≤ 65535) (hc3 : 0 ≤ c3.toInt ∧ c3.toInt ≤ 65535) (G1 : Int32) (US : own_US Z G1) (O0 : Old Z n0 h0) :
    own_MetW own_EL l (⟨"com/example/leastwise/leastwise/provisioning/WordLinesSpacesAlonePinLaw", "make", "(ICCCC)Ljava/lang/String;"⟩ : MethodName) method_5_code 5 (some (.object "java/lang/String")) ws ({ frames := 3, cells := 6, slots := 12, locals := 43 } : Room) Z #[(.int (0 : Int32)), (.int c0), (.int c1), (.int c2), (.int c3)] h0 (Q7 Z c0 c1 c2 c3 h0 n0) := by
  refine own_enterW #[.val (.int (0 : Int32)), .val (.int c0), .val (.int c1), .val (.int c2), .val (.int c3)] (plainFor_of_name pn7) (fun m => ef7 m (0 : Int32) c0 c1 c2 c3) hE ?_
  intro p e s m below meth c s₁ hx hby hml hown hnm hZ hrt hlk X0 e0 Wd0
  have N0 := Fr.nil n0
  have wS := own_wS hw
  refine own_tp (.int (0 : Int32)) 1 (fun _ q => XS.iloadN X0.here hx rfl (hb hby d7_0) rfl q) ?_
  refine own_d1 4 (fun _ q => XS.ifNo X0.here hx rfl (hb hby d7_1) rfl ((if0 _ _).trans (teq (by decide : (0 : Int32) = (0 : Int32))).2) q) ?_
  obtain ⟨T51, h51, X51, e51, E51, A51, D51, -, st51⟩ := newO X0 hx hZ hown (hw _ (List.mem_of_getElem? (i := 9) rfl)) (hw _ (List.mem_of_getElem? (i := 10) rfl)) (hw _ (List.mem_of_getElem? (i := 11) rfl)) e0 (g := (mkF m 4 #[.val (.int (0 : Int32)), .val (.int c0), .val (.int c1), .val (.int c2), .val (.int c3)] [])) rfl (hb hby d7_4) (by decide) (by decide)
  obtain ⟨b51, g51⟩ : ∃ z, z = h0.size := ⟨_, rfl⟩
  rw [← g51] at A51 D51 st51
  have ge51 : n0 ≤ b51 := Nat.le_trans Z0 (Nat.le_of_eq g51.symm)
  have sz51 : h0.size ≤ b51 := Nat.le_trans (Keep.refl h0 []).1 (Nat.le_of_eq g51.symm)
  have O51 := Old.ext O0 E51
  have K51 : Keep h0 h51 [] := (Keep.refl h0 []).ext E51
  have Z51 : n0 ≤ h51.size := Nat.le_trans Z0 E51.1
  have Wd51 := Wd0.ext E51
  have G51 : Safe Z own_EL s.vm h51 b51 := Safe.ext E51 Wd0.chv (Safe.new (Nat.le_of_eq g51.symm))
  have Fvalue_51 : Fld Z h51 b51 "java/lang/String" "value" "[B" .null := D51 (Or.inr (hw _ (List.mem_of_getElem? (i := 25) rfl))) (ty := (.array .byte)) (by decide)
  have Fcoder_51 : Fld Z h51 b51 "java/lang/String" "coder" "B" (.int (0 : Int32)) := D51 (Or.inr (hw _ (List.mem_of_getElem? (i := 26) rfl))) (ty := .byte) (by decide)
  refine own_tp (.ref b51) 7 st51 ?_
  refine own_tp (.ref b51) 8 (fun _ q => XS.dup X51.here hx rfl (hb hby d7_7) rfl rfl q) ?_
  refine own_tp (.int (0 : Int32)) 9 (fun _ q => XS.iconst X51.here hx rfl (hb hby d7_8) q) ?_
  obtain ⟨T52, h52, k52, X52, e52, E52, A52, st52⟩ := newP X51 hx hZ (hw _ (List.mem_of_getElem? (i := 12) rfl)) e51 (g := (mkF m 9 #[.val (.int (0 : Int32)), .val (.int c0), .val (.int c1), .val (.int c2), .val (.int c3)] [(.int (0 : Int32)), (.ref b51), (.ref b51)])) rfl (hb hby d7_9) rfl (by decide) (cap := 0) (by decide) (by decide) (by decide) (by decide)
  obtain ⟨b52, g52⟩ : ∃ z, z = h51.size := ⟨_, rfl⟩
  rw [← g52] at A52 st52
  have V52 : Arv Z h52 b52 k52 .char (0 : Int32) [] (.int (0 : Int32)) := (Arv.new A52 (by decide)).pad (pad_rep [] (.int (0 : Int32)) 0)
  have ge52 : n0 ≤ b52 := Nat.le_trans Z51 (Nat.le_of_eq g52.symm)
  have sz52 : h0.size ≤ b52 := Nat.le_trans K51.1 (Nat.le_of_eq g52.symm)
  have ne53 : b51 ≠ b52 := Nat.ne_of_lt (Nat.lt_of_lt_of_le A51.lt (Nat.le_of_eq g52.symm))
  have O52 := Old.ext O51 E52
  have K52 : Keep h0 h52 [] := K51.ext E52
  have Z52 : n0 ≤ h52.size := Nat.le_trans Z51 E52.1
  have Wd52 := Wd51.ext E52
  refine own_t1 (.ref b52) 11 st52 ?_
  have f54 := (A51.ext E52)
  have f55 := (Fvalue_51.ext E52)
  have f56 := (Fcoder_51.ext E52)
  have f58 := (Safe.ext E52 Wd51.chv G51)
  obtain ⟨_, _, ⟨T57, L57, k57, n57⟩, -, X57, hS57, -, ⟨Lc57, hQ57, l57, y57, z57, Ch57⟩, st57⟩ := X52.specialBackS hx (y := (⟨"java/lang/String", "<init>", "([C)V"⟩ : MethodName)) rfl hown (mvT hZ (hw _ (List.mem_of_getElem? (i := 13) rfl))) (mvT hZ (hw _ (List.mem_of_getElem? (i := 14) rfl))) (mvT hZ (hw _ (List.mem_of_getElem? (i := 15) rfl))) (by decide) (backOfSH (W := 1) (rm6 l Z a0 hw [] b51 b52 k52 h52 n0 hE Z52 ge51 f54 f55 f56 G1 US O52 V52) hZ (hw _ (List.mem_of_getElem? (i := 15) rfl)) (hw _ (List.mem_of_getElem? (i := 11) rfl)) (by decide) (by decide) Wd52.hE Wd52.chv) (g := (mkF m 11 #[.val (.int (0 : Int32)), .val (.int c0), .val (.int c1), .val (.int c2), .val (.int c3)] [(.ref b52), (.ref b51), (.ref b51)])) rfl (by rw [hml]; rfl) (Steps.refl _) (a := b51) (argsL := [(.ref b52)]) (rest := [(.ref b51)]) (lenOf pd7_0 rfl) rfl (by show 2 * 0 + _ ≤ _; exact Nat.le_of_eq rfl) (hb hby d7_11) (fun _ _ => ⟨rfl, e52, (by decide : 2 + 4 ≤ _), (by decide : 4 + 8 ≤ _)⟩)
  dsimp only [Pt.U, Pt.locs, Pt.cells, Pt.slots] at X57 l57 y57 z57 st57 hQ57 hS57 Ch57
  subst l57 y57 z57
  have Wd57 := own_Wd.call Wd52 hS57 Ch57
  have hZ57 : Z.Warmed39 (s.setVm T57.vm).vm := Wd57.hZ
  have hown57 : (s.setVm T57.vm).vm.findClass "com/example/leastwise/leastwise/provisioning/WordLinesSpacesAlonePinLaw" = some m.cls := own_since_own hS57 hown
  have Y57 : Stand p l e ({ frames := 3, cells := 6, slots := 12, locals := 43 } : Room) (s.setVm T57.vm) m #[(.int (0 : Int32)), (.int c0), (.int c1), (.int c2), (.int c3)] below meth c T57 _ _ _ := X57
  have G57_b51 := CHr.safe Ch57 f54.lt f58
  obtain ⟨rfl, Nq57, Kp57, t57, kb57, cd57, Nn57, vs57, A57, Vl57, Cd57, V57, Co57⟩ := hQ57
  have N57 := Fr.app N0 Nq57
  have O57 := Old.keep O52 Kp57 (allS ge51 all0)
  have Z57 : n0 ≤ T57.heap.size := Nat.le_trans Z52 Kp57.1
  have K57 : Keep h0 T57.heap [] := Keep.trans K52 Kp57 (allS (Or.inr sz51) all0)
  have SS57 : own_S Z T57.heap b51 [] := ⟨t57, kb57, cd57, Nn57, vs57, A57, Vl57, Cd57, V57, Co57⟩
  refine own_csR [(.ref b51)] 14 st57 ?_
  exact own_retRW Y57 hx hrt (hb hby d7_14) rfl rfl hlk (by decide) (by decide) rfl Wd57 (⟨b51, rfl, N57, K57, ge51, sz51, SS57⟩)

def Q8 (Z : State) (c0 c1 c2 c3 : Int32) (h0 : Heap) (n0 : Nat) (v : Option Value) (h : Heap) (L : List Loc) : Prop := ∃ s : Addr, v = some (.ref s) ∧ Fr n0 L ∧ Keep h0 h [] ∧ n0 ≤ s ∧ h0.size ≤ s ∧ own_S Z h s [c0]

theorem d8_0 : decode method_5_code 0 = .ok (.iload_n 0, 1) := by decide +kernel
theorem d8_1 : decode method_5_code 1 = .ok (.ifCond .ne 14, 3) := by decide +kernel
theorem d8_15 : decode method_5_code 15 = .ok (.iload_n 0, 1) := by decide +kernel
theorem d8_16 : decode method_5_code 16 = .ok (.iconst 1, 1) := by decide +kernel
theorem d8_17 : decode method_5_code 17 = .ok (.if_icmp .ne 18, 3) := by decide +kernel
theorem d8_20 : decode method_5_code 20 = .ok (.new 30, 3) := by decide +kernel
theorem d8_23 : decode method_5_code 23 = .ok (.dup, 1) := by decide +kernel
theorem d8_24 : decode method_5_code 24 = .ok (.iconst 1, 1) := by decide +kernel
theorem d8_25 : decode method_5_code 25 = .ok (.newarray .char, 2) := by decide +kernel
theorem d8_27 : decode method_5_code 27 = .ok (.dup, 1) := by decide +kernel
theorem d8_28 : decode method_5_code 28 = .ok (.iconst 0, 1) := by decide +kernel
theorem d8_29 : decode method_5_code 29 = .ok (.iload_n 1, 1) := by decide +kernel
theorem d8_30 : decode method_5_code 30 = .ok (.castore, 1) := by decide +kernel
theorem d8_31 : decode method_5_code 31 = .ok (.invokespecial 32, 3) := by decide +kernel
theorem d8_34 : decode method_5_code 34 = .ok (.areturn, 1) := by decide +kernel
theorem pn8 : plainName "com/example/leastwise/leastwise/provisioning/WordLinesSpacesAlonePinLaw" = true := by first | (simp [plainName, overriddenIn]; done) | decide +kernel
theorem pd8_0 : parseMethodDescriptor "([C)V" = some ⟨[(.array .char)], none⟩ := by decide +kernel
theorem ef8 (m : MethodId) (x0 : Int32) (x1 : Int32) (x2 : Int32) (x3 : Int32) (x4 : Int32) : entryFrame m #[(.int x0), (.int x1), (.int x2), (.int x3), (.int x4)] 5 = mkF m 0 #[.val (.int x0), .val (.int x1), .val (.int x2), .val (.int x3), .val (.int x4)] [] := by first | (simp [entryFrame, mkF, argsToLocals, Value.category]; done) | rfl
set_option maxRecDepth 65536 in
set_option maxHeartbeats 40000000 in
theorem rm8 (l : Launch) (Z : State) (a0 : Array Value) (hw : ∀ d ∈ tables_1, d.before a0 Z = true) (ws : List Jvm.Cond) (c0 c1 c2 c3 : Int32) (h0 : Heap) (n0 : Nat) (Z0 : n0 ≤ h0.size) (hc0 : 0 ≤ c0.toInt ∧ c0.toInt ≤ 65535) (hc1 : 0 ≤ c1.toInt ∧ c1.toInt ≤ 65535) (hc2 : 0 ≤ c2.toInt ∧ c2.toInt ≤ 65535) (hc3 : 0 ≤ c3.toInt ∧ c3.toInt ≤ 65535) (G1 : Int32) (US : own_US Z G1) (O0 : Old Z n0 h0) :
    own_Met l (⟨"com/example/leastwise/leastwise/provisioning/WordLinesSpacesAlonePinLaw", "make", "(ICCCC)Ljava/lang/String;"⟩ : MethodName) method_5_code 5 (some (.object "java/lang/String")) ws ({ frames := 6, cells := 4, slots := 8, locals := 92 } : Room) Z #[(.int (1 : Int32)), (.int c0), (.int c1), (.int c2), (.int c3)] h0 (Q8 Z c0 c1 c2 c3 h0 n0) := by
  refine own_enter #[.val (.int (1 : Int32)), .val (.int c0), .val (.int c1), .val (.int c2), .val (.int c3)] (plainFor_of_name pn8) (fun m => ef8 m (1 : Int32) c0 c1 c2 c3) ?_
  intro p e s m below meth c s₁ hx hby hml hown hnm hZ hrt hlk X0 e0
  have N0 := Fr.nil n0
  refine own_tp (.int (1 : Int32)) 1 (fun _ q => XS.iloadN X0.here hx rfl (hb hby d8_0) rfl q) ?_
  refine own_d1 15 (fun _ q => XS.ifYes X0.here hx rfl (pc0 := 1) (pc' := 15) rfl (hb hby d8_1) rfl ((if0 _ _).trans (feq (by decide : ¬ ((1 : Int32) = (0 : Int32)))).2) (by decide) (by decide) q) ?_
  refine own_tp (.int (1 : Int32)) 16 (fun _ q => XS.iloadN X0.here hx rfl (hb hby d8_15) rfl q) ?_
  refine own_tp (.int (1 : Int32)) 17 (fun _ q => XS.iconst X0.here hx rfl (hb hby d8_16) q) ?_
  refine own_d2 20 (fun _ q => XS.icmpNo X0.here hx rfl (hb hby d8_17) rfl (teq (by decide : (1 : Int32) = (1 : Int32))).2 q) ?_
  obtain ⟨T51, h51, X51, e51, E51, A51, D51, -, st51⟩ := newO X0 hx hZ hown (hw _ (List.mem_of_getElem? (i := 9) rfl)) (hw _ (List.mem_of_getElem? (i := 10) rfl)) (hw _ (List.mem_of_getElem? (i := 11) rfl)) e0 (g := (mkF m 20 #[.val (.int (1 : Int32)), .val (.int c0), .val (.int c1), .val (.int c2), .val (.int c3)] [])) rfl (hb hby d8_20) (by decide) (by decide)
  obtain ⟨b51, g51⟩ : ∃ z, z = h0.size := ⟨_, rfl⟩
  rw [← g51] at A51 D51 st51
  have ge51 : n0 ≤ b51 := Nat.le_trans Z0 (Nat.le_of_eq g51.symm)
  have sz51 : h0.size ≤ b51 := Nat.le_trans (Keep.refl h0 []).1 (Nat.le_of_eq g51.symm)
  have O51 := Old.ext O0 E51
  have K51 : Keep h0 h51 [] := (Keep.refl h0 []).ext E51
  have Z51 : n0 ≤ h51.size := Nat.le_trans Z0 E51.1
  have Fvalue_51 : Fld Z h51 b51 "java/lang/String" "value" "[B" .null := D51 (Or.inr (hw _ (List.mem_of_getElem? (i := 25) rfl))) (ty := (.array .byte)) (by decide)
  have Fcoder_51 : Fld Z h51 b51 "java/lang/String" "coder" "B" (.int (0 : Int32)) := D51 (Or.inr (hw _ (List.mem_of_getElem? (i := 26) rfl))) (ty := .byte) (by decide)
  refine own_tp (.ref b51) 23 st51 ?_
  refine own_tp (.ref b51) 24 (fun _ q => XS.dup X51.here hx rfl (hb hby d8_23) rfl rfl q) ?_
  refine own_tp (.int (1 : Int32)) 25 (fun _ q => XS.iconst X51.here hx rfl (hb hby d8_24) q) ?_
  obtain ⟨T52, h52, k52, X52, e52, E52, A52, st52⟩ := newP X51 hx hZ (hw _ (List.mem_of_getElem? (i := 12) rfl)) e51 (g := (mkF m 25 #[.val (.int (1 : Int32)), .val (.int c0), .val (.int c1), .val (.int c2), .val (.int c3)] [(.int (1 : Int32)), (.ref b51), (.ref b51)])) rfl (hb hby d8_25) rfl (by decide) (cap := 1) (by decide) (by decide) (by decide) (by decide)
  obtain ⟨b52, g52⟩ : ∃ z, z = h51.size := ⟨_, rfl⟩
  rw [← g52] at A52 st52
  have V52 : Arv Z h52 b52 k52 .char (1 : Int32) [(.int (0 : Int32))] (.int (0 : Int32)) := (Arv.new A52 (by decide)).pad (pad_rep [] (.int (0 : Int32)) 1)
  have ge52 : n0 ≤ b52 := Nat.le_trans Z51 (Nat.le_of_eq g52.symm)
  have sz52 : h0.size ≤ b52 := Nat.le_trans K51.1 (Nat.le_of_eq g52.symm)
  have ne53 : b51 ≠ b52 := Nat.ne_of_lt (Nat.lt_of_lt_of_le A51.lt (Nat.le_of_eq g52.symm))
  have O52 := Old.ext O51 E52
  have K52 : Keep h0 h52 [] := K51.ext E52
  have Z52 : n0 ≤ h52.size := Nat.le_trans Z51 E52.1
  refine own_t1 (.ref b52) 27 st52 ?_
  refine own_tp (.ref b52) 28 (fun _ q => XS.dup X52.here hx rfl (hb hby d8_27) rfl rfl q) ?_
  refine own_tp (.int (0 : Int32)) 29 (fun _ q => XS.iconst X52.here hx rfl (hb hby d8_28) q) ?_
  refine own_tp (.int c0) 30 (fun _ q => XS.iloadN X52.here hx rfl (hb hby d8_29) rfl q) ?_
  obtain ⟨cl54, Ar54, q54, S54, Nn54, H54, G54⟩ := (id V52)
  have hin54 : ¬ ((0 : Int32) < 0 ∨ cl54.slots.size ≤ ((0 : Int32)).toNatClampNeg) := inb_of S54 ⟨by decide, by decide⟩
  obtain ⟨T55, h55, X55, e55, W55, st55⟩ := stC X52 hx hZ e52 Ar54 (j := (0 : Int32)) hin54 (g := (mkF m 30 #[.val (.int (1 : Int32)), .val (.int c0), .val (.int c1), .val (.int c2), .val (.int c3)] [(.int c0), (.int (0 : Int32)), (.ref b52), (.ref b52), (.ref b51), (.ref b51)])) rfl rfl (hb hby d8_30)
  have V55 := Arv.set Ar54 q54 S54 Nn54 H54 G54 (fits_nar_char _) W55 0 rfl (Nat.le_of_ble_eq_true rfl)
  have N55 := Fr.snoc X55 N0 ge52
  have O55 := Old.wr O52 W55 ge52
  have K55 : Keep h0 h55 [] := K52.wr W55 (Or.inr sz52)
  have Z55 : n0 ≤ h55.size := Nat.le_trans Z52 (Nat.le_of_eq W55.size.symm)
  have V55' : Arv Z h55 b52 k52 .char (1 : Int32) [(.int c0)] (.int (0 : Int32)) := by have q := V55; first | (rw [own_narc hc0] at q; exact q) | (rw [own_i2c hc0] at q; exact q)
  refine own_cs [(.ref b52), (.ref b51), (.ref b51)] 31 st55 ?_
  have f56 := ((A51.ext E52).wr W55)
  have f57 := ((Fvalue_51.ext E52).other W55 (Or.inl ne53))
  have f58 := ((Fcoder_51.ext E52).other W55 (Or.inl ne53))
  obtain ⟨_, _, ⟨T59, L59, k59, n59⟩, -, X59, ⟨Lc59, hQ59, l59, y59, z59⟩, st59⟩ := X55.specialBack hx (y := (⟨"java/lang/String", "<init>", "([C)V"⟩ : MethodName)) rfl hown (mvT hZ (hw _ (List.mem_of_getElem? (i := 13) rfl))) (mvT hZ (hw _ (List.mem_of_getElem? (i := 14) rfl))) (mvT hZ (hw _ (List.mem_of_getElem? (i := 15) rfl))) (by decide) (backOf (W := 1) (rm132 l Z a0 hw [] b51 b52 k52 c0 _ _ h55 n0 Z55 ge51 ne53 hc0 V55' f56 f57 f58 G1 US O55) hZ (hw _ (List.mem_of_getElem? (i := 15) rfl)) (hw _ (List.mem_of_getElem? (i := 11) rfl)) (by decide) (by decide)) (g := (mkF m 31 #[.val (.int (1 : Int32)), .val (.int c0), .val (.int c1), .val (.int c2), .val (.int c3)] [(.ref b52), (.ref b51), (.ref b51)])) rfl (by rw [hml]; rfl) (Steps.refl _) (a := b51) (argsL := [(.ref b52)]) (rest := [(.ref b51)]) (lenOf pd8_0 rfl) rfl (by show 2 * 0 + _ ≤ _; exact Nat.le_of_eq rfl) (hb hby d8_31) (fun _ _ => ⟨rfl, e55, (by decide : 2 + 2 ≤ _), (by decide : 5 + 3 ≤ _)⟩)
  dsimp only [Pt.U, Pt.locs, Pt.cells, Pt.slots] at X59 l59 y59 z59 st59 hQ59
  subst l59 y59 z59
  obtain ⟨rfl, Nq59, Kp59, t59, kb59, cd59, Nn59, vs59, gt59, st_59, A59, Vl59, Cd59, V59, Co59⟩ := hQ59
  have N59 := Fr.app N55 Nq59
  have O59 := Old.keep O55 Kp59 (allS ge51 all0)
  have Z59 : n0 ≤ T59.heap.size := Nat.le_trans Z55 Kp59.1
  have K59 : Keep h0 T59.heap [] := Keep.trans K55 Kp59 (allS (Or.inr sz51) all0)
  have SS59 : own_S Z T59.heap b51 [c0] := ⟨t59, kb59, cd59, Nn59, vs59, A59, Vl59, Cd59, V59, Co59⟩
  refine own_csR [(.ref b51)] 34 st59 ?_
  exact own_retR X59 hx hrt (hb hby d8_34) rfl rfl hlk (by decide) (by decide) rfl (⟨b51, rfl, N59, K59, ge51, sz51, SS59⟩)

def Q9 (Z : State) (c0 c1 c2 c3 : Int32) (h0 : Heap) (n0 : Nat) (v : Option Value) (h : Heap) (L : List Loc) : Prop := ∃ s : Addr, v = some (.ref s) ∧ Fr n0 L ∧ Keep h0 h [] ∧ n0 ≤ s ∧ h0.size ≤ s ∧ own_S Z h s [c0, c1]

theorem d9_0 : decode method_5_code 0 = .ok (.iload_n 0, 1) := by decide +kernel
theorem d9_1 : decode method_5_code 1 = .ok (.ifCond .ne 14, 3) := by decide +kernel
theorem d9_15 : decode method_5_code 15 = .ok (.iload_n 0, 1) := by decide +kernel
theorem d9_16 : decode method_5_code 16 = .ok (.iconst 1, 1) := by decide +kernel
theorem d9_17 : decode method_5_code 17 = .ok (.if_icmp .ne 18, 3) := by decide +kernel
theorem d9_35 : decode method_5_code 35 = .ok (.iload_n 0, 1) := by decide +kernel
theorem d9_36 : decode method_5_code 36 = .ok (.iconst 2, 1) := by decide +kernel
theorem d9_37 : decode method_5_code 37 = .ok (.if_icmp .ne 22, 3) := by decide +kernel
theorem d9_40 : decode method_5_code 40 = .ok (.new 30, 3) := by decide +kernel
theorem d9_43 : decode method_5_code 43 = .ok (.dup, 1) := by decide +kernel
theorem d9_44 : decode method_5_code 44 = .ok (.iconst 2, 1) := by decide +kernel
theorem d9_45 : decode method_5_code 45 = .ok (.newarray .char, 2) := by decide +kernel
theorem d9_47 : decode method_5_code 47 = .ok (.dup, 1) := by decide +kernel
theorem d9_48 : decode method_5_code 48 = .ok (.iconst 0, 1) := by decide +kernel
theorem d9_49 : decode method_5_code 49 = .ok (.iload_n 1, 1) := by decide +kernel
theorem d9_50 : decode method_5_code 50 = .ok (.castore, 1) := by decide +kernel
theorem d9_51 : decode method_5_code 51 = .ok (.dup, 1) := by decide +kernel
theorem d9_52 : decode method_5_code 52 = .ok (.iconst 1, 1) := by decide +kernel
theorem d9_53 : decode method_5_code 53 = .ok (.iload_n 2, 1) := by decide +kernel
theorem d9_54 : decode method_5_code 54 = .ok (.castore, 1) := by decide +kernel
theorem d9_55 : decode method_5_code 55 = .ok (.invokespecial 32, 3) := by decide +kernel
theorem d9_58 : decode method_5_code 58 = .ok (.areturn, 1) := by decide +kernel
theorem pn9 : plainName "com/example/leastwise/leastwise/provisioning/WordLinesSpacesAlonePinLaw" = true := by first | (simp [plainName, overriddenIn]; done) | decide +kernel
theorem pd9_0 : parseMethodDescriptor "([C)V" = some ⟨[(.array .char)], none⟩ := by decide +kernel
theorem ef9 (m : MethodId) (x0 : Int32) (x1 : Int32) (x2 : Int32) (x3 : Int32) (x4 : Int32) : entryFrame m #[(.int x0), (.int x1), (.int x2), (.int x3), (.int x4)] 5 = mkF m 0 #[.val (.int x0), .val (.int x1), .val (.int x2), .val (.int x3), .val (.int x4)] [] := by first | (simp [entryFrame, mkF, argsToLocals, Value.category]; done) | rfl
set_option maxRecDepth 65536 in
set_option maxHeartbeats 40000000 in
theorem rm9 (l : Launch) (Z : State) (a0 : Array Value) (hw : ∀ d ∈ tables_1, d.before a0 Z = true) (ws : List Jvm.Cond) (c0 c1 c2 c3 : Int32) (h0 : Heap) (n0 : Nat) (Z0 : n0 ≤ h0.size) (hc0 : 0 ≤ c0.toInt ∧ c0.toInt ≤ 65535) (hc1 : 0 ≤ c1.toInt ∧ c1.toInt ≤ 65535) (hc2 : 0 ≤ c2.toInt ∧ c2.toInt ≤ 65535) (hc3 : 0 ≤ c3.toInt ∧ c3.toInt ≤ 65535) (G1 : Int32) (US : own_US Z G1) (O0 : Old Z n0 h0) :
    own_Met l (⟨"com/example/leastwise/leastwise/provisioning/WordLinesSpacesAlonePinLaw", "make", "(ICCCC)Ljava/lang/String;"⟩ : MethodName) method_5_code 5 (some (.object "java/lang/String")) ws ({ frames := 6, cells := 4, slots := 12, locals := 92 } : Room) Z #[(.int (2 : Int32)), (.int c0), (.int c1), (.int c2), (.int c3)] h0 (Q9 Z c0 c1 c2 c3 h0 n0) := by
  refine own_enter #[.val (.int (2 : Int32)), .val (.int c0), .val (.int c1), .val (.int c2), .val (.int c3)] (plainFor_of_name pn9) (fun m => ef9 m (2 : Int32) c0 c1 c2 c3) ?_
  intro p e s m below meth c s₁ hx hby hml hown hnm hZ hrt hlk X0 e0
  have N0 := Fr.nil n0
  refine own_tp (.int (2 : Int32)) 1 (fun _ q => XS.iloadN X0.here hx rfl (hb hby d9_0) rfl q) ?_
  refine own_d1 15 (fun _ q => XS.ifYes X0.here hx rfl (pc0 := 1) (pc' := 15) rfl (hb hby d9_1) rfl ((if0 _ _).trans (feq (by decide : ¬ ((2 : Int32) = (0 : Int32)))).2) (by decide) (by decide) q) ?_
  refine own_tp (.int (2 : Int32)) 16 (fun _ q => XS.iloadN X0.here hx rfl (hb hby d9_15) rfl q) ?_
  refine own_tp (.int (1 : Int32)) 17 (fun _ q => XS.iconst X0.here hx rfl (hb hby d9_16) q) ?_
  refine own_d2 35 (fun _ q => XS.icmpYes X0.here hx rfl (pc0 := 17) (pc' := 35) rfl (hb hby d9_17) rfl (feq (by decide : ¬ ((2 : Int32) = (1 : Int32)))).2 (by decide) (by decide) q) ?_
  refine own_tp (.int (2 : Int32)) 36 (fun _ q => XS.iloadN X0.here hx rfl (hb hby d9_35) rfl q) ?_
  refine own_tp (.int (2 : Int32)) 37 (fun _ q => XS.iconst X0.here hx rfl (hb hby d9_36) q) ?_
  refine own_d2 40 (fun _ q => XS.icmpNo X0.here hx rfl (hb hby d9_37) rfl (teq (by decide : (2 : Int32) = (2 : Int32))).2 q) ?_
  obtain ⟨T51, h51, X51, e51, E51, A51, D51, -, st51⟩ := newO X0 hx hZ hown (hw _ (List.mem_of_getElem? (i := 9) rfl)) (hw _ (List.mem_of_getElem? (i := 10) rfl)) (hw _ (List.mem_of_getElem? (i := 11) rfl)) e0 (g := (mkF m 40 #[.val (.int (2 : Int32)), .val (.int c0), .val (.int c1), .val (.int c2), .val (.int c3)] [])) rfl (hb hby d9_40) (by decide) (by decide)
  obtain ⟨b51, g51⟩ : ∃ z, z = h0.size := ⟨_, rfl⟩
  rw [← g51] at A51 D51 st51
  have ge51 : n0 ≤ b51 := Nat.le_trans Z0 (Nat.le_of_eq g51.symm)
  have sz51 : h0.size ≤ b51 := Nat.le_trans (Keep.refl h0 []).1 (Nat.le_of_eq g51.symm)
  have O51 := Old.ext O0 E51
  have K51 : Keep h0 h51 [] := (Keep.refl h0 []).ext E51
  have Z51 : n0 ≤ h51.size := Nat.le_trans Z0 E51.1
  have Fvalue_51 : Fld Z h51 b51 "java/lang/String" "value" "[B" .null := D51 (Or.inr (hw _ (List.mem_of_getElem? (i := 25) rfl))) (ty := (.array .byte)) (by decide)
  have Fcoder_51 : Fld Z h51 b51 "java/lang/String" "coder" "B" (.int (0 : Int32)) := D51 (Or.inr (hw _ (List.mem_of_getElem? (i := 26) rfl))) (ty := .byte) (by decide)
  refine own_tp (.ref b51) 43 st51 ?_
  refine own_tp (.ref b51) 44 (fun _ q => XS.dup X51.here hx rfl (hb hby d9_43) rfl rfl q) ?_
  refine own_tp (.int (2 : Int32)) 45 (fun _ q => XS.iconst X51.here hx rfl (hb hby d9_44) q) ?_
  obtain ⟨T52, h52, k52, X52, e52, E52, A52, st52⟩ := newP X51 hx hZ (hw _ (List.mem_of_getElem? (i := 12) rfl)) e51 (g := (mkF m 45 #[.val (.int (2 : Int32)), .val (.int c0), .val (.int c1), .val (.int c2), .val (.int c3)] [(.int (2 : Int32)), (.ref b51), (.ref b51)])) rfl (hb hby d9_45) rfl (by decide) (cap := 2) (by decide) (by decide) (by decide) (by decide)
  obtain ⟨b52, g52⟩ : ∃ z, z = h51.size := ⟨_, rfl⟩
  rw [← g52] at A52 st52
  have V52 : Arv Z h52 b52 k52 .char (2 : Int32) [(.int (0 : Int32)), (.int (0 : Int32))] (.int (0 : Int32)) := (Arv.new A52 (by decide)).pad (pad_rep [] (.int (0 : Int32)) 2)
  have ge52 : n0 ≤ b52 := Nat.le_trans Z51 (Nat.le_of_eq g52.symm)
  have sz52 : h0.size ≤ b52 := Nat.le_trans K51.1 (Nat.le_of_eq g52.symm)
  have ne53 : b51 ≠ b52 := Nat.ne_of_lt (Nat.lt_of_lt_of_le A51.lt (Nat.le_of_eq g52.symm))
  have O52 := Old.ext O51 E52
  have K52 : Keep h0 h52 [] := K51.ext E52
  have Z52 : n0 ≤ h52.size := Nat.le_trans Z51 E52.1
  refine own_t1 (.ref b52) 47 st52 ?_
  refine own_tp (.ref b52) 48 (fun _ q => XS.dup X52.here hx rfl (hb hby d9_47) rfl rfl q) ?_
  refine own_tp (.int (0 : Int32)) 49 (fun _ q => XS.iconst X52.here hx rfl (hb hby d9_48) q) ?_
  refine own_tp (.int c0) 50 (fun _ q => XS.iloadN X52.here hx rfl (hb hby d9_49) rfl q) ?_
  obtain ⟨cl54, Ar54, q54, S54, Nn54, H54, G54⟩ := (id V52)
  have hin54 : ¬ ((0 : Int32) < 0 ∨ cl54.slots.size ≤ ((0 : Int32)).toNatClampNeg) := inb_of S54 ⟨by decide, by decide⟩
  obtain ⟨T55, h55, X55, e55, W55, st55⟩ := stC X52 hx hZ e52 Ar54 (j := (0 : Int32)) hin54 (g := (mkF m 50 #[.val (.int (2 : Int32)), .val (.int c0), .val (.int c1), .val (.int c2), .val (.int c3)] [(.int c0), (.int (0 : Int32)), (.ref b52), (.ref b52), (.ref b51), (.ref b51)])) rfl rfl (hb hby d9_50)
  have V55 := Arv.set Ar54 q54 S54 Nn54 H54 G54 (fits_nar_char _) W55 0 rfl (Nat.le_of_ble_eq_true rfl)
  have N55 := Fr.snoc X55 N0 ge52
  have O55 := Old.wr O52 W55 ge52
  have K55 : Keep h0 h55 [] := K52.wr W55 (Or.inr sz52)
  have Z55 : n0 ≤ h55.size := Nat.le_trans Z52 (Nat.le_of_eq W55.size.symm)
  have V55' : Arv Z h55 b52 k52 .char (2 : Int32) [(.int c0), (.int (0 : Int32))] (.int (0 : Int32)) := by have q := V55; first | (rw [own_narc hc0] at q; exact q) | (rw [own_i2c hc0] at q; exact q)
  refine own_cs [(.ref b52), (.ref b51), (.ref b51)] 51 st55 ?_
  refine own_tp (.ref b52) 52 (fun _ q => XS.dup X55.here hx rfl (hb hby d9_51) rfl rfl q) ?_
  refine own_tp (.int (1 : Int32)) 53 (fun _ q => XS.iconst X55.here hx rfl (hb hby d9_52) q) ?_
  refine own_tp (.int c1) 54 (fun _ q => XS.iloadN X55.here hx rfl (hb hby d9_53) rfl q) ?_
  obtain ⟨cl56, Ar56, q56, S56, Nn56, H56, G56⟩ := (id V55')
  have hin56 : ¬ ((1 : Int32) < 0 ∨ cl56.slots.size ≤ ((1 : Int32)).toNatClampNeg) := inb_of S56 ⟨by decide, by decide⟩
  obtain ⟨T57, h57, X57, e57, W57, st57⟩ := stC X55 hx hZ e55 Ar56 (j := (1 : Int32)) hin56 (g := (mkF m 54 #[.val (.int (2 : Int32)), .val (.int c0), .val (.int c1), .val (.int c2), .val (.int c3)] [(.int c1), (.int (1 : Int32)), (.ref b52), (.ref b52), (.ref b51), (.ref b51)])) rfl rfl (hb hby d9_54)
  have V57 := Arv.set Ar56 q56 S56 Nn56 H56 G56 (fits_nar_char _) W57 1 rfl (Nat.le_of_ble_eq_true rfl)
  have N57 := Fr.snoc X57 N55 ge52
  have O57 := Old.wr O55 W57 ge52
  have K57 : Keep h0 h57 [] := K55.wr W57 (Or.inr sz52)
  have Z57 : n0 ≤ h57.size := Nat.le_trans Z55 (Nat.le_of_eq W57.size.symm)
  have V57' : Arv Z h57 b52 k52 .char (2 : Int32) [(.int c0), (.int c1)] (.int (0 : Int32)) := by have q := V57; first | (rw [own_narc hc1] at q; exact q) | (rw [own_i2c hc1] at q; exact q)
  refine own_cs [(.ref b52), (.ref b51), (.ref b51)] 55 st57 ?_
  have f58 := (((A51.ext E52).wr W55).wr W57)
  have f59 := (((Fvalue_51.ext E52).other W55 (Or.inl ne53)).other W57 (Or.inl ne53))
  have f60 := (((Fcoder_51.ext E52).other W55 (Or.inl ne53)).other W57 (Or.inl ne53))
  obtain ⟨_, _, ⟨T61, L61, k61, n61⟩, -, X61, ⟨Lc61, hQ61, l61, y61, z61⟩, st61⟩ := X57.specialBack hx (y := (⟨"java/lang/String", "<init>", "([C)V"⟩ : MethodName)) rfl hown (mvT hZ (hw _ (List.mem_of_getElem? (i := 13) rfl))) (mvT hZ (hw _ (List.mem_of_getElem? (i := 14) rfl))) (mvT hZ (hw _ (List.mem_of_getElem? (i := 15) rfl))) (by decide) (backOf (W := 1) (rm141 l Z a0 hw [] b51 b52 k52 c0 c1 _ _ h57 n0 Z57 ge51 ne53 hc0 hc1 V57' f58 f59 f60 G1 US O57) hZ (hw _ (List.mem_of_getElem? (i := 15) rfl)) (hw _ (List.mem_of_getElem? (i := 11) rfl)) (by decide) (by decide)) (g := (mkF m 55 #[.val (.int (2 : Int32)), .val (.int c0), .val (.int c1), .val (.int c2), .val (.int c3)] [(.ref b52), (.ref b51), (.ref b51)])) rfl (by rw [hml]; rfl) (Steps.refl _) (a := b51) (argsL := [(.ref b52)]) (rest := [(.ref b51)]) (lenOf pd9_0 rfl) rfl (by show 2 * 0 + _ ≤ _; exact Nat.le_of_eq rfl) (hb hby d9_55) (fun _ _ => ⟨rfl, e57, (by decide : 2 + 2 ≤ _), (by decide : 6 + 6 ≤ _)⟩)
  dsimp only [Pt.U, Pt.locs, Pt.cells, Pt.slots] at X61 l61 y61 z61 st61 hQ61
  subst l61 y61 z61
  obtain ⟨rfl, Nq61, Kp61, t61, kb61, cd61, Nn61, vs61, gt61, st_61, A61, Vl61, Cd61, V61, Co61⟩ := hQ61
  have N61 := Fr.app N57 Nq61
  have O61 := Old.keep O57 Kp61 (allS ge51 all0)
  have Z61 : n0 ≤ T61.heap.size := Nat.le_trans Z57 Kp61.1
  have K61 : Keep h0 T61.heap [] := Keep.trans K57 Kp61 (allS (Or.inr sz51) all0)
  have SS61 : own_S Z T61.heap b51 [c0, c1] := ⟨t61, kb61, cd61, Nn61, vs61, A61, Vl61, Cd61, V61, Co61⟩
  refine own_csR [(.ref b51)] 58 st61 ?_
  exact own_retR X61 hx hrt (hb hby d9_58) rfl rfl hlk (by decide) (by decide) rfl (⟨b51, rfl, N61, K61, ge51, sz51, SS61⟩)

def Q10 (Z : State) (c0 c1 c2 c3 : Int32) (h0 : Heap) (n0 : Nat) (v : Option Value) (h : Heap) (L : List Loc) : Prop := ∃ s : Addr, v = some (.ref s) ∧ Fr n0 L ∧ Keep h0 h [] ∧ n0 ≤ s ∧ h0.size ≤ s ∧ own_S Z h s [c0, c1, c2]

theorem d10_0 : decode method_5_code 0 = .ok (.iload_n 0, 1) := by decide +kernel
theorem d10_1 : decode method_5_code 1 = .ok (.ifCond .ne 14, 3) := by decide +kernel
theorem d10_15 : decode method_5_code 15 = .ok (.iload_n 0, 1) := by decide +kernel
theorem d10_16 : decode method_5_code 16 = .ok (.iconst 1, 1) := by decide +kernel
theorem d10_17 : decode method_5_code 17 = .ok (.if_icmp .ne 18, 3) := by decide +kernel
theorem d10_35 : decode method_5_code 35 = .ok (.iload_n 0, 1) := by decide +kernel
theorem d10_36 : decode method_5_code 36 = .ok (.iconst 2, 1) := by decide +kernel
theorem d10_37 : decode method_5_code 37 = .ok (.if_icmp .ne 22, 3) := by decide +kernel
theorem d10_59 : decode method_5_code 59 = .ok (.iload_n 0, 1) := by decide +kernel
theorem d10_60 : decode method_5_code 60 = .ok (.iconst 3, 1) := by decide +kernel
theorem d10_61 : decode method_5_code 61 = .ok (.if_icmp .ne 26, 3) := by decide +kernel
theorem d10_64 : decode method_5_code 64 = .ok (.new 30, 3) := by decide +kernel
theorem d10_67 : decode method_5_code 67 = .ok (.dup, 1) := by decide +kernel
theorem d10_68 : decode method_5_code 68 = .ok (.iconst 3, 1) := by decide +kernel
theorem d10_69 : decode method_5_code 69 = .ok (.newarray .char, 2) := by decide +kernel
theorem d10_71 : decode method_5_code 71 = .ok (.dup, 1) := by decide +kernel
theorem d10_72 : decode method_5_code 72 = .ok (.iconst 0, 1) := by decide +kernel
theorem d10_73 : decode method_5_code 73 = .ok (.iload_n 1, 1) := by decide +kernel
theorem d10_74 : decode method_5_code 74 = .ok (.castore, 1) := by decide +kernel
theorem d10_75 : decode method_5_code 75 = .ok (.dup, 1) := by decide +kernel
theorem d10_76 : decode method_5_code 76 = .ok (.iconst 1, 1) := by decide +kernel
theorem d10_77 : decode method_5_code 77 = .ok (.iload_n 2, 1) := by decide +kernel
theorem d10_78 : decode method_5_code 78 = .ok (.castore, 1) := by decide +kernel
theorem d10_79 : decode method_5_code 79 = .ok (.dup, 1) := by decide +kernel
theorem d10_80 : decode method_5_code 80 = .ok (.iconst 2, 1) := by decide +kernel
theorem d10_81 : decode method_5_code 81 = .ok (.iload_n 3, 1) := by decide +kernel
theorem d10_82 : decode method_5_code 82 = .ok (.castore, 1) := by decide +kernel
theorem d10_83 : decode method_5_code 83 = .ok (.invokespecial 32, 3) := by decide +kernel
theorem d10_86 : decode method_5_code 86 = .ok (.areturn, 1) := by decide +kernel
theorem pn10 : plainName "com/example/leastwise/leastwise/provisioning/WordLinesSpacesAlonePinLaw" = true := by first | (simp [plainName, overriddenIn]; done) | decide +kernel
theorem pd10_0 : parseMethodDescriptor "([C)V" = some ⟨[(.array .char)], none⟩ := by decide +kernel
theorem ef10 (m : MethodId) (x0 : Int32) (x1 : Int32) (x2 : Int32) (x3 : Int32) (x4 : Int32) : entryFrame m #[(.int x0), (.int x1), (.int x2), (.int x3), (.int x4)] 5 = mkF m 0 #[.val (.int x0), .val (.int x1), .val (.int x2), .val (.int x3), .val (.int x4)] [] := by first | (simp [entryFrame, mkF, argsToLocals, Value.category]; done) | rfl
set_option maxRecDepth 65536 in
set_option maxHeartbeats 40000000 in
theorem rm10 (l : Launch) (Z : State) (a0 : Array Value) (hw : ∀ d ∈ tables_1, d.before a0 Z = true) (ws : List Jvm.Cond) (c0 c1 c2 c3 : Int32) (h0 : Heap) (n0 : Nat) (Z0 : n0 ≤ h0.size) (hc0 : 0 ≤ c0.toInt ∧ c0.toInt ≤ 65535) (hc1 : 0 ≤ c1.toInt ∧ c1.toInt ≤ 65535) (hc2 : 0 ≤ c2.toInt ∧ c2.toInt ≤ 65535) (hc3 : 0 ≤ c3.toInt ∧ c3.toInt ≤ 65535) (G1 : Int32) (US : own_US Z G1) (O0 : Old Z n0 h0) :
    own_Met l (⟨"com/example/leastwise/leastwise/provisioning/WordLinesSpacesAlonePinLaw", "make", "(ICCCC)Ljava/lang/String;"⟩ : MethodName) method_5_code 5 (some (.object "java/lang/String")) ws ({ frames := 6, cells := 4, slots := 16, locals := 92 } : Room) Z #[(.int (3 : Int32)), (.int c0), (.int c1), (.int c2), (.int c3)] h0 (Q10 Z c0 c1 c2 c3 h0 n0) := by
  refine own_enter #[.val (.int (3 : Int32)), .val (.int c0), .val (.int c1), .val (.int c2), .val (.int c3)] (plainFor_of_name pn10) (fun m => ef10 m (3 : Int32) c0 c1 c2 c3) ?_
  intro p e s m below meth c s₁ hx hby hml hown hnm hZ hrt hlk X0 e0
  have N0 := Fr.nil n0
  refine own_tp (.int (3 : Int32)) 1 (fun _ q => XS.iloadN X0.here hx rfl (hb hby d10_0) rfl q) ?_
  refine own_d1 15 (fun _ q => XS.ifYes X0.here hx rfl (pc0 := 1) (pc' := 15) rfl (hb hby d10_1) rfl ((if0 _ _).trans (feq (by decide : ¬ ((3 : Int32) = (0 : Int32)))).2) (by decide) (by decide) q) ?_
  refine own_tp (.int (3 : Int32)) 16 (fun _ q => XS.iloadN X0.here hx rfl (hb hby d10_15) rfl q) ?_
  refine own_tp (.int (1 : Int32)) 17 (fun _ q => XS.iconst X0.here hx rfl (hb hby d10_16) q) ?_
  refine own_d2 35 (fun _ q => XS.icmpYes X0.here hx rfl (pc0 := 17) (pc' := 35) rfl (hb hby d10_17) rfl (feq (by decide : ¬ ((3 : Int32) = (1 : Int32)))).2 (by decide) (by decide) q) ?_
  refine own_tp (.int (3 : Int32)) 36 (fun _ q => XS.iloadN X0.here hx rfl (hb hby d10_35) rfl q) ?_
  refine own_tp (.int (2 : Int32)) 37 (fun _ q => XS.iconst X0.here hx rfl (hb hby d10_36) q) ?_
  refine own_d2 59 (fun _ q => XS.icmpYes X0.here hx rfl (pc0 := 37) (pc' := 59) rfl (hb hby d10_37) rfl (feq (by decide : ¬ ((3 : Int32) = (2 : Int32)))).2 (by decide) (by decide) q) ?_
  refine own_tp (.int (3 : Int32)) 60 (fun _ q => XS.iloadN X0.here hx rfl (hb hby d10_59) rfl q) ?_
  refine own_tp (.int (3 : Int32)) 61 (fun _ q => XS.iconst X0.here hx rfl (hb hby d10_60) q) ?_
  refine own_d2 64 (fun _ q => XS.icmpNo X0.here hx rfl (hb hby d10_61) rfl (teq (by decide : (3 : Int32) = (3 : Int32))).2 q) ?_
  obtain ⟨T51, h51, X51, e51, E51, A51, D51, -, st51⟩ := newO X0 hx hZ hown (hw _ (List.mem_of_getElem? (i := 9) rfl)) (hw _ (List.mem_of_getElem? (i := 10) rfl)) (hw _ (List.mem_of_getElem? (i := 11) rfl)) e0 (g := (mkF m 64 #[.val (.int (3 : Int32)), .val (.int c0), .val (.int c1), .val (.int c2), .val (.int c3)] [])) rfl (hb hby d10_64) (by decide) (by decide)
  obtain ⟨b51, g51⟩ : ∃ z, z = h0.size := ⟨_, rfl⟩
  rw [← g51] at A51 D51 st51
  have ge51 : n0 ≤ b51 := Nat.le_trans Z0 (Nat.le_of_eq g51.symm)
  have sz51 : h0.size ≤ b51 := Nat.le_trans (Keep.refl h0 []).1 (Nat.le_of_eq g51.symm)
  have O51 := Old.ext O0 E51
  have K51 : Keep h0 h51 [] := (Keep.refl h0 []).ext E51
  have Z51 : n0 ≤ h51.size := Nat.le_trans Z0 E51.1
  have Fvalue_51 : Fld Z h51 b51 "java/lang/String" "value" "[B" .null := D51 (Or.inr (hw _ (List.mem_of_getElem? (i := 25) rfl))) (ty := (.array .byte)) (by decide)
  have Fcoder_51 : Fld Z h51 b51 "java/lang/String" "coder" "B" (.int (0 : Int32)) := D51 (Or.inr (hw _ (List.mem_of_getElem? (i := 26) rfl))) (ty := .byte) (by decide)
  refine own_tp (.ref b51) 67 st51 ?_
  refine own_tp (.ref b51) 68 (fun _ q => XS.dup X51.here hx rfl (hb hby d10_67) rfl rfl q) ?_
  refine own_tp (.int (3 : Int32)) 69 (fun _ q => XS.iconst X51.here hx rfl (hb hby d10_68) q) ?_
  obtain ⟨T52, h52, k52, X52, e52, E52, A52, st52⟩ := newP X51 hx hZ (hw _ (List.mem_of_getElem? (i := 12) rfl)) e51 (g := (mkF m 69 #[.val (.int (3 : Int32)), .val (.int c0), .val (.int c1), .val (.int c2), .val (.int c3)] [(.int (3 : Int32)), (.ref b51), (.ref b51)])) rfl (hb hby d10_69) rfl (by decide) (cap := 3) (by decide) (by decide) (by decide) (by decide)
  obtain ⟨b52, g52⟩ : ∃ z, z = h51.size := ⟨_, rfl⟩
  rw [← g52] at A52 st52
  have V52 : Arv Z h52 b52 k52 .char (3 : Int32) [(.int (0 : Int32)), (.int (0 : Int32)), (.int (0 : Int32))] (.int (0 : Int32)) := (Arv.new A52 (by decide)).pad (pad_rep [] (.int (0 : Int32)) 3)
  have ge52 : n0 ≤ b52 := Nat.le_trans Z51 (Nat.le_of_eq g52.symm)
  have sz52 : h0.size ≤ b52 := Nat.le_trans K51.1 (Nat.le_of_eq g52.symm)
  have ne53 : b51 ≠ b52 := Nat.ne_of_lt (Nat.lt_of_lt_of_le A51.lt (Nat.le_of_eq g52.symm))
  have O52 := Old.ext O51 E52
  have K52 : Keep h0 h52 [] := K51.ext E52
  have Z52 : n0 ≤ h52.size := Nat.le_trans Z51 E52.1
  refine own_t1 (.ref b52) 71 st52 ?_
  refine own_tp (.ref b52) 72 (fun _ q => XS.dup X52.here hx rfl (hb hby d10_71) rfl rfl q) ?_
  refine own_tp (.int (0 : Int32)) 73 (fun _ q => XS.iconst X52.here hx rfl (hb hby d10_72) q) ?_
  refine own_tp (.int c0) 74 (fun _ q => XS.iloadN X52.here hx rfl (hb hby d10_73) rfl q) ?_
  obtain ⟨cl54, Ar54, q54, S54, Nn54, H54, G54⟩ := (id V52)
  have hin54 : ¬ ((0 : Int32) < 0 ∨ cl54.slots.size ≤ ((0 : Int32)).toNatClampNeg) := inb_of S54 ⟨by decide, by decide⟩
  obtain ⟨T55, h55, X55, e55, W55, st55⟩ := stC X52 hx hZ e52 Ar54 (j := (0 : Int32)) hin54 (g := (mkF m 74 #[.val (.int (3 : Int32)), .val (.int c0), .val (.int c1), .val (.int c2), .val (.int c3)] [(.int c0), (.int (0 : Int32)), (.ref b52), (.ref b52), (.ref b51), (.ref b51)])) rfl rfl (hb hby d10_74)
  have V55 := Arv.set Ar54 q54 S54 Nn54 H54 G54 (fits_nar_char _) W55 0 rfl (Nat.le_of_ble_eq_true rfl)
  have N55 := Fr.snoc X55 N0 ge52
  have O55 := Old.wr O52 W55 ge52
  have K55 : Keep h0 h55 [] := K52.wr W55 (Or.inr sz52)
  have Z55 : n0 ≤ h55.size := Nat.le_trans Z52 (Nat.le_of_eq W55.size.symm)
  have V55' : Arv Z h55 b52 k52 .char (3 : Int32) [(.int c0), (.int (0 : Int32)), (.int (0 : Int32))] (.int (0 : Int32)) := by have q := V55; first | (rw [own_narc hc0] at q; exact q) | (rw [own_i2c hc0] at q; exact q)
  refine own_cs [(.ref b52), (.ref b51), (.ref b51)] 75 st55 ?_
  refine own_tp (.ref b52) 76 (fun _ q => XS.dup X55.here hx rfl (hb hby d10_75) rfl rfl q) ?_
  refine own_tp (.int (1 : Int32)) 77 (fun _ q => XS.iconst X55.here hx rfl (hb hby d10_76) q) ?_
  refine own_tp (.int c1) 78 (fun _ q => XS.iloadN X55.here hx rfl (hb hby d10_77) rfl q) ?_
  obtain ⟨cl56, Ar56, q56, S56, Nn56, H56, G56⟩ := (id V55')
  have hin56 : ¬ ((1 : Int32) < 0 ∨ cl56.slots.size ≤ ((1 : Int32)).toNatClampNeg) := inb_of S56 ⟨by decide, by decide⟩
  obtain ⟨T57, h57, X57, e57, W57, st57⟩ := stC X55 hx hZ e55 Ar56 (j := (1 : Int32)) hin56 (g := (mkF m 78 #[.val (.int (3 : Int32)), .val (.int c0), .val (.int c1), .val (.int c2), .val (.int c3)] [(.int c1), (.int (1 : Int32)), (.ref b52), (.ref b52), (.ref b51), (.ref b51)])) rfl rfl (hb hby d10_78)
  have V57 := Arv.set Ar56 q56 S56 Nn56 H56 G56 (fits_nar_char _) W57 1 rfl (Nat.le_of_ble_eq_true rfl)
  have N57 := Fr.snoc X57 N55 ge52
  have O57 := Old.wr O55 W57 ge52
  have K57 : Keep h0 h57 [] := K55.wr W57 (Or.inr sz52)
  have Z57 : n0 ≤ h57.size := Nat.le_trans Z55 (Nat.le_of_eq W57.size.symm)
  have V57' : Arv Z h57 b52 k52 .char (3 : Int32) [(.int c0), (.int c1), (.int (0 : Int32))] (.int (0 : Int32)) := by have q := V57; first | (rw [own_narc hc1] at q; exact q) | (rw [own_i2c hc1] at q; exact q)
  refine own_cs [(.ref b52), (.ref b51), (.ref b51)] 79 st57 ?_
  refine own_tp (.ref b52) 80 (fun _ q => XS.dup X57.here hx rfl (hb hby d10_79) rfl rfl q) ?_
  refine own_tp (.int (2 : Int32)) 81 (fun _ q => XS.iconst X57.here hx rfl (hb hby d10_80) q) ?_
  refine own_tp (.int c2) 82 (fun _ q => XS.iloadN X57.here hx rfl (hb hby d10_81) rfl q) ?_
  obtain ⟨cl58, Ar58, q58, S58, Nn58, H58, G58⟩ := (id V57')
  have hin58 : ¬ ((2 : Int32) < 0 ∨ cl58.slots.size ≤ ((2 : Int32)).toNatClampNeg) := inb_of S58 ⟨by decide, by decide⟩
  obtain ⟨T59, h59, X59, e59, W59, st59⟩ := stC X57 hx hZ e57 Ar58 (j := (2 : Int32)) hin58 (g := (mkF m 82 #[.val (.int (3 : Int32)), .val (.int c0), .val (.int c1), .val (.int c2), .val (.int c3)] [(.int c2), (.int (2 : Int32)), (.ref b52), (.ref b52), (.ref b51), (.ref b51)])) rfl rfl (hb hby d10_82)
  have V59 := Arv.set Ar58 q58 S58 Nn58 H58 G58 (fits_nar_char _) W59 2 rfl (Nat.le_of_ble_eq_true rfl)
  have N59 := Fr.snoc X59 N57 ge52
  have O59 := Old.wr O57 W59 ge52
  have K59 : Keep h0 h59 [] := K57.wr W59 (Or.inr sz52)
  have Z59 : n0 ≤ h59.size := Nat.le_trans Z57 (Nat.le_of_eq W59.size.symm)
  have V59' : Arv Z h59 b52 k52 .char (3 : Int32) [(.int c0), (.int c1), (.int c2)] (.int (0 : Int32)) := by have q := V59; first | (rw [own_narc hc2] at q; exact q) | (rw [own_i2c hc2] at q; exact q)
  refine own_cs [(.ref b52), (.ref b51), (.ref b51)] 83 st59 ?_
  have f60 := ((((A51.ext E52).wr W55).wr W57).wr W59)
  have f61 := ((((Fvalue_51.ext E52).other W55 (Or.inl ne53)).other W57 (Or.inl ne53)).other W59 (Or.inl ne53))
  have f62 := ((((Fcoder_51.ext E52).other W55 (Or.inl ne53)).other W57 (Or.inl ne53)).other W59 (Or.inl ne53))
  obtain ⟨_, _, ⟨T63, L63, k63, n63⟩, -, X63, ⟨Lc63, hQ63, l63, y63, z63⟩, st63⟩ := X59.specialBack hx (y := (⟨"java/lang/String", "<init>", "([C)V"⟩ : MethodName)) rfl hown (mvT hZ (hw _ (List.mem_of_getElem? (i := 13) rfl))) (mvT hZ (hw _ (List.mem_of_getElem? (i := 14) rfl))) (mvT hZ (hw _ (List.mem_of_getElem? (i := 15) rfl))) (by decide) (backOf (W := 1) (rm150 l Z a0 hw [] b51 b52 k52 c0 c1 c2 _ _ h59 n0 Z59 ge51 ne53 hc0 hc1 hc2 V59' f60 f61 f62 G1 US O59) hZ (hw _ (List.mem_of_getElem? (i := 15) rfl)) (hw _ (List.mem_of_getElem? (i := 11) rfl)) (by decide) (by decide)) (g := (mkF m 83 #[.val (.int (3 : Int32)), .val (.int c0), .val (.int c1), .val (.int c2), .val (.int c3)] [(.ref b52), (.ref b51), (.ref b51)])) rfl (by rw [hml]; rfl) (Steps.refl _) (a := b51) (argsL := [(.ref b52)]) (rest := [(.ref b51)]) (lenOf pd10_0 rfl) rfl (by show 2 * 0 + _ ≤ _; exact Nat.le_of_eq rfl) (hb hby d10_83) (fun _ _ => ⟨rfl, e59, (by decide : 2 + 2 ≤ _), (by decide : 7 + 9 ≤ _)⟩)
  dsimp only [Pt.U, Pt.locs, Pt.cells, Pt.slots] at X63 l63 y63 z63 st63 hQ63
  subst l63 y63 z63
  obtain ⟨rfl, Nq63, Kp63, t63, kb63, cd63, Nn63, vs63, gt63, st_63, A63, Vl63, Cd63, V63, Co63⟩ := hQ63
  have N63 := Fr.app N59 Nq63
  have O63 := Old.keep O59 Kp63 (allS ge51 all0)
  have Z63 : n0 ≤ T63.heap.size := Nat.le_trans Z59 Kp63.1
  have K63 : Keep h0 T63.heap [] := Keep.trans K59 Kp63 (allS (Or.inr sz51) all0)
  have SS63 : own_S Z T63.heap b51 [c0, c1, c2] := ⟨t63, kb63, cd63, Nn63, vs63, A63, Vl63, Cd63, V63, Co63⟩
  refine own_csR [(.ref b51)] 86 st63 ?_
  exact own_retR X63 hx hrt (hb hby d10_86) rfl rfl hlk (by decide) (by decide) rfl (⟨b51, rfl, N63, K63, ge51, sz51, SS63⟩)

def Q11 (Z : State) (c0 c1 c2 c3 : Int32) (h0 : Heap) (n0 : Nat) (v : Option Value) (h : Heap) (L : List Loc) : Prop := ∃ s : Addr, v = some (.ref s) ∧ Fr n0 L ∧ Keep h0 h [] ∧ n0 ≤ s ∧ h0.size ≤ s ∧ own_S Z h s [c0, c1, c2, c3]

theorem d11_0 : decode method_5_code 0 = .ok (.iload_n 0, 1) := by decide +kernel
theorem d11_1 : decode method_5_code 1 = .ok (.ifCond .ne 14, 3) := by decide +kernel
theorem d11_15 : decode method_5_code 15 = .ok (.iload_n 0, 1) := by decide +kernel
theorem d11_16 : decode method_5_code 16 = .ok (.iconst 1, 1) := by decide +kernel
theorem d11_17 : decode method_5_code 17 = .ok (.if_icmp .ne 18, 3) := by decide +kernel
theorem d11_35 : decode method_5_code 35 = .ok (.iload_n 0, 1) := by decide +kernel
theorem d11_36 : decode method_5_code 36 = .ok (.iconst 2, 1) := by decide +kernel
theorem d11_37 : decode method_5_code 37 = .ok (.if_icmp .ne 22, 3) := by decide +kernel
theorem d11_59 : decode method_5_code 59 = .ok (.iload_n 0, 1) := by decide +kernel
theorem d11_60 : decode method_5_code 60 = .ok (.iconst 3, 1) := by decide +kernel
theorem d11_61 : decode method_5_code 61 = .ok (.if_icmp .ne 26, 3) := by decide +kernel
theorem d11_87 : decode method_5_code 87 = .ok (.new 30, 3) := by decide +kernel
theorem d11_90 : decode method_5_code 90 = .ok (.dup, 1) := by decide +kernel
theorem d11_91 : decode method_5_code 91 = .ok (.iconst 4, 1) := by decide +kernel
theorem d11_92 : decode method_5_code 92 = .ok (.newarray .char, 2) := by decide +kernel
theorem d11_94 : decode method_5_code 94 = .ok (.dup, 1) := by decide +kernel
theorem d11_95 : decode method_5_code 95 = .ok (.iconst 0, 1) := by decide +kernel
theorem d11_96 : decode method_5_code 96 = .ok (.iload_n 1, 1) := by decide +kernel
theorem d11_97 : decode method_5_code 97 = .ok (.castore, 1) := by decide +kernel
theorem d11_98 : decode method_5_code 98 = .ok (.dup, 1) := by decide +kernel
theorem d11_99 : decode method_5_code 99 = .ok (.iconst 1, 1) := by decide +kernel
theorem d11_100 : decode method_5_code 100 = .ok (.iload_n 2, 1) := by decide +kernel
theorem d11_101 : decode method_5_code 101 = .ok (.castore, 1) := by decide +kernel
theorem d11_102 : decode method_5_code 102 = .ok (.dup, 1) := by decide +kernel
theorem d11_103 : decode method_5_code 103 = .ok (.iconst 2, 1) := by decide +kernel
theorem d11_104 : decode method_5_code 104 = .ok (.iload_n 3, 1) := by decide +kernel
theorem d11_105 : decode method_5_code 105 = .ok (.castore, 1) := by decide +kernel
theorem d11_106 : decode method_5_code 106 = .ok (.dup, 1) := by decide +kernel
theorem d11_107 : decode method_5_code 107 = .ok (.iconst 3, 1) := by decide +kernel
theorem d11_108 : decode method_5_code 108 = .ok (.iload 4, 2) := by decide +kernel
theorem d11_110 : decode method_5_code 110 = .ok (.castore, 1) := by decide +kernel
theorem d11_111 : decode method_5_code 111 = .ok (.invokespecial 32, 3) := by decide +kernel
theorem d11_114 : decode method_5_code 114 = .ok (.areturn, 1) := by decide +kernel
theorem pn11 : plainName "com/example/leastwise/leastwise/provisioning/WordLinesSpacesAlonePinLaw" = true := by first | (simp [plainName, overriddenIn]; done) | decide +kernel
theorem pd11_0 : parseMethodDescriptor "([C)V" = some ⟨[(.array .char)], none⟩ := by decide +kernel
theorem ef11 (m : MethodId) (x0 : Int32) (x1 : Int32) (x2 : Int32) (x3 : Int32) (x4 : Int32) : entryFrame m #[(.int x0), (.int x1), (.int x2), (.int x3), (.int x4)] 5 = mkF m 0 #[.val (.int x0), .val (.int x1), .val (.int x2), .val (.int x3), .val (.int x4)] [] := by first | (simp [entryFrame, mkF, argsToLocals, Value.category]; done) | rfl
set_option maxRecDepth 65536 in
set_option maxHeartbeats 40000000 in
theorem rm11 (l : Launch) (Z : State) (a0 : Array Value) (hw : ∀ d ∈ tables_1, d.before a0 Z = true) (ws : List Jvm.Cond) (c0 c1 c2 c3 : Int32) (h0 : Heap) (n0 : Nat) (Z0 : n0 ≤ h0.size) (hc0 : 0 ≤ c0.toInt ∧ c0.toInt ≤ 65535) (hc1 : 0 ≤ c1.toInt ∧ c1.toInt ≤ 65535) (hc2 : 0 ≤ c2.toInt ∧ c2.toInt ≤ 65535) (hc3 : 0 ≤ c3.toInt ∧ c3.toInt ≤ 65535) (G1 : Int32) (US : own_US Z G1) (O0 : Old Z n0 h0) :
    own_Met l (⟨"com/example/leastwise/leastwise/provisioning/WordLinesSpacesAlonePinLaw", "make", "(ICCCC)Ljava/lang/String;"⟩ : MethodName) method_5_code 5 (some (.object "java/lang/String")) ws ({ frames := 6, cells := 4, slots := 20, locals := 92 } : Room) Z #[(.int (4 : Int32)), (.int c0), (.int c1), (.int c2), (.int c3)] h0 (Q11 Z c0 c1 c2 c3 h0 n0) := by
  refine own_enter #[.val (.int (4 : Int32)), .val (.int c0), .val (.int c1), .val (.int c2), .val (.int c3)] (plainFor_of_name pn11) (fun m => ef11 m (4 : Int32) c0 c1 c2 c3) ?_
  intro p e s m below meth c s₁ hx hby hml hown hnm hZ hrt hlk X0 e0
  have N0 := Fr.nil n0
  refine own_tp (.int (4 : Int32)) 1 (fun _ q => XS.iloadN X0.here hx rfl (hb hby d11_0) rfl q) ?_
  refine own_d1 15 (fun _ q => XS.ifYes X0.here hx rfl (pc0 := 1) (pc' := 15) rfl (hb hby d11_1) rfl ((if0 _ _).trans (feq (by decide : ¬ ((4 : Int32) = (0 : Int32)))).2) (by decide) (by decide) q) ?_
  refine own_tp (.int (4 : Int32)) 16 (fun _ q => XS.iloadN X0.here hx rfl (hb hby d11_15) rfl q) ?_
  refine own_tp (.int (1 : Int32)) 17 (fun _ q => XS.iconst X0.here hx rfl (hb hby d11_16) q) ?_
  refine own_d2 35 (fun _ q => XS.icmpYes X0.here hx rfl (pc0 := 17) (pc' := 35) rfl (hb hby d11_17) rfl (feq (by decide : ¬ ((4 : Int32) = (1 : Int32)))).2 (by decide) (by decide) q) ?_
  refine own_tp (.int (4 : Int32)) 36 (fun _ q => XS.iloadN X0.here hx rfl (hb hby d11_35) rfl q) ?_
  refine own_tp (.int (2 : Int32)) 37 (fun _ q => XS.iconst X0.here hx rfl (hb hby d11_36) q) ?_
  refine own_d2 59 (fun _ q => XS.icmpYes X0.here hx rfl (pc0 := 37) (pc' := 59) rfl (hb hby d11_37) rfl (feq (by decide : ¬ ((4 : Int32) = (2 : Int32)))).2 (by decide) (by decide) q) ?_
  refine own_tp (.int (4 : Int32)) 60 (fun _ q => XS.iloadN X0.here hx rfl (hb hby d11_59) rfl q) ?_
  refine own_tp (.int (3 : Int32)) 61 (fun _ q => XS.iconst X0.here hx rfl (hb hby d11_60) q) ?_
  refine own_d2 87 (fun _ q => XS.icmpYes X0.here hx rfl (pc0 := 61) (pc' := 87) rfl (hb hby d11_61) rfl (feq (by decide : ¬ ((4 : Int32) = (3 : Int32)))).2 (by decide) (by decide) q) ?_
  obtain ⟨T51, h51, X51, e51, E51, A51, D51, -, st51⟩ := newO X0 hx hZ hown (hw _ (List.mem_of_getElem? (i := 9) rfl)) (hw _ (List.mem_of_getElem? (i := 10) rfl)) (hw _ (List.mem_of_getElem? (i := 11) rfl)) e0 (g := (mkF m 87 #[.val (.int (4 : Int32)), .val (.int c0), .val (.int c1), .val (.int c2), .val (.int c3)] [])) rfl (hb hby d11_87) (by decide) (by decide)
  obtain ⟨b51, g51⟩ : ∃ z, z = h0.size := ⟨_, rfl⟩
  rw [← g51] at A51 D51 st51
  have ge51 : n0 ≤ b51 := Nat.le_trans Z0 (Nat.le_of_eq g51.symm)
  have sz51 : h0.size ≤ b51 := Nat.le_trans (Keep.refl h0 []).1 (Nat.le_of_eq g51.symm)
  have O51 := Old.ext O0 E51
  have K51 : Keep h0 h51 [] := (Keep.refl h0 []).ext E51
  have Z51 : n0 ≤ h51.size := Nat.le_trans Z0 E51.1
  have Fvalue_51 : Fld Z h51 b51 "java/lang/String" "value" "[B" .null := D51 (Or.inr (hw _ (List.mem_of_getElem? (i := 25) rfl))) (ty := (.array .byte)) (by decide)
  have Fcoder_51 : Fld Z h51 b51 "java/lang/String" "coder" "B" (.int (0 : Int32)) := D51 (Or.inr (hw _ (List.mem_of_getElem? (i := 26) rfl))) (ty := .byte) (by decide)
  refine own_tp (.ref b51) 90 st51 ?_
  refine own_tp (.ref b51) 91 (fun _ q => XS.dup X51.here hx rfl (hb hby d11_90) rfl rfl q) ?_
  refine own_tp (.int (4 : Int32)) 92 (fun _ q => XS.iconst X51.here hx rfl (hb hby d11_91) q) ?_
  obtain ⟨T52, h52, k52, X52, e52, E52, A52, st52⟩ := newP X51 hx hZ (hw _ (List.mem_of_getElem? (i := 12) rfl)) e51 (g := (mkF m 92 #[.val (.int (4 : Int32)), .val (.int c0), .val (.int c1), .val (.int c2), .val (.int c3)] [(.int (4 : Int32)), (.ref b51), (.ref b51)])) rfl (hb hby d11_92) rfl (by decide) (cap := 4) (by decide) (by decide) (by decide) (by decide)
  obtain ⟨b52, g52⟩ : ∃ z, z = h51.size := ⟨_, rfl⟩
  rw [← g52] at A52 st52
  have V52 : Arv Z h52 b52 k52 .char (4 : Int32) [(.int (0 : Int32)), (.int (0 : Int32)), (.int (0 : Int32)), (.int (0 : Int32))] (.int (0 : Int32)) := (Arv.new A52 (by decide)).pad (pad_rep [] (.int (0 : Int32)) 4)
  have ge52 : n0 ≤ b52 := Nat.le_trans Z51 (Nat.le_of_eq g52.symm)
  have sz52 : h0.size ≤ b52 := Nat.le_trans K51.1 (Nat.le_of_eq g52.symm)
  have ne53 : b51 ≠ b52 := Nat.ne_of_lt (Nat.lt_of_lt_of_le A51.lt (Nat.le_of_eq g52.symm))
  have O52 := Old.ext O51 E52
  have K52 : Keep h0 h52 [] := K51.ext E52
  have Z52 : n0 ≤ h52.size := Nat.le_trans Z51 E52.1
  refine own_t1 (.ref b52) 94 st52 ?_
  refine own_tp (.ref b52) 95 (fun _ q => XS.dup X52.here hx rfl (hb hby d11_94) rfl rfl q) ?_
  refine own_tp (.int (0 : Int32)) 96 (fun _ q => XS.iconst X52.here hx rfl (hb hby d11_95) q) ?_
  refine own_tp (.int c0) 97 (fun _ q => XS.iloadN X52.here hx rfl (hb hby d11_96) rfl q) ?_
  obtain ⟨cl54, Ar54, q54, S54, Nn54, H54, G54⟩ := (id V52)
  have hin54 : ¬ ((0 : Int32) < 0 ∨ cl54.slots.size ≤ ((0 : Int32)).toNatClampNeg) := inb_of S54 ⟨by decide, by decide⟩
  obtain ⟨T55, h55, X55, e55, W55, st55⟩ := stC X52 hx hZ e52 Ar54 (j := (0 : Int32)) hin54 (g := (mkF m 97 #[.val (.int (4 : Int32)), .val (.int c0), .val (.int c1), .val (.int c2), .val (.int c3)] [(.int c0), (.int (0 : Int32)), (.ref b52), (.ref b52), (.ref b51), (.ref b51)])) rfl rfl (hb hby d11_97)
  have V55 := Arv.set Ar54 q54 S54 Nn54 H54 G54 (fits_nar_char _) W55 0 rfl (Nat.le_of_ble_eq_true rfl)
  have N55 := Fr.snoc X55 N0 ge52
  have O55 := Old.wr O52 W55 ge52
  have K55 : Keep h0 h55 [] := K52.wr W55 (Or.inr sz52)
  have Z55 : n0 ≤ h55.size := Nat.le_trans Z52 (Nat.le_of_eq W55.size.symm)
  have V55' : Arv Z h55 b52 k52 .char (4 : Int32) [(.int c0), (.int (0 : Int32)), (.int (0 : Int32)), (.int (0 : Int32))] (.int (0 : Int32)) := by have q := V55; first | (rw [own_narc hc0] at q; exact q) | (rw [own_i2c hc0] at q; exact q)
  refine own_cs [(.ref b52), (.ref b51), (.ref b51)] 98 st55 ?_
  refine own_tp (.ref b52) 99 (fun _ q => XS.dup X55.here hx rfl (hb hby d11_98) rfl rfl q) ?_
  refine own_tp (.int (1 : Int32)) 100 (fun _ q => XS.iconst X55.here hx rfl (hb hby d11_99) q) ?_
  refine own_tp (.int c1) 101 (fun _ q => XS.iloadN X55.here hx rfl (hb hby d11_100) rfl q) ?_
  obtain ⟨cl56, Ar56, q56, S56, Nn56, H56, G56⟩ := (id V55')
  have hin56 : ¬ ((1 : Int32) < 0 ∨ cl56.slots.size ≤ ((1 : Int32)).toNatClampNeg) := inb_of S56 ⟨by decide, by decide⟩
  obtain ⟨T57, h57, X57, e57, W57, st57⟩ := stC X55 hx hZ e55 Ar56 (j := (1 : Int32)) hin56 (g := (mkF m 101 #[.val (.int (4 : Int32)), .val (.int c0), .val (.int c1), .val (.int c2), .val (.int c3)] [(.int c1), (.int (1 : Int32)), (.ref b52), (.ref b52), (.ref b51), (.ref b51)])) rfl rfl (hb hby d11_101)
  have V57 := Arv.set Ar56 q56 S56 Nn56 H56 G56 (fits_nar_char _) W57 1 rfl (Nat.le_of_ble_eq_true rfl)
  have N57 := Fr.snoc X57 N55 ge52
  have O57 := Old.wr O55 W57 ge52
  have K57 : Keep h0 h57 [] := K55.wr W57 (Or.inr sz52)
  have Z57 : n0 ≤ h57.size := Nat.le_trans Z55 (Nat.le_of_eq W57.size.symm)
  have V57' : Arv Z h57 b52 k52 .char (4 : Int32) [(.int c0), (.int c1), (.int (0 : Int32)), (.int (0 : Int32))] (.int (0 : Int32)) := by have q := V57; first | (rw [own_narc hc1] at q; exact q) | (rw [own_i2c hc1] at q; exact q)
  refine own_cs [(.ref b52), (.ref b51), (.ref b51)] 102 st57 ?_
  refine own_tp (.ref b52) 103 (fun _ q => XS.dup X57.here hx rfl (hb hby d11_102) rfl rfl q) ?_
  refine own_tp (.int (2 : Int32)) 104 (fun _ q => XS.iconst X57.here hx rfl (hb hby d11_103) q) ?_
  refine own_tp (.int c2) 105 (fun _ q => XS.iloadN X57.here hx rfl (hb hby d11_104) rfl q) ?_
  obtain ⟨cl58, Ar58, q58, S58, Nn58, H58, G58⟩ := (id V57')
  have hin58 : ¬ ((2 : Int32) < 0 ∨ cl58.slots.size ≤ ((2 : Int32)).toNatClampNeg) := inb_of S58 ⟨by decide, by decide⟩
  obtain ⟨T59, h59, X59, e59, W59, st59⟩ := stC X57 hx hZ e57 Ar58 (j := (2 : Int32)) hin58 (g := (mkF m 105 #[.val (.int (4 : Int32)), .val (.int c0), .val (.int c1), .val (.int c2), .val (.int c3)] [(.int c2), (.int (2 : Int32)), (.ref b52), (.ref b52), (.ref b51), (.ref b51)])) rfl rfl (hb hby d11_105)
  have V59 := Arv.set Ar58 q58 S58 Nn58 H58 G58 (fits_nar_char _) W59 2 rfl (Nat.le_of_ble_eq_true rfl)
  have N59 := Fr.snoc X59 N57 ge52
  have O59 := Old.wr O57 W59 ge52
  have K59 : Keep h0 h59 [] := K57.wr W59 (Or.inr sz52)
  have Z59 : n0 ≤ h59.size := Nat.le_trans Z57 (Nat.le_of_eq W59.size.symm)
  have V59' : Arv Z h59 b52 k52 .char (4 : Int32) [(.int c0), (.int c1), (.int c2), (.int (0 : Int32))] (.int (0 : Int32)) := by have q := V59; first | (rw [own_narc hc2] at q; exact q) | (rw [own_i2c hc2] at q; exact q)
  refine own_cs [(.ref b52), (.ref b51), (.ref b51)] 106 st59 ?_
  refine own_tp (.ref b52) 107 (fun _ q => XS.dup X59.here hx rfl (hb hby d11_106) rfl rfl q) ?_
  refine own_tp (.int (3 : Int32)) 108 (fun _ q => XS.iconst X59.here hx rfl (hb hby d11_107) q) ?_
  refine own_tp (.int c3) 110 (fun _ q => XS.iload X59.here hx rfl (hb hby d11_108) rfl q) ?_
  obtain ⟨cl60, Ar60, q60, S60, Nn60, H60, G60⟩ := (id V59')
  have hin60 : ¬ ((3 : Int32) < 0 ∨ cl60.slots.size ≤ ((3 : Int32)).toNatClampNeg) := inb_of S60 ⟨by decide, by decide⟩
  obtain ⟨T61, h61, X61, e61, W61, st61⟩ := stC X59 hx hZ e59 Ar60 (j := (3 : Int32)) hin60 (g := (mkF m 110 #[.val (.int (4 : Int32)), .val (.int c0), .val (.int c1), .val (.int c2), .val (.int c3)] [(.int c3), (.int (3 : Int32)), (.ref b52), (.ref b52), (.ref b51), (.ref b51)])) rfl rfl (hb hby d11_110)
  have V61 := Arv.set Ar60 q60 S60 Nn60 H60 G60 (fits_nar_char _) W61 3 rfl (Nat.le_of_ble_eq_true rfl)
  have N61 := Fr.snoc X61 N59 ge52
  have O61 := Old.wr O59 W61 ge52
  have K61 : Keep h0 h61 [] := K59.wr W61 (Or.inr sz52)
  have Z61 : n0 ≤ h61.size := Nat.le_trans Z59 (Nat.le_of_eq W61.size.symm)
  have V61' : Arv Z h61 b52 k52 .char (4 : Int32) [(.int c0), (.int c1), (.int c2), (.int c3)] (.int (0 : Int32)) := by have q := V61; first | (rw [own_narc hc3] at q; exact q) | (rw [own_i2c hc3] at q; exact q)
  refine own_cs [(.ref b52), (.ref b51), (.ref b51)] 111 st61 ?_
  have f62 := (((((A51.ext E52).wr W55).wr W57).wr W59).wr W61)
  have f63 := (((((Fvalue_51.ext E52).other W55 (Or.inl ne53)).other W57 (Or.inl ne53)).other W59 (Or.inl ne53)).other W61 (Or.inl ne53))
  have f64 := (((((Fcoder_51.ext E52).other W55 (Or.inl ne53)).other W57 (Or.inl ne53)).other W59 (Or.inl ne53)).other W61 (Or.inl ne53))
  obtain ⟨_, _, ⟨T65, L65, k65, n65⟩, -, X65, ⟨Lc65, hQ65, l65, y65, z65⟩, st65⟩ := X61.specialBack hx (y := (⟨"java/lang/String", "<init>", "([C)V"⟩ : MethodName)) rfl hown (mvT hZ (hw _ (List.mem_of_getElem? (i := 13) rfl))) (mvT hZ (hw _ (List.mem_of_getElem? (i := 14) rfl))) (mvT hZ (hw _ (List.mem_of_getElem? (i := 15) rfl))) (by decide) (backOf (W := 1) (rm159 l Z a0 hw [] b51 b52 k52 c0 c1 c2 c3 _ _ h61 n0 Z61 ge51 ne53 hc0 hc1 hc2 hc3 V61' f62 f63 f64 G1 US O61) hZ (hw _ (List.mem_of_getElem? (i := 15) rfl)) (hw _ (List.mem_of_getElem? (i := 11) rfl)) (by decide) (by decide)) (g := (mkF m 111 #[.val (.int (4 : Int32)), .val (.int c0), .val (.int c1), .val (.int c2), .val (.int c3)] [(.ref b52), (.ref b51), (.ref b51)])) rfl (by rw [hml]; rfl) (Steps.refl _) (a := b51) (argsL := [(.ref b52)]) (rest := [(.ref b51)]) (lenOf pd11_0 rfl) rfl (by show 2 * 0 + _ ≤ _; exact Nat.le_of_eq rfl) (hb hby d11_111) (fun _ _ => ⟨rfl, e61, (by decide : 2 + 2 ≤ _), (by decide : 8 + 12 ≤ _)⟩)
  dsimp only [Pt.U, Pt.locs, Pt.cells, Pt.slots] at X65 l65 y65 z65 st65 hQ65
  subst l65 y65 z65
  obtain ⟨rfl, Nq65, Kp65, t65, kb65, cd65, Nn65, vs65, gt65, st_65, A65, Vl65, Cd65, V65, Co65⟩ := hQ65
  have N65 := Fr.app N61 Nq65
  have O65 := Old.keep O61 Kp65 (allS ge51 all0)
  have Z65 : n0 ≤ T65.heap.size := Nat.le_trans Z61 Kp65.1
  have K65 : Keep h0 T65.heap [] := Keep.trans K61 Kp65 (allS (Or.inr sz51) all0)
  have SS65 : own_S Z T65.heap b51 [c0, c1, c2, c3] := ⟨t65, kb65, cd65, Nn65, vs65, A65, Vl65, Cd65, V65, Co65⟩
  refine own_csR [(.ref b51)] 114 st65 ?_
  exact own_retR X65 hx hrt (hb hby d11_114) rfl rfl hlk (by decide) (by decide) rfl (⟨b51, rfl, N65, K65, ge51, sz51, SS65⟩)

theorem pn0 : plainName "com/example/leastwise/leastwise/provisioning/WordLinesSpacesAlonePinLaw" = true := by first | (simp [plainName, overriddenIn]; done) | decide +kernel
theorem pd0_0 : parseMethodDescriptor "(I)C" = some ⟨[.int], some .char⟩ := by decide +kernel
theorem pd0_1 : parseMethodDescriptor "(ICCCC)Ljava/lang/String;" = some ⟨[.int, .char, .char, .char, .char], some (.object "java/lang/String")⟩ := by decide +kernel
theorem pd0_2 : parseMethodDescriptor "(Ljava/lang/String;)Z" = some ⟨[(.object "java/lang/String")], some .boolean⟩ := by decide +kernel
theorem pd0_3 : parseMethodDescriptor "(C)Z" = some ⟨[.char], some .boolean⟩ := by decide +kernel
theorem ef0 (m : MethodId) (x0 : Int32) (x1 : Int32) (x2 : Int32) (x3 : Int32) (x4 : Int32) : entryFrame m #[(.int x0), (.int x1), (.int x2), (.int x3), (.int x4)] maxLocals = mkF m 0 #[.val (.int x0), .val (.int x1), .val (.int x2), .val (.int x3), .val (.int x4), .unset, .unset, .unset, .unset, .unset, .unset, .unset] [] := by first | (simp [entryFrame, mkF, argsToLocals, Value.category, maxLocals]; done) | rfl
set_option maxRecDepth 65536 in
set_option maxHeartbeats 40000000 in
theorem rm0 (l : Launch) (Z : State) (a0 : Array Value) (hw : ∀ d ∈ tables_1, d.before a0 Z = true) (ws : List Jvm.Cond) (p0 p1 p2 p3 p4 : Int32) (h0 : Heap) (n0 : Nat) (hE : EW Z a0 own_EL) (Z0 : n0 ≤ h0.size) (G1 : Int32) (US : own_US Z G1) (O0 : Old Z n0 h0) (G3 : Value) (rG3 : G3.isRef = true) (Sf : Sta Z Z.heap "jdk/internal/util/Preconditions" "SIOOBE_FORMATTER" "Ljava/util/function/BiFunction;" G3) :
    own_MetW own_EL l x code maxLocals ret ws room_1 Z #[(.int p0), (.int p1), (.int p2), (.int p3), (.int p4)] h0 (Q0 h0 n0) := by
  refine own_enterW #[.val (.int p0), .val (.int p1), .val (.int p2), .val (.int p3), .val (.int p4), .unset, .unset, .unset, .unset, .unset, .unset, .unset] (plainFor_of_name pn0) (fun m => ef0 m p0 p1 p2 p3 p4) hE ?_
  intro p e s m below meth c s₁ hx hby hml hown hnm hZ hrt hlk X0 e0 Wd0
  have N0 := Fr.nil n0
  have wS := own_wS hw
  refine own_tp (.int p0) 1 (fun _ q => XS.iloadN X0.here hx rfl (hb hby at_0) rfl q) ?_
  let L_51 : Array Slot := #[.val (.int p0), .val (.int p1), .val (.int p2), .val (.int p3), .val (.int p4), .unset, .unset, .unset, .unset, .unset, .unset, .unset]
  refine own_tp (.int (2147483647 : Int32)) 3 (fun _ q => X0.ldcInt hx hown (mvT hZ (hw _ (List.mem_of_getElem? (i := 0) rfl))) (g := (mkF m 1 L_51 [(.int p0)])) rfl (hb hby at_1) _ q) ?_
  refine own_t2 (.int (p0 &&& (2147483647 : Int32))) 4 (fun _ q => XS.iand X0.here hx rfl (hb hby at_3) rfl q) ?_
  refine own_tp (.int (5 : Int32)) 5 (fun _ q => XS.iconst X0.here hx rfl (hb hby at_4) q) ?_
  refine own_t2 (.int ((p0 &&& (2147483647 : Int32)) % (5 : Int32))) 6 (fun _ q => iremM (g := (mkF m 5 L_51 [(.int (5 : Int32)), (.int (p0 &&& (2147483647 : Int32)))])) X0 hx rfl (hb hby at_5) rfl (by decide) q) ?_
  rcases (own_5 p0) with hk52 | hk53 | hk54 | hk55 | hk56
  ·
    rw [hk52]
    let L_57 : Array Slot := #[.val (.int p0), .val (.int p1), .val (.int p2), .val (.int p3), .val (.int p4), .val (.int (0 : Int32)), .unset, .unset, .unset, .unset, .unset, .unset]
    refine own_ls L_57 8 (fun _ q => XS.istore X0.here hx rfl (hb hby at_6) rfl (l' := L_57) rfl q) ?_
    refine own_tp (.int p1) 9 (fun _ q => XS.iloadN X0.here hx rfl (hb hby at_8) rfl q) ?_
    obtain ⟨_, _, ⟨T58, L58, k58, n58⟩, -, X58, ⟨Lc58, hQ58, l58, y58, z58⟩, st58⟩ := Jvm.LawKit.callS X0 hx (y := (⟨"com/example/leastwise/leastwise/provisioning/WordLinesSpacesAlonePinLaw", "draw", "(I)C"⟩ : MethodName)) hown (mvT hZ (hw _ (List.mem_of_getElem? (i := 1) rfl))) (mvT hZ (hw _ (List.mem_of_getElem? (i := 2) rfl))) (mvT hZ (hw _ (List.mem_of_getElem? (i := 3) rfl))) (mvT hZ (hw _ (List.mem_of_getElem? (i := 4) rfl))) (by decide) (backOf (W := 0) (rm1 l Z a0 hw [] p1 h0 n0) hZ (hw _ (List.mem_of_getElem? (i := 4) rfl)) (hw _ (List.mem_of_getElem? (i := 3) rfl)) (by decide) (by decide)) (g := (mkF m 9 L_57 [(.int p1)])) rfl (by rw [hml]; rfl) (argsL := [(.int p1)]) (rest := []) (lenOf pd0_0 rfl) rfl (by show 2 * 0 + _ ≤ _; exact Nat.le_of_eq rfl) (hb hby at_9) (fun _ _ => ⟨rfl, e0, (by decide : 0 + 0 ≤ _), (by decide : 0 + 0 ≤ _)⟩)
    dsimp only [Pt.U, Pt.locs, Pt.cells, Pt.slots] at X58 l58 y58 z58 st58 hQ58
    subst l58 y58 z58
    obtain ⟨cc58, rfl, hc58, Nq58, eq58⟩ := hQ58
    have N58 := Fr.app N0 Nq58
    refine own_t1 (.int cc58) 12 st58 ?_
    let L_59 : Array Slot := #[.val (.int p0), .val (.int p1), .val (.int p2), .val (.int p3), .val (.int p4), .val (.int (0 : Int32)), .val (.int cc58), .unset, .unset, .unset, .unset, .unset]
    refine own_ls L_59 14 (fun _ q => XS.istore X58.here hx rfl (hb hby at_12) rfl (l' := L_59) rfl q) ?_
    refine own_tp (.int p2) 15 (fun _ q => XS.iloadN X58.here hx rfl (hb hby at_14) rfl q) ?_
    obtain ⟨_, _, ⟨T60, L60, k60, n60⟩, -, X60, ⟨Lc60, hQ60, l60, y60, z60⟩, st60⟩ := Jvm.LawKit.callS X58 hx (y := (⟨"com/example/leastwise/leastwise/provisioning/WordLinesSpacesAlonePinLaw", "draw", "(I)C"⟩ : MethodName)) hown (mvT hZ (hw _ (List.mem_of_getElem? (i := 1) rfl))) (mvT hZ (hw _ (List.mem_of_getElem? (i := 2) rfl))) (mvT hZ (hw _ (List.mem_of_getElem? (i := 3) rfl))) (mvT hZ (hw _ (List.mem_of_getElem? (i := 4) rfl))) (by decide) (backOf (W := 0) (rm1 l Z a0 hw [] p2 h0 n0) hZ (hw _ (List.mem_of_getElem? (i := 4) rfl)) (hw _ (List.mem_of_getElem? (i := 3) rfl)) (by decide) (by decide)) (g := (mkF m 15 L_59 [(.int p2)])) rfl (by rw [hml]; rfl) (argsL := [(.int p2)]) (rest := []) (lenOf pd0_0 rfl) rfl (by show 2 * 0 + _ ≤ _; exact Nat.le_of_eq rfl) (hb hby at_15) (fun _ _ => ⟨rfl, eq58, (by decide : 0 + 0 ≤ _), (by decide : 0 + 0 ≤ _)⟩)
    dsimp only [Pt.U, Pt.locs, Pt.cells, Pt.slots] at X60 l60 y60 z60 st60 hQ60
    subst l60 y60 z60
    obtain ⟨cc60, rfl, hc60, Nq60, eq60⟩ := hQ60
    have N60 := Fr.app N58 Nq60
    refine own_t1 (.int cc60) 18 st60 ?_
    let L_61 : Array Slot := #[.val (.int p0), .val (.int p1), .val (.int p2), .val (.int p3), .val (.int p4), .val (.int (0 : Int32)), .val (.int cc58), .val (.int cc60), .unset, .unset, .unset, .unset]
    refine own_ls L_61 20 (fun _ q => XS.istore X60.here hx rfl (hb hby at_18) rfl (l' := L_61) rfl q) ?_
    refine own_tp (.int p3) 21 (fun _ q => XS.iloadN X60.here hx rfl (hb hby at_20) rfl q) ?_
    obtain ⟨_, _, ⟨T62, L62, k62, n62⟩, -, X62, ⟨Lc62, hQ62, l62, y62, z62⟩, st62⟩ := Jvm.LawKit.callS X60 hx (y := (⟨"com/example/leastwise/leastwise/provisioning/WordLinesSpacesAlonePinLaw", "draw", "(I)C"⟩ : MethodName)) hown (mvT hZ (hw _ (List.mem_of_getElem? (i := 1) rfl))) (mvT hZ (hw _ (List.mem_of_getElem? (i := 2) rfl))) (mvT hZ (hw _ (List.mem_of_getElem? (i := 3) rfl))) (mvT hZ (hw _ (List.mem_of_getElem? (i := 4) rfl))) (by decide) (backOf (W := 0) (rm1 l Z a0 hw [] p3 h0 n0) hZ (hw _ (List.mem_of_getElem? (i := 4) rfl)) (hw _ (List.mem_of_getElem? (i := 3) rfl)) (by decide) (by decide)) (g := (mkF m 21 L_61 [(.int p3)])) rfl (by rw [hml]; rfl) (argsL := [(.int p3)]) (rest := []) (lenOf pd0_0 rfl) rfl (by show 2 * 0 + _ ≤ _; exact Nat.le_of_eq rfl) (hb hby at_21) (fun _ _ => ⟨rfl, eq60, (by decide : 0 + 0 ≤ _), (by decide : 0 + 0 ≤ _)⟩)
    dsimp only [Pt.U, Pt.locs, Pt.cells, Pt.slots] at X62 l62 y62 z62 st62 hQ62
    subst l62 y62 z62
    obtain ⟨cc62, rfl, hc62, Nq62, eq62⟩ := hQ62
    have N62 := Fr.app N60 Nq62
    refine own_t1 (.int cc62) 24 st62 ?_
    let L_63 : Array Slot := #[.val (.int p0), .val (.int p1), .val (.int p2), .val (.int p3), .val (.int p4), .val (.int (0 : Int32)), .val (.int cc58), .val (.int cc60), .val (.int cc62), .unset, .unset, .unset]
    refine own_ls L_63 26 (fun _ q => XS.istore X62.here hx rfl (hb hby at_24) rfl (l' := L_63) rfl q) ?_
    refine own_tp (.int p4) 28 (fun _ q => XS.iload X62.here hx rfl (hb hby at_26) rfl q) ?_
    obtain ⟨_, _, ⟨T64, L64, k64, n64⟩, -, X64, ⟨Lc64, hQ64, l64, y64, z64⟩, st64⟩ := Jvm.LawKit.callS X62 hx (y := (⟨"com/example/leastwise/leastwise/provisioning/WordLinesSpacesAlonePinLaw", "draw", "(I)C"⟩ : MethodName)) hown (mvT hZ (hw _ (List.mem_of_getElem? (i := 1) rfl))) (mvT hZ (hw _ (List.mem_of_getElem? (i := 2) rfl))) (mvT hZ (hw _ (List.mem_of_getElem? (i := 3) rfl))) (mvT hZ (hw _ (List.mem_of_getElem? (i := 4) rfl))) (by decide) (backOf (W := 0) (rm1 l Z a0 hw [] p4 h0 n0) hZ (hw _ (List.mem_of_getElem? (i := 4) rfl)) (hw _ (List.mem_of_getElem? (i := 3) rfl)) (by decide) (by decide)) (g := (mkF m 28 L_63 [(.int p4)])) rfl (by rw [hml]; rfl) (argsL := [(.int p4)]) (rest := []) (lenOf pd0_0 rfl) rfl (by show 2 * 0 + _ ≤ _; exact Nat.le_of_eq rfl) (hb hby at_28) (fun _ _ => ⟨rfl, eq62, (by decide : 0 + 0 ≤ _), (by decide : 0 + 0 ≤ _)⟩)
    dsimp only [Pt.U, Pt.locs, Pt.cells, Pt.slots] at X64 l64 y64 z64 st64 hQ64
    subst l64 y64 z64
    obtain ⟨cc64, rfl, hc64, Nq64, eq64⟩ := hQ64
    have N64 := Fr.app N62 Nq64
    refine own_t1 (.int cc64) 31 st64 ?_
    let L_65 : Array Slot := #[.val (.int p0), .val (.int p1), .val (.int p2), .val (.int p3), .val (.int p4), .val (.int (0 : Int32)), .val (.int cc58), .val (.int cc60), .val (.int cc62), .val (.int cc64), .unset, .unset]
    refine own_ls L_65 33 (fun _ q => XS.istore X64.here hx rfl (hb hby at_31) rfl (l' := L_65) rfl q) ?_
    refine own_tp (.int (0 : Int32)) 35 (fun _ q => XS.iload X64.here hx rfl (hb hby at_33) rfl q) ?_
    refine own_tp (.int cc58) 37 (fun _ q => XS.iload X64.here hx rfl (hb hby at_35) rfl q) ?_
    refine own_tp (.int cc60) 39 (fun _ q => XS.iload X64.here hx rfl (hb hby at_37) rfl q) ?_
    refine own_tp (.int cc62) 41 (fun _ q => XS.iload X64.here hx rfl (hb hby at_39) rfl q) ?_
    refine own_tp (.int cc64) 43 (fun _ q => XS.iload X64.here hx rfl (hb hby at_41) rfl q) ?_
    obtain ⟨_, _, ⟨T66, L66, k66, n66⟩, -, X66, hS66, -, ⟨Lc66, hQ66, l66, y66, z66, Ch66⟩, st66⟩ := callSS X64 hx (y := (⟨"com/example/leastwise/leastwise/provisioning/WordLinesSpacesAlonePinLaw", "make", "(ICCCC)Ljava/lang/String;"⟩ : MethodName)) hown (mvT hZ (hw _ (List.mem_of_getElem? (i := 6) rfl))) (mvT hZ (hw _ (List.mem_of_getElem? (i := 7) rfl))) (mvT hZ (hw _ (List.mem_of_getElem? (i := 3) rfl))) (mvT hZ (hw _ (List.mem_of_getElem? (i := 8) rfl))) (by decide) (backOfSH (W := 0) (rm7 l Z a0 hw [] cc58 cc60 cc62 cc64 h0 n0 hE Z0 hc58 hc60 hc62 hc64 G1 US O0) hZ (hw _ (List.mem_of_getElem? (i := 8) rfl)) (hw _ (List.mem_of_getElem? (i := 3) rfl)) (by decide) (by decide) Wd0.hE Wd0.chv) (g := (mkF m 43 L_65 [(.int cc64), (.int cc62), (.int cc60), (.int cc58), (.int (0 : Int32))])) rfl (by rw [hml]; rfl) (argsL := [(.int (0 : Int32)), (.int cc58), (.int cc60), (.int cc62), (.int cc64)]) (rest := []) (lenOf pd0_1 rfl) rfl (by show 2 * 0 + _ ≤ _; exact Nat.le_of_eq rfl) (hb hby at_43) (fun _ _ => ⟨rfl, eq64, (by decide : 0 + 6 ≤ _), (by decide : 0 + 12 ≤ _)⟩)
    dsimp only [Pt.U, Pt.locs, Pt.cells, Pt.slots] at X66 l66 y66 z66 st66 hQ66 hS66 Ch66
    subst l66 y66 z66
    have Wd66 := own_Wd.call Wd0 hS66 Ch66
    have hZ66 : Z.Warmed39 (s.setVm T66.vm).vm := Wd66.hZ
    have hown66 : (s.setVm T66.vm).vm.findClass "com/example/leastwise/leastwise/provisioning/WordLinesSpacesAlonePinLaw" = some m.cls := own_since_own hS66 hown
    have Y66 : Stand p l e room_1 (s.setVm T66.vm) m #[(.int p0), (.int p1), (.int p2), (.int p3), (.int p4)] below meth c T66 _ _ _ := X66
    obtain ⟨sq66, rfl, Nq66, Kp66, ge66, sz66, SS66⟩ := hQ66
    have N66 := Fr.app N64 Nq66
    have O66 := Old.keep O0 Kp66 all0
    have Z66 : n0 ≤ T66.heap.size := Nat.le_trans Z0 Kp66.1
    refine own_csR [(.ref sq66)] 46 st66 ?_
    let L_67 : Array Slot := #[.val (.int p0), .val (.int p1), .val (.int p2), .val (.int p3), .val (.int p4), .val (.int (0 : Int32)), .val (.int cc58), .val (.int cc60), .val (.int cc62), .val (.int cc64), .val (.ref sq66), .unset]
    refine own_ls L_67 48 (fun _ q => XS.astore Y66.here hx rfl (hb hby at_46) rfl rfl (l' := L_67) rfl q) ?_
    refine own_tp (.int (0 : Int32)) 50 (fun _ q => XS.iload Y66.here hx rfl (hb hby at_48) rfl q) ?_
    refine own_tp (.int (1 : Int32)) 51 (fun _ q => XS.iconst Y66.here hx rfl (hb hby at_50) q) ?_
    refine own_d2 62 (fun _ q => XS.icmpYes Y66.here hx rfl (pc0 := 51) (pc' := 62) rfl (hb hby at_51) rfl (tlt (by decide : (0 : Int32) < (1 : Int32))).1 (by decide) (by decide) q) ?_
    refine own_tp (.int (0 : Int32)) 64 (fun _ q => XS.iload Y66.here hx rfl (hb hby at_62) rfl q) ?_
    refine own_tp (.int (2 : Int32)) 65 (fun _ q => XS.iconst Y66.here hx rfl (hb hby at_64) q) ?_
    refine own_d2 76 (fun _ q => XS.icmpYes Y66.here hx rfl (pc0 := 65) (pc' := 76) rfl (hb hby at_65) rfl (tlt (by decide : (0 : Int32) < (2 : Int32))).1 (by decide) (by decide) q) ?_
    refine own_tp (.int (0 : Int32)) 78 (fun _ q => XS.iload Y66.here hx rfl (hb hby at_76) rfl q) ?_
    refine own_tp (.int (3 : Int32)) 79 (fun _ q => XS.iconst Y66.here hx rfl (hb hby at_78) q) ?_
    refine own_d2 90 (fun _ q => XS.icmpYes Y66.here hx rfl (pc0 := 79) (pc' := 90) rfl (hb hby at_79) rfl (tlt (by decide : (0 : Int32) < (3 : Int32))).1 (by decide) (by decide) q) ?_
    refine own_tp (.int (0 : Int32)) 92 (fun _ q => XS.iload Y66.here hx rfl (hb hby at_90) rfl q) ?_
    refine own_tp (.int (4 : Int32)) 93 (fun _ q => XS.iconst Y66.here hx rfl (hb hby at_92) q) ?_
    refine own_d2 104 (fun _ q => XS.icmpYes Y66.here hx rfl (pc0 := 93) (pc' := 104) rfl (hb hby at_93) rfl (tlt (by decide : (0 : Int32) < (4 : Int32))).1 (by decide) (by decide) q) ?_
    refine own_tp (.int (1 : Int32)) 105 (fun _ q => XS.iconst Y66.here hx rfl (hb hby at_104) q) ?_
    refine own_d0 109 (fun _ q => XS.goto Y66.here hx rfl (pc0 := 105) (pc' := 109) rfl (hb hby at_105) (by decide) (by decide) q) ?_
    let L_68 : Array Slot := #[.val (.int p0), .val (.int p1), .val (.int p2), .val (.int p3), .val (.int p4), .val (.int (0 : Int32)), .val (.int cc58), .val (.int cc60), .val (.int cc62), .val (.int cc64), .val (.ref sq66), .val (.int (1 : Int32))]
    refine own_ls L_68 111 (fun _ q => XS.istore Y66.here hx rfl (hb hby at_109) rfl (l' := L_68) rfl q) ?_
    refine own_tp (.ref sq66) 113 (fun _ q => XS.aload Y66.here hx rfl (hb hby at_111) rfl rfl q) ?_
    obtain ⟨tq, kq, cdq, Nnq, vsq, Eq_, Lq, Cq, Vq, Coq⟩ := SS66
    rcases Coq with ⟨rfl, rfl, rfl, hcsq⟩ | ⟨rfl, rfl, rfl, hxq⟩
    ·
      obtain ⟨_, _, ⟨T69, L69, k69, n69⟩, -, X69, ⟨Lc69, hQ69, l69, y69, z69⟩, st69⟩ := Jvm.LawKit.callS Y66 hx (y := (⟨"com/example/leastwise/leastwise/provisioning/WordLines", "spacesAlone", "(Ljava/lang/String;)Z"⟩ : MethodName)) hown66 (mvT hZ66 (hw _ (List.mem_of_getElem? (i := 31) rfl))) (mvT hZ66 (hw _ (List.mem_of_getElem? (i := 32) rfl))) (mvT hZ66 (hw _ (List.mem_of_getElem? (i := 33) rfl))) (mvT hZ66 (hw _ (List.mem_of_getElem? (i := 34) rfl))) (by decide) (backOf (W := 0) (rm3 l Z a0 hw [] sq66 tq kq [] T66.heap n0 (by simp) (by intro c hc; cases hc) G1 US O66 G3 rG3 Sf Eq_ Cq Lq hcsq Vq) hZ66 (hw _ (List.mem_of_getElem? (i := 34) rfl)) (hw _ (List.mem_of_getElem? (i := 33) rfl)) (by decide) (by decide)) (g := (mkF m 113 L_68 [(.ref sq66)])) rfl (by rw [hml]; rfl) (argsL := [(.ref sq66)]) (rest := []) (lenOf pd0_2 rfl) rfl (by show 2 * 0 + _ ≤ _; exact Nat.le_of_eq rfl) (hb hby at_113) (fun _ _ => ⟨rfl, rfl, (by decide : 6 + 0 ≤ _), (by decide : 12 + 0 ≤ _)⟩)
      dsimp only [Pt.U, Pt.locs, Pt.cells, Pt.slots] at X69 l69 y69 z69 st69 hQ69
      subst l69 y69 z69
      obtain ⟨rfl, Nq69, eq69⟩ := hQ69
      have N69 := Fr.app N66 Nq69
      refine own_t1 (.int (own_sp [])) 116 st69 ?_
      refine own_tp (.int (1 : Int32)) 118 (fun _ q => XS.iload X69.here hx rfl (hb hby at_116) rfl q) ?_
      by_cases c70 : (own_sp []) = (1 : Int32)
      ·
        refine own_d2 121 (fun _ q => XS.icmpNo X69.here hx rfl (hb hby at_118) rfl (teq c70).2 q) ?_
        refine own_tp (.int (1 : Int32)) 122 (fun _ q => XS.iconst X69.here hx rfl (hb hby at_121) q) ?_
        refine own_d0 126 (fun _ q => XS.goto X69.here hx rfl (pc0 := 122) (pc' := 126) rfl (hb hby at_122) (by decide) (by decide) q) ?_
        exact own_retNW (t := .boolean) X69 hx hrt (hb hby at_126) (by simp) hlk (by decide) (by decide) eq69 Wd66 (⟨rfl, N69⟩)
      ·
        refine own_d2 125 (fun _ q => XS.icmpYes X69.here hx rfl (pc0 := 118) (pc' := 125) rfl (hb hby at_118) rfl (feq c70).2 (by decide) (by decide) q) ?_
        refine own_tp (.int (0 : Int32)) 126 (fun _ q => XS.iconst X69.here hx rfl (hb hby at_125) q) ?_
        exact absurd (own_sp1 (by simp)) c70
    ·
      obtain ⟨_, _, ⟨T71, L71, k71, n71⟩, -, X71, ⟨Lc71, hQ71, l71, y71, z71⟩, st71⟩ := Jvm.LawKit.callS Y66 hx (y := (⟨"com/example/leastwise/leastwise/provisioning/WordLines", "spacesAlone", "(Ljava/lang/String;)Z"⟩ : MethodName)) hown66 (mvT hZ66 (hw _ (List.mem_of_getElem? (i := 31) rfl))) (mvT hZ66 (hw _ (List.mem_of_getElem? (i := 32) rfl))) (mvT hZ66 (hw _ (List.mem_of_getElem? (i := 33) rfl))) (mvT hZ66 (hw _ (List.mem_of_getElem? (i := 34) rfl))) (by decide) (backOf (W := 0) (rm4 l Z a0 hw [] sq66 tq kq [] T66.heap n0 (by simp) (by intro c hc; cases hc) G1 US O66 G3 rG3 Sf Eq_ Cq Lq Vq) hZ66 (hw _ (List.mem_of_getElem? (i := 34) rfl)) (hw _ (List.mem_of_getElem? (i := 33) rfl)) (by decide) (by decide)) (g := (mkF m 113 L_68 [(.ref sq66)])) rfl (by rw [hml]; rfl) (argsL := [(.ref sq66)]) (rest := []) (lenOf pd0_2 rfl) rfl (by show 2 * 0 + _ ≤ _; exact Nat.le_of_eq rfl) (hb hby at_113) (fun _ _ => ⟨rfl, rfl, (by decide : 6 + 0 ≤ _), (by decide : 12 + 0 ≤ _)⟩)
      dsimp only [Pt.U, Pt.locs, Pt.cells, Pt.slots] at X71 l71 y71 z71 st71 hQ71
      subst l71 y71 z71
      obtain ⟨rfl, Nq71, eq71⟩ := hQ71
      have N71 := Fr.app N66 Nq71
      refine own_t1 (.int (own_sp [])) 116 st71 ?_
      refine own_tp (.int (1 : Int32)) 118 (fun _ q => XS.iload X71.here hx rfl (hb hby at_116) rfl q) ?_
      by_cases c72 : (own_sp []) = (1 : Int32)
      ·
        refine own_d2 121 (fun _ q => XS.icmpNo X71.here hx rfl (hb hby at_118) rfl (teq c72).2 q) ?_
        refine own_tp (.int (1 : Int32)) 122 (fun _ q => XS.iconst X71.here hx rfl (hb hby at_121) q) ?_
        refine own_d0 126 (fun _ q => XS.goto X71.here hx rfl (pc0 := 122) (pc' := 126) rfl (hb hby at_122) (by decide) (by decide) q) ?_
        exact own_retNW (t := .boolean) X71 hx hrt (hb hby at_126) (by simp) hlk (by decide) (by decide) eq71 Wd66 (⟨rfl, N71⟩)
      ·
        refine own_d2 125 (fun _ q => XS.icmpYes X71.here hx rfl (pc0 := 118) (pc' := 125) rfl (hb hby at_118) rfl (feq c72).2 (by decide) (by decide) q) ?_
        refine own_tp (.int (0 : Int32)) 126 (fun _ q => XS.iconst X71.here hx rfl (hb hby at_125) q) ?_
        exact absurd (own_sp1 (by simp)) c72
  ·
    rw [hk53]
    let L_73 : Array Slot := #[.val (.int p0), .val (.int p1), .val (.int p2), .val (.int p3), .val (.int p4), .val (.int (1 : Int32)), .unset, .unset, .unset, .unset, .unset, .unset]
    refine own_ls L_73 8 (fun _ q => XS.istore X0.here hx rfl (hb hby at_6) rfl (l' := L_73) rfl q) ?_
    refine own_tp (.int p1) 9 (fun _ q => XS.iloadN X0.here hx rfl (hb hby at_8) rfl q) ?_
    obtain ⟨_, _, ⟨T74, L74, k74, n74⟩, -, X74, ⟨Lc74, hQ74, l74, y74, z74⟩, st74⟩ := Jvm.LawKit.callS X0 hx (y := (⟨"com/example/leastwise/leastwise/provisioning/WordLinesSpacesAlonePinLaw", "draw", "(I)C"⟩ : MethodName)) hown (mvT hZ (hw _ (List.mem_of_getElem? (i := 1) rfl))) (mvT hZ (hw _ (List.mem_of_getElem? (i := 2) rfl))) (mvT hZ (hw _ (List.mem_of_getElem? (i := 3) rfl))) (mvT hZ (hw _ (List.mem_of_getElem? (i := 4) rfl))) (by decide) (backOf (W := 0) (rm1 l Z a0 hw [] p1 h0 n0) hZ (hw _ (List.mem_of_getElem? (i := 4) rfl)) (hw _ (List.mem_of_getElem? (i := 3) rfl)) (by decide) (by decide)) (g := (mkF m 9 L_73 [(.int p1)])) rfl (by rw [hml]; rfl) (argsL := [(.int p1)]) (rest := []) (lenOf pd0_0 rfl) rfl (by show 2 * 0 + _ ≤ _; exact Nat.le_of_eq rfl) (hb hby at_9) (fun _ _ => ⟨rfl, e0, (by decide : 0 + 0 ≤ _), (by decide : 0 + 0 ≤ _)⟩)
    dsimp only [Pt.U, Pt.locs, Pt.cells, Pt.slots] at X74 l74 y74 z74 st74 hQ74
    subst l74 y74 z74
    obtain ⟨cc74, rfl, hc74, Nq74, eq74⟩ := hQ74
    have N74 := Fr.app N0 Nq74
    refine own_t1 (.int cc74) 12 st74 ?_
    let L_75 : Array Slot := #[.val (.int p0), .val (.int p1), .val (.int p2), .val (.int p3), .val (.int p4), .val (.int (1 : Int32)), .val (.int cc74), .unset, .unset, .unset, .unset, .unset]
    refine own_ls L_75 14 (fun _ q => XS.istore X74.here hx rfl (hb hby at_12) rfl (l' := L_75) rfl q) ?_
    refine own_tp (.int p2) 15 (fun _ q => XS.iloadN X74.here hx rfl (hb hby at_14) rfl q) ?_
    obtain ⟨_, _, ⟨T76, L76, k76, n76⟩, -, X76, ⟨Lc76, hQ76, l76, y76, z76⟩, st76⟩ := Jvm.LawKit.callS X74 hx (y := (⟨"com/example/leastwise/leastwise/provisioning/WordLinesSpacesAlonePinLaw", "draw", "(I)C"⟩ : MethodName)) hown (mvT hZ (hw _ (List.mem_of_getElem? (i := 1) rfl))) (mvT hZ (hw _ (List.mem_of_getElem? (i := 2) rfl))) (mvT hZ (hw _ (List.mem_of_getElem? (i := 3) rfl))) (mvT hZ (hw _ (List.mem_of_getElem? (i := 4) rfl))) (by decide) (backOf (W := 0) (rm1 l Z a0 hw [] p2 h0 n0) hZ (hw _ (List.mem_of_getElem? (i := 4) rfl)) (hw _ (List.mem_of_getElem? (i := 3) rfl)) (by decide) (by decide)) (g := (mkF m 15 L_75 [(.int p2)])) rfl (by rw [hml]; rfl) (argsL := [(.int p2)]) (rest := []) (lenOf pd0_0 rfl) rfl (by show 2 * 0 + _ ≤ _; exact Nat.le_of_eq rfl) (hb hby at_15) (fun _ _ => ⟨rfl, eq74, (by decide : 0 + 0 ≤ _), (by decide : 0 + 0 ≤ _)⟩)
    dsimp only [Pt.U, Pt.locs, Pt.cells, Pt.slots] at X76 l76 y76 z76 st76 hQ76
    subst l76 y76 z76
    obtain ⟨cc76, rfl, hc76, Nq76, eq76⟩ := hQ76
    have N76 := Fr.app N74 Nq76
    refine own_t1 (.int cc76) 18 st76 ?_
    let L_77 : Array Slot := #[.val (.int p0), .val (.int p1), .val (.int p2), .val (.int p3), .val (.int p4), .val (.int (1 : Int32)), .val (.int cc74), .val (.int cc76), .unset, .unset, .unset, .unset]
    refine own_ls L_77 20 (fun _ q => XS.istore X76.here hx rfl (hb hby at_18) rfl (l' := L_77) rfl q) ?_
    refine own_tp (.int p3) 21 (fun _ q => XS.iloadN X76.here hx rfl (hb hby at_20) rfl q) ?_
    obtain ⟨_, _, ⟨T78, L78, k78, n78⟩, -, X78, ⟨Lc78, hQ78, l78, y78, z78⟩, st78⟩ := Jvm.LawKit.callS X76 hx (y := (⟨"com/example/leastwise/leastwise/provisioning/WordLinesSpacesAlonePinLaw", "draw", "(I)C"⟩ : MethodName)) hown (mvT hZ (hw _ (List.mem_of_getElem? (i := 1) rfl))) (mvT hZ (hw _ (List.mem_of_getElem? (i := 2) rfl))) (mvT hZ (hw _ (List.mem_of_getElem? (i := 3) rfl))) (mvT hZ (hw _ (List.mem_of_getElem? (i := 4) rfl))) (by decide) (backOf (W := 0) (rm1 l Z a0 hw [] p3 h0 n0) hZ (hw _ (List.mem_of_getElem? (i := 4) rfl)) (hw _ (List.mem_of_getElem? (i := 3) rfl)) (by decide) (by decide)) (g := (mkF m 21 L_77 [(.int p3)])) rfl (by rw [hml]; rfl) (argsL := [(.int p3)]) (rest := []) (lenOf pd0_0 rfl) rfl (by show 2 * 0 + _ ≤ _; exact Nat.le_of_eq rfl) (hb hby at_21) (fun _ _ => ⟨rfl, eq76, (by decide : 0 + 0 ≤ _), (by decide : 0 + 0 ≤ _)⟩)
    dsimp only [Pt.U, Pt.locs, Pt.cells, Pt.slots] at X78 l78 y78 z78 st78 hQ78
    subst l78 y78 z78
    obtain ⟨cc78, rfl, hc78, Nq78, eq78⟩ := hQ78
    have N78 := Fr.app N76 Nq78
    refine own_t1 (.int cc78) 24 st78 ?_
    let L_79 : Array Slot := #[.val (.int p0), .val (.int p1), .val (.int p2), .val (.int p3), .val (.int p4), .val (.int (1 : Int32)), .val (.int cc74), .val (.int cc76), .val (.int cc78), .unset, .unset, .unset]
    refine own_ls L_79 26 (fun _ q => XS.istore X78.here hx rfl (hb hby at_24) rfl (l' := L_79) rfl q) ?_
    refine own_tp (.int p4) 28 (fun _ q => XS.iload X78.here hx rfl (hb hby at_26) rfl q) ?_
    obtain ⟨_, _, ⟨T80, L80, k80, n80⟩, -, X80, ⟨Lc80, hQ80, l80, y80, z80⟩, st80⟩ := Jvm.LawKit.callS X78 hx (y := (⟨"com/example/leastwise/leastwise/provisioning/WordLinesSpacesAlonePinLaw", "draw", "(I)C"⟩ : MethodName)) hown (mvT hZ (hw _ (List.mem_of_getElem? (i := 1) rfl))) (mvT hZ (hw _ (List.mem_of_getElem? (i := 2) rfl))) (mvT hZ (hw _ (List.mem_of_getElem? (i := 3) rfl))) (mvT hZ (hw _ (List.mem_of_getElem? (i := 4) rfl))) (by decide) (backOf (W := 0) (rm1 l Z a0 hw [] p4 h0 n0) hZ (hw _ (List.mem_of_getElem? (i := 4) rfl)) (hw _ (List.mem_of_getElem? (i := 3) rfl)) (by decide) (by decide)) (g := (mkF m 28 L_79 [(.int p4)])) rfl (by rw [hml]; rfl) (argsL := [(.int p4)]) (rest := []) (lenOf pd0_0 rfl) rfl (by show 2 * 0 + _ ≤ _; exact Nat.le_of_eq rfl) (hb hby at_28) (fun _ _ => ⟨rfl, eq78, (by decide : 0 + 0 ≤ _), (by decide : 0 + 0 ≤ _)⟩)
    dsimp only [Pt.U, Pt.locs, Pt.cells, Pt.slots] at X80 l80 y80 z80 st80 hQ80
    subst l80 y80 z80
    obtain ⟨cc80, rfl, hc80, Nq80, eq80⟩ := hQ80
    have N80 := Fr.app N78 Nq80
    refine own_t1 (.int cc80) 31 st80 ?_
    let L_81 : Array Slot := #[.val (.int p0), .val (.int p1), .val (.int p2), .val (.int p3), .val (.int p4), .val (.int (1 : Int32)), .val (.int cc74), .val (.int cc76), .val (.int cc78), .val (.int cc80), .unset, .unset]
    refine own_ls L_81 33 (fun _ q => XS.istore X80.here hx rfl (hb hby at_31) rfl (l' := L_81) rfl q) ?_
    refine own_tp (.int (1 : Int32)) 35 (fun _ q => XS.iload X80.here hx rfl (hb hby at_33) rfl q) ?_
    refine own_tp (.int cc74) 37 (fun _ q => XS.iload X80.here hx rfl (hb hby at_35) rfl q) ?_
    refine own_tp (.int cc76) 39 (fun _ q => XS.iload X80.here hx rfl (hb hby at_37) rfl q) ?_
    refine own_tp (.int cc78) 41 (fun _ q => XS.iload X80.here hx rfl (hb hby at_39) rfl q) ?_
    refine own_tp (.int cc80) 43 (fun _ q => XS.iload X80.here hx rfl (hb hby at_41) rfl q) ?_
    obtain ⟨_, _, ⟨T82, L82, k82, n82⟩, -, X82, ⟨Lc82, hQ82, l82, y82, z82⟩, st82⟩ := Jvm.LawKit.callS X80 hx (y := (⟨"com/example/leastwise/leastwise/provisioning/WordLinesSpacesAlonePinLaw", "make", "(ICCCC)Ljava/lang/String;"⟩ : MethodName)) hown (mvT hZ (hw _ (List.mem_of_getElem? (i := 6) rfl))) (mvT hZ (hw _ (List.mem_of_getElem? (i := 7) rfl))) (mvT hZ (hw _ (List.mem_of_getElem? (i := 3) rfl))) (mvT hZ (hw _ (List.mem_of_getElem? (i := 8) rfl))) (by decide) (backOf (W := 0) (rm8 l Z a0 hw [] cc74 cc76 cc78 cc80 h0 n0 Z0 hc74 hc76 hc78 hc80 G1 US O0) hZ (hw _ (List.mem_of_getElem? (i := 8) rfl)) (hw _ (List.mem_of_getElem? (i := 3) rfl)) (by decide) (by decide)) (g := (mkF m 43 L_81 [(.int cc80), (.int cc78), (.int cc76), (.int cc74), (.int (1 : Int32))])) rfl (by rw [hml]; rfl) (argsL := [(.int (1 : Int32)), (.int cc74), (.int cc76), (.int cc78), (.int cc80)]) (rest := []) (lenOf pd0_1 rfl) rfl (by show 2 * 0 + _ ≤ _; exact Nat.le_of_eq rfl) (hb hby at_43) (fun _ _ => ⟨rfl, eq80, (by decide : 0 + 4 ≤ _), (by decide : 0 + 8 ≤ _)⟩)
    dsimp only [Pt.U, Pt.locs, Pt.cells, Pt.slots] at X82 l82 y82 z82 st82 hQ82
    subst l82 y82 z82
    obtain ⟨sq82, rfl, Nq82, Kp82, ge82, sz82, SS82⟩ := hQ82
    have N82 := Fr.app N80 Nq82
    have O82 := Old.keep O0 Kp82 all0
    have Z82 : n0 ≤ T82.heap.size := Nat.le_trans Z0 Kp82.1
    have Wd82 := Wd0.keep Kp82 all0
    refine own_cs [(.ref sq82)] 46 st82 ?_
    let L_83 : Array Slot := #[.val (.int p0), .val (.int p1), .val (.int p2), .val (.int p3), .val (.int p4), .val (.int (1 : Int32)), .val (.int cc74), .val (.int cc76), .val (.int cc78), .val (.int cc80), .val (.ref sq82), .unset]
    refine own_ls L_83 48 (fun _ q => XS.astore X82.here hx rfl (hb hby at_46) rfl rfl (l' := L_83) rfl q) ?_
    refine own_tp (.int (1 : Int32)) 50 (fun _ q => XS.iload X82.here hx rfl (hb hby at_48) rfl q) ?_
    refine own_tp (.int (1 : Int32)) 51 (fun _ q => XS.iconst X82.here hx rfl (hb hby at_50) q) ?_
    refine own_d2 54 (fun _ q => XS.icmpNo X82.here hx rfl (hb hby at_51) rfl (flt (by decide : ¬ ((1 : Int32) < (1 : Int32)))).1 q) ?_
    refine own_tp (.int cc74) 56 (fun _ q => XS.iload X82.here hx rfl (hb hby at_54) rfl q) ?_
    obtain ⟨_, _, ⟨T84, L84, k84, n84⟩, -, X84, ⟨Lc84, hQ84, l84, y84, z84⟩, st84⟩ := Jvm.LawKit.callS X82 hx (y := (⟨"com/example/leastwise/leastwise/provisioning/WordLinesSpacesAlonePinLaw", "allowed", "(C)Z"⟩ : MethodName)) hown (mvT hZ (hw _ (List.mem_of_getElem? (i := 85) rfl))) (mvT hZ (hw _ (List.mem_of_getElem? (i := 86) rfl))) (mvT hZ (hw _ (List.mem_of_getElem? (i := 3) rfl))) (mvT hZ (hw _ (List.mem_of_getElem? (i := 87) rfl))) (by decide) (backOf (W := 0) (rm2 l Z a0 hw [] cc74 T82.heap n0 ) hZ (hw _ (List.mem_of_getElem? (i := 87) rfl)) (hw _ (List.mem_of_getElem? (i := 3) rfl)) (by decide) (by decide)) (g := (mkF m 56 L_83 [(.int cc74)])) rfl (by rw [hml]; rfl) (argsL := [(.int cc74)]) (rest := []) (lenOf pd0_3 rfl) rfl (by show 2 * 0 + _ ≤ _; exact Nat.le_of_eq rfl) (hb hby at_56) (fun _ _ => ⟨rfl, rfl, (by decide : 4 + 0 ≤ _), (by decide : 8 + 0 ≤ _)⟩)
    dsimp only [Pt.U, Pt.locs, Pt.cells, Pt.slots] at X84 l84 y84 z84 st84 hQ84
    subst l84 y84 z84
    obtain ⟨rfl, Nq84, eq84⟩ := hQ84
    have N84 := Fr.app N82 Nq84
    refine own_t1 (.int (own_al cc74)) 59 st84 ?_
    by_cases c85 : (own_al cc74) = (0 : Int32)
    ·
      refine own_d1 108 (fun _ q => XS.ifYes X84.here hx rfl (pc0 := 59) (pc' := 108) rfl (hb hby at_59) rfl ((if0 _ _).trans (teq c85).1) (by decide) (by decide) q) ?_
      refine own_tp (.int (0 : Int32)) 109 (fun _ q => XS.iconst X84.here hx rfl (hb hby at_108) q) ?_
      let L_86 : Array Slot := #[.val (.int p0), .val (.int p1), .val (.int p2), .val (.int p3), .val (.int p4), .val (.int (1 : Int32)), .val (.int cc74), .val (.int cc76), .val (.int cc78), .val (.int cc80), .val (.ref sq82), .val (.int (0 : Int32))]
      refine own_ls L_86 111 (fun _ q => XS.istore X84.here hx rfl (hb hby at_109) rfl (l' := L_86) rfl q) ?_
      refine own_tp (.ref sq82) 113 (fun _ q => XS.aload X84.here hx rfl (hb hby at_111) rfl rfl q) ?_
      obtain ⟨tq, kq, cdq, Nnq, vsq, Eq_, Lq, Cq, Vq, Coq⟩ := SS82
      rcases Coq with ⟨rfl, rfl, rfl, hcsq⟩ | ⟨rfl, rfl, rfl, hxq⟩
      ·
        obtain ⟨_, _, ⟨T87, L87, k87, n87⟩, -, X87, ⟨Lc87, hQ87, l87, y87, z87⟩, st87⟩ := Jvm.LawKit.callS X84 hx (y := (⟨"com/example/leastwise/leastwise/provisioning/WordLines", "spacesAlone", "(Ljava/lang/String;)Z"⟩ : MethodName)) hown (mvT hZ (hw _ (List.mem_of_getElem? (i := 31) rfl))) (mvT hZ (hw _ (List.mem_of_getElem? (i := 32) rfl))) (mvT hZ (hw _ (List.mem_of_getElem? (i := 33) rfl))) (mvT hZ (hw _ (List.mem_of_getElem? (i := 34) rfl))) (by decide) (backOf (W := 0) (rm3 l Z a0 hw [] sq82 tq kq [cc74] T82.heap n0 (by simp) (own_chs1 hc74) G1 US O82 G3 rG3 Sf Eq_ Cq Lq hcsq Vq) hZ (hw _ (List.mem_of_getElem? (i := 34) rfl)) (hw _ (List.mem_of_getElem? (i := 33) rfl)) (by decide) (by decide)) (g := (mkF m 113 L_86 [(.ref sq82)])) rfl (by rw [hml]; rfl) (argsL := [(.ref sq82)]) (rest := []) (lenOf pd0_2 rfl) rfl (by show 2 * 0 + _ ≤ _; exact Nat.le_of_eq rfl) (hb hby at_113) (fun _ _ => ⟨rfl, eq84, (by decide : 4 + 0 ≤ _), (by decide : 8 + 0 ≤ _)⟩)
        dsimp only [Pt.U, Pt.locs, Pt.cells, Pt.slots] at X87 l87 y87 z87 st87 hQ87
        subst l87 y87 z87
        obtain ⟨rfl, Nq87, eq87⟩ := hQ87
        have N87 := Fr.app N84 Nq87
        refine own_t1 (.int (own_sp [cc74])) 116 st87 ?_
        refine own_tp (.int (0 : Int32)) 118 (fun _ q => XS.iload X87.here hx rfl (hb hby at_116) rfl q) ?_
        by_cases c88 : (own_sp [cc74]) = (0 : Int32)
        ·
          refine own_d2 121 (fun _ q => XS.icmpNo X87.here hx rfl (hb hby at_118) rfl (teq c88).2 q) ?_
          refine own_tp (.int (1 : Int32)) 122 (fun _ q => XS.iconst X87.here hx rfl (hb hby at_121) q) ?_
          refine own_d0 126 (fun _ q => XS.goto X87.here hx rfl (pc0 := 122) (pc' := 126) rfl (hb hby at_122) (by decide) (by decide) q) ?_
          exact own_retNW (t := .boolean) X87 hx hrt (hb hby at_126) (by simp) hlk (by decide) (by decide) eq87 Wd82 (⟨rfl, N87⟩)
        ·
          refine own_d2 125 (fun _ q => XS.icmpYes X87.here hx rfl (pc0 := 118) (pc' := 125) rfl (hb hby at_118) rfl (feq c88).2 (by decide) (by decide) q) ?_
          refine own_tp (.int (0 : Int32)) 126 (fun _ q => XS.iconst X87.here hx rfl (hb hby at_125) q) ?_
          exact absurd (own_sp0 (c := cc74) (by simp) c85) c88
      ·
        obtain ⟨_, _, ⟨T89, L89, k89, n89⟩, -, X89, ⟨Lc89, hQ89, l89, y89, z89⟩, st89⟩ := Jvm.LawKit.callS X84 hx (y := (⟨"com/example/leastwise/leastwise/provisioning/WordLines", "spacesAlone", "(Ljava/lang/String;)Z"⟩ : MethodName)) hown (mvT hZ (hw _ (List.mem_of_getElem? (i := 31) rfl))) (mvT hZ (hw _ (List.mem_of_getElem? (i := 32) rfl))) (mvT hZ (hw _ (List.mem_of_getElem? (i := 33) rfl))) (mvT hZ (hw _ (List.mem_of_getElem? (i := 34) rfl))) (by decide) (backOf (W := 0) (rm4 l Z a0 hw [] sq82 tq kq [cc74] T82.heap n0 (by simp) (own_chs1 hc74) G1 US O82 G3 rG3 Sf Eq_ Cq Lq Vq) hZ (hw _ (List.mem_of_getElem? (i := 34) rfl)) (hw _ (List.mem_of_getElem? (i := 33) rfl)) (by decide) (by decide)) (g := (mkF m 113 L_86 [(.ref sq82)])) rfl (by rw [hml]; rfl) (argsL := [(.ref sq82)]) (rest := []) (lenOf pd0_2 rfl) rfl (by show 2 * 0 + _ ≤ _; exact Nat.le_of_eq rfl) (hb hby at_113) (fun _ _ => ⟨rfl, eq84, (by decide : 4 + 0 ≤ _), (by decide : 8 + 0 ≤ _)⟩)
        dsimp only [Pt.U, Pt.locs, Pt.cells, Pt.slots] at X89 l89 y89 z89 st89 hQ89
        subst l89 y89 z89
        obtain ⟨rfl, Nq89, eq89⟩ := hQ89
        have N89 := Fr.app N84 Nq89
        refine own_t1 (.int (own_sp [cc74])) 116 st89 ?_
        refine own_tp (.int (0 : Int32)) 118 (fun _ q => XS.iload X89.here hx rfl (hb hby at_116) rfl q) ?_
        by_cases c90 : (own_sp [cc74]) = (0 : Int32)
        ·
          refine own_d2 121 (fun _ q => XS.icmpNo X89.here hx rfl (hb hby at_118) rfl (teq c90).2 q) ?_
          refine own_tp (.int (1 : Int32)) 122 (fun _ q => XS.iconst X89.here hx rfl (hb hby at_121) q) ?_
          refine own_d0 126 (fun _ q => XS.goto X89.here hx rfl (pc0 := 122) (pc' := 126) rfl (hb hby at_122) (by decide) (by decide) q) ?_
          exact own_retNW (t := .boolean) X89 hx hrt (hb hby at_126) (by simp) hlk (by decide) (by decide) eq89 Wd82 (⟨rfl, N89⟩)
        ·
          refine own_d2 125 (fun _ q => XS.icmpYes X89.here hx rfl (pc0 := 118) (pc' := 125) rfl (hb hby at_118) rfl (feq c90).2 (by decide) (by decide) q) ?_
          refine own_tp (.int (0 : Int32)) 126 (fun _ q => XS.iconst X89.here hx rfl (hb hby at_125) q) ?_
          exact absurd (own_sp0 (c := cc74) (by simp) c85) c90
    ·
      refine own_d1 62 (fun _ q => XS.ifNo X84.here hx rfl (hb hby at_59) rfl ((if0 _ _).trans (feq c85).1) q) ?_
      refine own_tp (.int (1 : Int32)) 64 (fun _ q => XS.iload X84.here hx rfl (hb hby at_62) rfl q) ?_
      refine own_tp (.int (2 : Int32)) 65 (fun _ q => XS.iconst X84.here hx rfl (hb hby at_64) q) ?_
      refine own_d2 76 (fun _ q => XS.icmpYes X84.here hx rfl (pc0 := 65) (pc' := 76) rfl (hb hby at_65) rfl (tlt (by decide : (1 : Int32) < (2 : Int32))).1 (by decide) (by decide) q) ?_
      refine own_tp (.int (1 : Int32)) 78 (fun _ q => XS.iload X84.here hx rfl (hb hby at_76) rfl q) ?_
      refine own_tp (.int (3 : Int32)) 79 (fun _ q => XS.iconst X84.here hx rfl (hb hby at_78) q) ?_
      refine own_d2 90 (fun _ q => XS.icmpYes X84.here hx rfl (pc0 := 79) (pc' := 90) rfl (hb hby at_79) rfl (tlt (by decide : (1 : Int32) < (3 : Int32))).1 (by decide) (by decide) q) ?_
      refine own_tp (.int (1 : Int32)) 92 (fun _ q => XS.iload X84.here hx rfl (hb hby at_90) rfl q) ?_
      refine own_tp (.int (4 : Int32)) 93 (fun _ q => XS.iconst X84.here hx rfl (hb hby at_92) q) ?_
      refine own_d2 104 (fun _ q => XS.icmpYes X84.here hx rfl (pc0 := 93) (pc' := 104) rfl (hb hby at_93) rfl (tlt (by decide : (1 : Int32) < (4 : Int32))).1 (by decide) (by decide) q) ?_
      refine own_tp (.int (1 : Int32)) 105 (fun _ q => XS.iconst X84.here hx rfl (hb hby at_104) q) ?_
      refine own_d0 109 (fun _ q => XS.goto X84.here hx rfl (pc0 := 105) (pc' := 109) rfl (hb hby at_105) (by decide) (by decide) q) ?_
      let L_91 : Array Slot := #[.val (.int p0), .val (.int p1), .val (.int p2), .val (.int p3), .val (.int p4), .val (.int (1 : Int32)), .val (.int cc74), .val (.int cc76), .val (.int cc78), .val (.int cc80), .val (.ref sq82), .val (.int (1 : Int32))]
      refine own_ls L_91 111 (fun _ q => XS.istore X84.here hx rfl (hb hby at_109) rfl (l' := L_91) rfl q) ?_
      refine own_tp (.ref sq82) 113 (fun _ q => XS.aload X84.here hx rfl (hb hby at_111) rfl rfl q) ?_
      obtain ⟨tq, kq, cdq, Nnq, vsq, Eq_, Lq, Cq, Vq, Coq⟩ := SS82
      rcases Coq with ⟨rfl, rfl, rfl, hcsq⟩ | ⟨rfl, rfl, rfl, hxq⟩
      ·
        obtain ⟨_, _, ⟨T92, L92, k92, n92⟩, -, X92, ⟨Lc92, hQ92, l92, y92, z92⟩, st92⟩ := Jvm.LawKit.callS X84 hx (y := (⟨"com/example/leastwise/leastwise/provisioning/WordLines", "spacesAlone", "(Ljava/lang/String;)Z"⟩ : MethodName)) hown (mvT hZ (hw _ (List.mem_of_getElem? (i := 31) rfl))) (mvT hZ (hw _ (List.mem_of_getElem? (i := 32) rfl))) (mvT hZ (hw _ (List.mem_of_getElem? (i := 33) rfl))) (mvT hZ (hw _ (List.mem_of_getElem? (i := 34) rfl))) (by decide) (backOf (W := 0) (rm3 l Z a0 hw [] sq82 tq kq [cc74] T82.heap n0 (by simp) (own_chs1 hc74) G1 US O82 G3 rG3 Sf Eq_ Cq Lq hcsq Vq) hZ (hw _ (List.mem_of_getElem? (i := 34) rfl)) (hw _ (List.mem_of_getElem? (i := 33) rfl)) (by decide) (by decide)) (g := (mkF m 113 L_91 [(.ref sq82)])) rfl (by rw [hml]; rfl) (argsL := [(.ref sq82)]) (rest := []) (lenOf pd0_2 rfl) rfl (by show 2 * 0 + _ ≤ _; exact Nat.le_of_eq rfl) (hb hby at_113) (fun _ _ => ⟨rfl, eq84, (by decide : 4 + 0 ≤ _), (by decide : 8 + 0 ≤ _)⟩)
        dsimp only [Pt.U, Pt.locs, Pt.cells, Pt.slots] at X92 l92 y92 z92 st92 hQ92
        subst l92 y92 z92
        obtain ⟨rfl, Nq92, eq92⟩ := hQ92
        have N92 := Fr.app N84 Nq92
        refine own_t1 (.int (own_sp [cc74])) 116 st92 ?_
        refine own_tp (.int (1 : Int32)) 118 (fun _ q => XS.iload X92.here hx rfl (hb hby at_116) rfl q) ?_
        by_cases c93 : (own_sp [cc74]) = (1 : Int32)
        ·
          refine own_d2 121 (fun _ q => XS.icmpNo X92.here hx rfl (hb hby at_118) rfl (teq c93).2 q) ?_
          refine own_tp (.int (1 : Int32)) 122 (fun _ q => XS.iconst X92.here hx rfl (hb hby at_121) q) ?_
          refine own_d0 126 (fun _ q => XS.goto X92.here hx rfl (pc0 := 122) (pc' := 126) rfl (hb hby at_122) (by decide) (by decide) q) ?_
          exact own_retNW (t := .boolean) X92 hx hrt (hb hby at_126) (by simp) hlk (by decide) (by decide) eq92 Wd82 (⟨rfl, N92⟩)
        ·
          refine own_d2 125 (fun _ q => XS.icmpYes X92.here hx rfl (pc0 := 118) (pc' := 125) rfl (hb hby at_118) rfl (feq c93).2 (by decide) (by decide) q) ?_
          refine own_tp (.int (0 : Int32)) 126 (fun _ q => XS.iconst X92.here hx rfl (hb hby at_125) q) ?_
          exact absurd (own_sp1 (by simp [c85])) c93
      ·
        obtain ⟨_, _, ⟨T94, L94, k94, n94⟩, -, X94, ⟨Lc94, hQ94, l94, y94, z94⟩, st94⟩ := Jvm.LawKit.callS X84 hx (y := (⟨"com/example/leastwise/leastwise/provisioning/WordLines", "spacesAlone", "(Ljava/lang/String;)Z"⟩ : MethodName)) hown (mvT hZ (hw _ (List.mem_of_getElem? (i := 31) rfl))) (mvT hZ (hw _ (List.mem_of_getElem? (i := 32) rfl))) (mvT hZ (hw _ (List.mem_of_getElem? (i := 33) rfl))) (mvT hZ (hw _ (List.mem_of_getElem? (i := 34) rfl))) (by decide) (backOf (W := 0) (rm4 l Z a0 hw [] sq82 tq kq [cc74] T82.heap n0 (by simp) (own_chs1 hc74) G1 US O82 G3 rG3 Sf Eq_ Cq Lq Vq) hZ (hw _ (List.mem_of_getElem? (i := 34) rfl)) (hw _ (List.mem_of_getElem? (i := 33) rfl)) (by decide) (by decide)) (g := (mkF m 113 L_91 [(.ref sq82)])) rfl (by rw [hml]; rfl) (argsL := [(.ref sq82)]) (rest := []) (lenOf pd0_2 rfl) rfl (by show 2 * 0 + _ ≤ _; exact Nat.le_of_eq rfl) (hb hby at_113) (fun _ _ => ⟨rfl, eq84, (by decide : 4 + 0 ≤ _), (by decide : 8 + 0 ≤ _)⟩)
        dsimp only [Pt.U, Pt.locs, Pt.cells, Pt.slots] at X94 l94 y94 z94 st94 hQ94
        subst l94 y94 z94
        obtain ⟨rfl, Nq94, eq94⟩ := hQ94
        have N94 := Fr.app N84 Nq94
        refine own_t1 (.int (own_sp [cc74])) 116 st94 ?_
        refine own_tp (.int (1 : Int32)) 118 (fun _ q => XS.iload X94.here hx rfl (hb hby at_116) rfl q) ?_
        by_cases c95 : (own_sp [cc74]) = (1 : Int32)
        ·
          refine own_d2 121 (fun _ q => XS.icmpNo X94.here hx rfl (hb hby at_118) rfl (teq c95).2 q) ?_
          refine own_tp (.int (1 : Int32)) 122 (fun _ q => XS.iconst X94.here hx rfl (hb hby at_121) q) ?_
          refine own_d0 126 (fun _ q => XS.goto X94.here hx rfl (pc0 := 122) (pc' := 126) rfl (hb hby at_122) (by decide) (by decide) q) ?_
          exact own_retNW (t := .boolean) X94 hx hrt (hb hby at_126) (by simp) hlk (by decide) (by decide) eq94 Wd82 (⟨rfl, N94⟩)
        ·
          refine own_d2 125 (fun _ q => XS.icmpYes X94.here hx rfl (pc0 := 118) (pc' := 125) rfl (hb hby at_118) rfl (feq c95).2 (by decide) (by decide) q) ?_
          refine own_tp (.int (0 : Int32)) 126 (fun _ q => XS.iconst X94.here hx rfl (hb hby at_125) q) ?_
          exact absurd (own_sp1 (by simp [c85])) c95
  ·
    rw [hk54]
    let L_96 : Array Slot := #[.val (.int p0), .val (.int p1), .val (.int p2), .val (.int p3), .val (.int p4), .val (.int (2 : Int32)), .unset, .unset, .unset, .unset, .unset, .unset]
    refine own_ls L_96 8 (fun _ q => XS.istore X0.here hx rfl (hb hby at_6) rfl (l' := L_96) rfl q) ?_
    refine own_tp (.int p1) 9 (fun _ q => XS.iloadN X0.here hx rfl (hb hby at_8) rfl q) ?_
    obtain ⟨_, _, ⟨T97, L97, k97, n97⟩, -, X97, ⟨Lc97, hQ97, l97, y97, z97⟩, st97⟩ := Jvm.LawKit.callS X0 hx (y := (⟨"com/example/leastwise/leastwise/provisioning/WordLinesSpacesAlonePinLaw", "draw", "(I)C"⟩ : MethodName)) hown (mvT hZ (hw _ (List.mem_of_getElem? (i := 1) rfl))) (mvT hZ (hw _ (List.mem_of_getElem? (i := 2) rfl))) (mvT hZ (hw _ (List.mem_of_getElem? (i := 3) rfl))) (mvT hZ (hw _ (List.mem_of_getElem? (i := 4) rfl))) (by decide) (backOf (W := 0) (rm1 l Z a0 hw [] p1 h0 n0) hZ (hw _ (List.mem_of_getElem? (i := 4) rfl)) (hw _ (List.mem_of_getElem? (i := 3) rfl)) (by decide) (by decide)) (g := (mkF m 9 L_96 [(.int p1)])) rfl (by rw [hml]; rfl) (argsL := [(.int p1)]) (rest := []) (lenOf pd0_0 rfl) rfl (by show 2 * 0 + _ ≤ _; exact Nat.le_of_eq rfl) (hb hby at_9) (fun _ _ => ⟨rfl, e0, (by decide : 0 + 0 ≤ _), (by decide : 0 + 0 ≤ _)⟩)
    dsimp only [Pt.U, Pt.locs, Pt.cells, Pt.slots] at X97 l97 y97 z97 st97 hQ97
    subst l97 y97 z97
    obtain ⟨cc97, rfl, hc97, Nq97, eq97⟩ := hQ97
    have N97 := Fr.app N0 Nq97
    refine own_t1 (.int cc97) 12 st97 ?_
    let L_98 : Array Slot := #[.val (.int p0), .val (.int p1), .val (.int p2), .val (.int p3), .val (.int p4), .val (.int (2 : Int32)), .val (.int cc97), .unset, .unset, .unset, .unset, .unset]
    refine own_ls L_98 14 (fun _ q => XS.istore X97.here hx rfl (hb hby at_12) rfl (l' := L_98) rfl q) ?_
    refine own_tp (.int p2) 15 (fun _ q => XS.iloadN X97.here hx rfl (hb hby at_14) rfl q) ?_
    obtain ⟨_, _, ⟨T99, L99, k99, n99⟩, -, X99, ⟨Lc99, hQ99, l99, y99, z99⟩, st99⟩ := Jvm.LawKit.callS X97 hx (y := (⟨"com/example/leastwise/leastwise/provisioning/WordLinesSpacesAlonePinLaw", "draw", "(I)C"⟩ : MethodName)) hown (mvT hZ (hw _ (List.mem_of_getElem? (i := 1) rfl))) (mvT hZ (hw _ (List.mem_of_getElem? (i := 2) rfl))) (mvT hZ (hw _ (List.mem_of_getElem? (i := 3) rfl))) (mvT hZ (hw _ (List.mem_of_getElem? (i := 4) rfl))) (by decide) (backOf (W := 0) (rm1 l Z a0 hw [] p2 h0 n0) hZ (hw _ (List.mem_of_getElem? (i := 4) rfl)) (hw _ (List.mem_of_getElem? (i := 3) rfl)) (by decide) (by decide)) (g := (mkF m 15 L_98 [(.int p2)])) rfl (by rw [hml]; rfl) (argsL := [(.int p2)]) (rest := []) (lenOf pd0_0 rfl) rfl (by show 2 * 0 + _ ≤ _; exact Nat.le_of_eq rfl) (hb hby at_15) (fun _ _ => ⟨rfl, eq97, (by decide : 0 + 0 ≤ _), (by decide : 0 + 0 ≤ _)⟩)
    dsimp only [Pt.U, Pt.locs, Pt.cells, Pt.slots] at X99 l99 y99 z99 st99 hQ99
    subst l99 y99 z99
    obtain ⟨cc99, rfl, hc99, Nq99, eq99⟩ := hQ99
    have N99 := Fr.app N97 Nq99
    refine own_t1 (.int cc99) 18 st99 ?_
    let L_100 : Array Slot := #[.val (.int p0), .val (.int p1), .val (.int p2), .val (.int p3), .val (.int p4), .val (.int (2 : Int32)), .val (.int cc97), .val (.int cc99), .unset, .unset, .unset, .unset]
    refine own_ls L_100 20 (fun _ q => XS.istore X99.here hx rfl (hb hby at_18) rfl (l' := L_100) rfl q) ?_
    refine own_tp (.int p3) 21 (fun _ q => XS.iloadN X99.here hx rfl (hb hby at_20) rfl q) ?_
    obtain ⟨_, _, ⟨T101, L101, k101, n101⟩, -, X101, ⟨Lc101, hQ101, l101, y101, z101⟩, st101⟩ := Jvm.LawKit.callS X99 hx (y := (⟨"com/example/leastwise/leastwise/provisioning/WordLinesSpacesAlonePinLaw", "draw", "(I)C"⟩ : MethodName)) hown (mvT hZ (hw _ (List.mem_of_getElem? (i := 1) rfl))) (mvT hZ (hw _ (List.mem_of_getElem? (i := 2) rfl))) (mvT hZ (hw _ (List.mem_of_getElem? (i := 3) rfl))) (mvT hZ (hw _ (List.mem_of_getElem? (i := 4) rfl))) (by decide) (backOf (W := 0) (rm1 l Z a0 hw [] p3 h0 n0) hZ (hw _ (List.mem_of_getElem? (i := 4) rfl)) (hw _ (List.mem_of_getElem? (i := 3) rfl)) (by decide) (by decide)) (g := (mkF m 21 L_100 [(.int p3)])) rfl (by rw [hml]; rfl) (argsL := [(.int p3)]) (rest := []) (lenOf pd0_0 rfl) rfl (by show 2 * 0 + _ ≤ _; exact Nat.le_of_eq rfl) (hb hby at_21) (fun _ _ => ⟨rfl, eq99, (by decide : 0 + 0 ≤ _), (by decide : 0 + 0 ≤ _)⟩)
    dsimp only [Pt.U, Pt.locs, Pt.cells, Pt.slots] at X101 l101 y101 z101 st101 hQ101
    subst l101 y101 z101
    obtain ⟨cc101, rfl, hc101, Nq101, eq101⟩ := hQ101
    have N101 := Fr.app N99 Nq101
    refine own_t1 (.int cc101) 24 st101 ?_
    let L_102 : Array Slot := #[.val (.int p0), .val (.int p1), .val (.int p2), .val (.int p3), .val (.int p4), .val (.int (2 : Int32)), .val (.int cc97), .val (.int cc99), .val (.int cc101), .unset, .unset, .unset]
    refine own_ls L_102 26 (fun _ q => XS.istore X101.here hx rfl (hb hby at_24) rfl (l' := L_102) rfl q) ?_
    refine own_tp (.int p4) 28 (fun _ q => XS.iload X101.here hx rfl (hb hby at_26) rfl q) ?_
    obtain ⟨_, _, ⟨T103, L103, k103, n103⟩, -, X103, ⟨Lc103, hQ103, l103, y103, z103⟩, st103⟩ := Jvm.LawKit.callS X101 hx (y := (⟨"com/example/leastwise/leastwise/provisioning/WordLinesSpacesAlonePinLaw", "draw", "(I)C"⟩ : MethodName)) hown (mvT hZ (hw _ (List.mem_of_getElem? (i := 1) rfl))) (mvT hZ (hw _ (List.mem_of_getElem? (i := 2) rfl))) (mvT hZ (hw _ (List.mem_of_getElem? (i := 3) rfl))) (mvT hZ (hw _ (List.mem_of_getElem? (i := 4) rfl))) (by decide) (backOf (W := 0) (rm1 l Z a0 hw [] p4 h0 n0) hZ (hw _ (List.mem_of_getElem? (i := 4) rfl)) (hw _ (List.mem_of_getElem? (i := 3) rfl)) (by decide) (by decide)) (g := (mkF m 28 L_102 [(.int p4)])) rfl (by rw [hml]; rfl) (argsL := [(.int p4)]) (rest := []) (lenOf pd0_0 rfl) rfl (by show 2 * 0 + _ ≤ _; exact Nat.le_of_eq rfl) (hb hby at_28) (fun _ _ => ⟨rfl, eq101, (by decide : 0 + 0 ≤ _), (by decide : 0 + 0 ≤ _)⟩)
    dsimp only [Pt.U, Pt.locs, Pt.cells, Pt.slots] at X103 l103 y103 z103 st103 hQ103
    subst l103 y103 z103
    obtain ⟨cc103, rfl, hc103, Nq103, eq103⟩ := hQ103
    have N103 := Fr.app N101 Nq103
    refine own_t1 (.int cc103) 31 st103 ?_
    let L_104 : Array Slot := #[.val (.int p0), .val (.int p1), .val (.int p2), .val (.int p3), .val (.int p4), .val (.int (2 : Int32)), .val (.int cc97), .val (.int cc99), .val (.int cc101), .val (.int cc103), .unset, .unset]
    refine own_ls L_104 33 (fun _ q => XS.istore X103.here hx rfl (hb hby at_31) rfl (l' := L_104) rfl q) ?_
    refine own_tp (.int (2 : Int32)) 35 (fun _ q => XS.iload X103.here hx rfl (hb hby at_33) rfl q) ?_
    refine own_tp (.int cc97) 37 (fun _ q => XS.iload X103.here hx rfl (hb hby at_35) rfl q) ?_
    refine own_tp (.int cc99) 39 (fun _ q => XS.iload X103.here hx rfl (hb hby at_37) rfl q) ?_
    refine own_tp (.int cc101) 41 (fun _ q => XS.iload X103.here hx rfl (hb hby at_39) rfl q) ?_
    refine own_tp (.int cc103) 43 (fun _ q => XS.iload X103.here hx rfl (hb hby at_41) rfl q) ?_
    obtain ⟨_, _, ⟨T105, L105, k105, n105⟩, -, X105, ⟨Lc105, hQ105, l105, y105, z105⟩, st105⟩ := Jvm.LawKit.callS X103 hx (y := (⟨"com/example/leastwise/leastwise/provisioning/WordLinesSpacesAlonePinLaw", "make", "(ICCCC)Ljava/lang/String;"⟩ : MethodName)) hown (mvT hZ (hw _ (List.mem_of_getElem? (i := 6) rfl))) (mvT hZ (hw _ (List.mem_of_getElem? (i := 7) rfl))) (mvT hZ (hw _ (List.mem_of_getElem? (i := 3) rfl))) (mvT hZ (hw _ (List.mem_of_getElem? (i := 8) rfl))) (by decide) (backOf (W := 0) (rm9 l Z a0 hw [] cc97 cc99 cc101 cc103 h0 n0 Z0 hc97 hc99 hc101 hc103 G1 US O0) hZ (hw _ (List.mem_of_getElem? (i := 8) rfl)) (hw _ (List.mem_of_getElem? (i := 3) rfl)) (by decide) (by decide)) (g := (mkF m 43 L_104 [(.int cc103), (.int cc101), (.int cc99), (.int cc97), (.int (2 : Int32))])) rfl (by rw [hml]; rfl) (argsL := [(.int (2 : Int32)), (.int cc97), (.int cc99), (.int cc101), (.int cc103)]) (rest := []) (lenOf pd0_1 rfl) rfl (by show 2 * 0 + _ ≤ _; exact Nat.le_of_eq rfl) (hb hby at_43) (fun _ _ => ⟨rfl, eq103, (by decide : 0 + 4 ≤ _), (by decide : 0 + 12 ≤ _)⟩)
    dsimp only [Pt.U, Pt.locs, Pt.cells, Pt.slots] at X105 l105 y105 z105 st105 hQ105
    subst l105 y105 z105
    obtain ⟨sq105, rfl, Nq105, Kp105, ge105, sz105, SS105⟩ := hQ105
    have N105 := Fr.app N103 Nq105
    have O105 := Old.keep O0 Kp105 all0
    have Z105 : n0 ≤ T105.heap.size := Nat.le_trans Z0 Kp105.1
    have Wd105 := Wd0.keep Kp105 all0
    refine own_cs [(.ref sq105)] 46 st105 ?_
    let L_106 : Array Slot := #[.val (.int p0), .val (.int p1), .val (.int p2), .val (.int p3), .val (.int p4), .val (.int (2 : Int32)), .val (.int cc97), .val (.int cc99), .val (.int cc101), .val (.int cc103), .val (.ref sq105), .unset]
    refine own_ls L_106 48 (fun _ q => XS.astore X105.here hx rfl (hb hby at_46) rfl rfl (l' := L_106) rfl q) ?_
    refine own_tp (.int (2 : Int32)) 50 (fun _ q => XS.iload X105.here hx rfl (hb hby at_48) rfl q) ?_
    refine own_tp (.int (1 : Int32)) 51 (fun _ q => XS.iconst X105.here hx rfl (hb hby at_50) q) ?_
    refine own_d2 54 (fun _ q => XS.icmpNo X105.here hx rfl (hb hby at_51) rfl (flt (by decide : ¬ ((2 : Int32) < (1 : Int32)))).1 q) ?_
    refine own_tp (.int cc97) 56 (fun _ q => XS.iload X105.here hx rfl (hb hby at_54) rfl q) ?_
    obtain ⟨_, _, ⟨T107, L107, k107, n107⟩, -, X107, ⟨Lc107, hQ107, l107, y107, z107⟩, st107⟩ := Jvm.LawKit.callS X105 hx (y := (⟨"com/example/leastwise/leastwise/provisioning/WordLinesSpacesAlonePinLaw", "allowed", "(C)Z"⟩ : MethodName)) hown (mvT hZ (hw _ (List.mem_of_getElem? (i := 85) rfl))) (mvT hZ (hw _ (List.mem_of_getElem? (i := 86) rfl))) (mvT hZ (hw _ (List.mem_of_getElem? (i := 3) rfl))) (mvT hZ (hw _ (List.mem_of_getElem? (i := 87) rfl))) (by decide) (backOf (W := 0) (rm2 l Z a0 hw [] cc97 T105.heap n0 ) hZ (hw _ (List.mem_of_getElem? (i := 87) rfl)) (hw _ (List.mem_of_getElem? (i := 3) rfl)) (by decide) (by decide)) (g := (mkF m 56 L_106 [(.int cc97)])) rfl (by rw [hml]; rfl) (argsL := [(.int cc97)]) (rest := []) (lenOf pd0_3 rfl) rfl (by show 2 * 0 + _ ≤ _; exact Nat.le_of_eq rfl) (hb hby at_56) (fun _ _ => ⟨rfl, rfl, (by decide : 4 + 0 ≤ _), (by decide : 12 + 0 ≤ _)⟩)
    dsimp only [Pt.U, Pt.locs, Pt.cells, Pt.slots] at X107 l107 y107 z107 st107 hQ107
    subst l107 y107 z107
    obtain ⟨rfl, Nq107, eq107⟩ := hQ107
    have N107 := Fr.app N105 Nq107
    refine own_t1 (.int (own_al cc97)) 59 st107 ?_
    by_cases c108 : (own_al cc97) = (0 : Int32)
    ·
      refine own_d1 108 (fun _ q => XS.ifYes X107.here hx rfl (pc0 := 59) (pc' := 108) rfl (hb hby at_59) rfl ((if0 _ _).trans (teq c108).1) (by decide) (by decide) q) ?_
      refine own_tp (.int (0 : Int32)) 109 (fun _ q => XS.iconst X107.here hx rfl (hb hby at_108) q) ?_
      let L_109 : Array Slot := #[.val (.int p0), .val (.int p1), .val (.int p2), .val (.int p3), .val (.int p4), .val (.int (2 : Int32)), .val (.int cc97), .val (.int cc99), .val (.int cc101), .val (.int cc103), .val (.ref sq105), .val (.int (0 : Int32))]
      refine own_ls L_109 111 (fun _ q => XS.istore X107.here hx rfl (hb hby at_109) rfl (l' := L_109) rfl q) ?_
      refine own_tp (.ref sq105) 113 (fun _ q => XS.aload X107.here hx rfl (hb hby at_111) rfl rfl q) ?_
      obtain ⟨tq, kq, cdq, Nnq, vsq, Eq_, Lq, Cq, Vq, Coq⟩ := SS105
      rcases Coq with ⟨rfl, rfl, rfl, hcsq⟩ | ⟨rfl, rfl, rfl, hxq⟩
      ·
        obtain ⟨_, _, ⟨T110, L110, k110, n110⟩, -, X110, ⟨Lc110, hQ110, l110, y110, z110⟩, st110⟩ := Jvm.LawKit.callS X107 hx (y := (⟨"com/example/leastwise/leastwise/provisioning/WordLines", "spacesAlone", "(Ljava/lang/String;)Z"⟩ : MethodName)) hown (mvT hZ (hw _ (List.mem_of_getElem? (i := 31) rfl))) (mvT hZ (hw _ (List.mem_of_getElem? (i := 32) rfl))) (mvT hZ (hw _ (List.mem_of_getElem? (i := 33) rfl))) (mvT hZ (hw _ (List.mem_of_getElem? (i := 34) rfl))) (by decide) (backOf (W := 0) (rm3 l Z a0 hw [] sq105 tq kq [cc97, cc99] T105.heap n0 (by simp) (own_chs2 hc97 hc99) G1 US O105 G3 rG3 Sf Eq_ Cq Lq hcsq Vq) hZ (hw _ (List.mem_of_getElem? (i := 34) rfl)) (hw _ (List.mem_of_getElem? (i := 33) rfl)) (by decide) (by decide)) (g := (mkF m 113 L_109 [(.ref sq105)])) rfl (by rw [hml]; rfl) (argsL := [(.ref sq105)]) (rest := []) (lenOf pd0_2 rfl) rfl (by show 2 * 0 + _ ≤ _; exact Nat.le_of_eq rfl) (hb hby at_113) (fun _ _ => ⟨rfl, eq107, (by decide : 4 + 0 ≤ _), (by decide : 12 + 0 ≤ _)⟩)
        dsimp only [Pt.U, Pt.locs, Pt.cells, Pt.slots] at X110 l110 y110 z110 st110 hQ110
        subst l110 y110 z110
        obtain ⟨rfl, Nq110, eq110⟩ := hQ110
        have N110 := Fr.app N107 Nq110
        refine own_t1 (.int (own_sp [cc97, cc99])) 116 st110 ?_
        refine own_tp (.int (0 : Int32)) 118 (fun _ q => XS.iload X110.here hx rfl (hb hby at_116) rfl q) ?_
        by_cases c111 : (own_sp [cc97, cc99]) = (0 : Int32)
        ·
          refine own_d2 121 (fun _ q => XS.icmpNo X110.here hx rfl (hb hby at_118) rfl (teq c111).2 q) ?_
          refine own_tp (.int (1 : Int32)) 122 (fun _ q => XS.iconst X110.here hx rfl (hb hby at_121) q) ?_
          refine own_d0 126 (fun _ q => XS.goto X110.here hx rfl (pc0 := 122) (pc' := 126) rfl (hb hby at_122) (by decide) (by decide) q) ?_
          exact own_retNW (t := .boolean) X110 hx hrt (hb hby at_126) (by simp) hlk (by decide) (by decide) eq110 Wd105 (⟨rfl, N110⟩)
        ·
          refine own_d2 125 (fun _ q => XS.icmpYes X110.here hx rfl (pc0 := 118) (pc' := 125) rfl (hb hby at_118) rfl (feq c111).2 (by decide) (by decide) q) ?_
          refine own_tp (.int (0 : Int32)) 126 (fun _ q => XS.iconst X110.here hx rfl (hb hby at_125) q) ?_
          exact absurd (own_sp0 (c := cc97) (by simp) c108) c111
      ·
        obtain ⟨_, _, ⟨T112, L112, k112, n112⟩, -, X112, ⟨Lc112, hQ112, l112, y112, z112⟩, st112⟩ := Jvm.LawKit.callS X107 hx (y := (⟨"com/example/leastwise/leastwise/provisioning/WordLines", "spacesAlone", "(Ljava/lang/String;)Z"⟩ : MethodName)) hown (mvT hZ (hw _ (List.mem_of_getElem? (i := 31) rfl))) (mvT hZ (hw _ (List.mem_of_getElem? (i := 32) rfl))) (mvT hZ (hw _ (List.mem_of_getElem? (i := 33) rfl))) (mvT hZ (hw _ (List.mem_of_getElem? (i := 34) rfl))) (by decide) (backOf (W := 0) (rm4 l Z a0 hw [] sq105 tq kq [cc97, cc99] T105.heap n0 (by simp) (own_chs2 hc97 hc99) G1 US O105 G3 rG3 Sf Eq_ Cq Lq Vq) hZ (hw _ (List.mem_of_getElem? (i := 34) rfl)) (hw _ (List.mem_of_getElem? (i := 33) rfl)) (by decide) (by decide)) (g := (mkF m 113 L_109 [(.ref sq105)])) rfl (by rw [hml]; rfl) (argsL := [(.ref sq105)]) (rest := []) (lenOf pd0_2 rfl) rfl (by show 2 * 0 + _ ≤ _; exact Nat.le_of_eq rfl) (hb hby at_113) (fun _ _ => ⟨rfl, eq107, (by decide : 4 + 0 ≤ _), (by decide : 12 + 0 ≤ _)⟩)
        dsimp only [Pt.U, Pt.locs, Pt.cells, Pt.slots] at X112 l112 y112 z112 st112 hQ112
        subst l112 y112 z112
        obtain ⟨rfl, Nq112, eq112⟩ := hQ112
        have N112 := Fr.app N107 Nq112
        refine own_t1 (.int (own_sp [cc97, cc99])) 116 st112 ?_
        refine own_tp (.int (0 : Int32)) 118 (fun _ q => XS.iload X112.here hx rfl (hb hby at_116) rfl q) ?_
        by_cases c113 : (own_sp [cc97, cc99]) = (0 : Int32)
        ·
          refine own_d2 121 (fun _ q => XS.icmpNo X112.here hx rfl (hb hby at_118) rfl (teq c113).2 q) ?_
          refine own_tp (.int (1 : Int32)) 122 (fun _ q => XS.iconst X112.here hx rfl (hb hby at_121) q) ?_
          refine own_d0 126 (fun _ q => XS.goto X112.here hx rfl (pc0 := 122) (pc' := 126) rfl (hb hby at_122) (by decide) (by decide) q) ?_
          exact own_retNW (t := .boolean) X112 hx hrt (hb hby at_126) (by simp) hlk (by decide) (by decide) eq112 Wd105 (⟨rfl, N112⟩)
        ·
          refine own_d2 125 (fun _ q => XS.icmpYes X112.here hx rfl (pc0 := 118) (pc' := 125) rfl (hb hby at_118) rfl (feq c113).2 (by decide) (by decide) q) ?_
          refine own_tp (.int (0 : Int32)) 126 (fun _ q => XS.iconst X112.here hx rfl (hb hby at_125) q) ?_
          exact absurd (own_sp0 (c := cc97) (by simp) c108) c113
    ·
      refine own_d1 62 (fun _ q => XS.ifNo X107.here hx rfl (hb hby at_59) rfl ((if0 _ _).trans (feq c108).1) q) ?_
      refine own_tp (.int (2 : Int32)) 64 (fun _ q => XS.iload X107.here hx rfl (hb hby at_62) rfl q) ?_
      refine own_tp (.int (2 : Int32)) 65 (fun _ q => XS.iconst X107.here hx rfl (hb hby at_64) q) ?_
      refine own_d2 68 (fun _ q => XS.icmpNo X107.here hx rfl (hb hby at_65) rfl (flt (by decide : ¬ ((2 : Int32) < (2 : Int32)))).1 q) ?_
      refine own_tp (.int cc99) 70 (fun _ q => XS.iload X107.here hx rfl (hb hby at_68) rfl q) ?_
      obtain ⟨_, _, ⟨T114, L114, k114, n114⟩, -, X114, ⟨Lc114, hQ114, l114, y114, z114⟩, st114⟩ := Jvm.LawKit.callS X107 hx (y := (⟨"com/example/leastwise/leastwise/provisioning/WordLinesSpacesAlonePinLaw", "allowed", "(C)Z"⟩ : MethodName)) hown (mvT hZ (hw _ (List.mem_of_getElem? (i := 85) rfl))) (mvT hZ (hw _ (List.mem_of_getElem? (i := 86) rfl))) (mvT hZ (hw _ (List.mem_of_getElem? (i := 3) rfl))) (mvT hZ (hw _ (List.mem_of_getElem? (i := 87) rfl))) (by decide) (backOf (W := 0) (rm2 l Z a0 hw [] cc99 T105.heap n0 ) hZ (hw _ (List.mem_of_getElem? (i := 87) rfl)) (hw _ (List.mem_of_getElem? (i := 3) rfl)) (by decide) (by decide)) (g := (mkF m 70 L_106 [(.int cc99)])) rfl (by rw [hml]; rfl) (argsL := [(.int cc99)]) (rest := []) (lenOf pd0_3 rfl) rfl (by show 2 * 0 + _ ≤ _; exact Nat.le_of_eq rfl) (hb hby at_70) (fun _ _ => ⟨rfl, eq107, (by decide : 4 + 0 ≤ _), (by decide : 12 + 0 ≤ _)⟩)
      dsimp only [Pt.U, Pt.locs, Pt.cells, Pt.slots] at X114 l114 y114 z114 st114 hQ114
      subst l114 y114 z114
      obtain ⟨rfl, Nq114, eq114⟩ := hQ114
      have N114 := Fr.app N107 Nq114
      refine own_t1 (.int (own_al cc99)) 73 st114 ?_
      by_cases c115 : (own_al cc99) = (0 : Int32)
      ·
        refine own_d1 108 (fun _ q => XS.ifYes X114.here hx rfl (pc0 := 73) (pc' := 108) rfl (hb hby at_73) rfl ((if0 _ _).trans (teq c115).1) (by decide) (by decide) q) ?_
        refine own_tp (.int (0 : Int32)) 109 (fun _ q => XS.iconst X114.here hx rfl (hb hby at_108) q) ?_
        let L_116 : Array Slot := #[.val (.int p0), .val (.int p1), .val (.int p2), .val (.int p3), .val (.int p4), .val (.int (2 : Int32)), .val (.int cc97), .val (.int cc99), .val (.int cc101), .val (.int cc103), .val (.ref sq105), .val (.int (0 : Int32))]
        refine own_ls L_116 111 (fun _ q => XS.istore X114.here hx rfl (hb hby at_109) rfl (l' := L_116) rfl q) ?_
        refine own_tp (.ref sq105) 113 (fun _ q => XS.aload X114.here hx rfl (hb hby at_111) rfl rfl q) ?_
        obtain ⟨tq, kq, cdq, Nnq, vsq, Eq_, Lq, Cq, Vq, Coq⟩ := SS105
        rcases Coq with ⟨rfl, rfl, rfl, hcsq⟩ | ⟨rfl, rfl, rfl, hxq⟩
        ·
          obtain ⟨_, _, ⟨T117, L117, k117, n117⟩, -, X117, ⟨Lc117, hQ117, l117, y117, z117⟩, st117⟩ := Jvm.LawKit.callS X114 hx (y := (⟨"com/example/leastwise/leastwise/provisioning/WordLines", "spacesAlone", "(Ljava/lang/String;)Z"⟩ : MethodName)) hown (mvT hZ (hw _ (List.mem_of_getElem? (i := 31) rfl))) (mvT hZ (hw _ (List.mem_of_getElem? (i := 32) rfl))) (mvT hZ (hw _ (List.mem_of_getElem? (i := 33) rfl))) (mvT hZ (hw _ (List.mem_of_getElem? (i := 34) rfl))) (by decide) (backOf (W := 0) (rm3 l Z a0 hw [] sq105 tq kq [cc97, cc99] T105.heap n0 (by simp) (own_chs2 hc97 hc99) G1 US O105 G3 rG3 Sf Eq_ Cq Lq hcsq Vq) hZ (hw _ (List.mem_of_getElem? (i := 34) rfl)) (hw _ (List.mem_of_getElem? (i := 33) rfl)) (by decide) (by decide)) (g := (mkF m 113 L_116 [(.ref sq105)])) rfl (by rw [hml]; rfl) (argsL := [(.ref sq105)]) (rest := []) (lenOf pd0_2 rfl) rfl (by show 2 * 0 + _ ≤ _; exact Nat.le_of_eq rfl) (hb hby at_113) (fun _ _ => ⟨rfl, eq114, (by decide : 4 + 0 ≤ _), (by decide : 12 + 0 ≤ _)⟩)
          dsimp only [Pt.U, Pt.locs, Pt.cells, Pt.slots] at X117 l117 y117 z117 st117 hQ117
          subst l117 y117 z117
          obtain ⟨rfl, Nq117, eq117⟩ := hQ117
          have N117 := Fr.app N114 Nq117
          refine own_t1 (.int (own_sp [cc97, cc99])) 116 st117 ?_
          refine own_tp (.int (0 : Int32)) 118 (fun _ q => XS.iload X117.here hx rfl (hb hby at_116) rfl q) ?_
          by_cases c118 : (own_sp [cc97, cc99]) = (0 : Int32)
          ·
            refine own_d2 121 (fun _ q => XS.icmpNo X117.here hx rfl (hb hby at_118) rfl (teq c118).2 q) ?_
            refine own_tp (.int (1 : Int32)) 122 (fun _ q => XS.iconst X117.here hx rfl (hb hby at_121) q) ?_
            refine own_d0 126 (fun _ q => XS.goto X117.here hx rfl (pc0 := 122) (pc' := 126) rfl (hb hby at_122) (by decide) (by decide) q) ?_
            exact own_retNW (t := .boolean) X117 hx hrt (hb hby at_126) (by simp) hlk (by decide) (by decide) eq117 Wd105 (⟨rfl, N117⟩)
          ·
            refine own_d2 125 (fun _ q => XS.icmpYes X117.here hx rfl (pc0 := 118) (pc' := 125) rfl (hb hby at_118) rfl (feq c118).2 (by decide) (by decide) q) ?_
            refine own_tp (.int (0 : Int32)) 126 (fun _ q => XS.iconst X117.here hx rfl (hb hby at_125) q) ?_
            exact absurd (own_sp0 (c := cc99) (by simp) c115) c118
        ·
          obtain ⟨_, _, ⟨T119, L119, k119, n119⟩, -, X119, ⟨Lc119, hQ119, l119, y119, z119⟩, st119⟩ := Jvm.LawKit.callS X114 hx (y := (⟨"com/example/leastwise/leastwise/provisioning/WordLines", "spacesAlone", "(Ljava/lang/String;)Z"⟩ : MethodName)) hown (mvT hZ (hw _ (List.mem_of_getElem? (i := 31) rfl))) (mvT hZ (hw _ (List.mem_of_getElem? (i := 32) rfl))) (mvT hZ (hw _ (List.mem_of_getElem? (i := 33) rfl))) (mvT hZ (hw _ (List.mem_of_getElem? (i := 34) rfl))) (by decide) (backOf (W := 0) (rm4 l Z a0 hw [] sq105 tq kq [cc97, cc99] T105.heap n0 (by simp) (own_chs2 hc97 hc99) G1 US O105 G3 rG3 Sf Eq_ Cq Lq Vq) hZ (hw _ (List.mem_of_getElem? (i := 34) rfl)) (hw _ (List.mem_of_getElem? (i := 33) rfl)) (by decide) (by decide)) (g := (mkF m 113 L_116 [(.ref sq105)])) rfl (by rw [hml]; rfl) (argsL := [(.ref sq105)]) (rest := []) (lenOf pd0_2 rfl) rfl (by show 2 * 0 + _ ≤ _; exact Nat.le_of_eq rfl) (hb hby at_113) (fun _ _ => ⟨rfl, eq114, (by decide : 4 + 0 ≤ _), (by decide : 12 + 0 ≤ _)⟩)
          dsimp only [Pt.U, Pt.locs, Pt.cells, Pt.slots] at X119 l119 y119 z119 st119 hQ119
          subst l119 y119 z119
          obtain ⟨rfl, Nq119, eq119⟩ := hQ119
          have N119 := Fr.app N114 Nq119
          refine own_t1 (.int (own_sp [cc97, cc99])) 116 st119 ?_
          refine own_tp (.int (0 : Int32)) 118 (fun _ q => XS.iload X119.here hx rfl (hb hby at_116) rfl q) ?_
          by_cases c120 : (own_sp [cc97, cc99]) = (0 : Int32)
          ·
            refine own_d2 121 (fun _ q => XS.icmpNo X119.here hx rfl (hb hby at_118) rfl (teq c120).2 q) ?_
            refine own_tp (.int (1 : Int32)) 122 (fun _ q => XS.iconst X119.here hx rfl (hb hby at_121) q) ?_
            refine own_d0 126 (fun _ q => XS.goto X119.here hx rfl (pc0 := 122) (pc' := 126) rfl (hb hby at_122) (by decide) (by decide) q) ?_
            exact own_retNW (t := .boolean) X119 hx hrt (hb hby at_126) (by simp) hlk (by decide) (by decide) eq119 Wd105 (⟨rfl, N119⟩)
          ·
            refine own_d2 125 (fun _ q => XS.icmpYes X119.here hx rfl (pc0 := 118) (pc' := 125) rfl (hb hby at_118) rfl (feq c120).2 (by decide) (by decide) q) ?_
            refine own_tp (.int (0 : Int32)) 126 (fun _ q => XS.iconst X119.here hx rfl (hb hby at_125) q) ?_
            exact absurd (own_sp0 (c := cc99) (by simp) c115) c120
      ·
        refine own_d1 76 (fun _ q => XS.ifNo X114.here hx rfl (hb hby at_73) rfl ((if0 _ _).trans (feq c115).1) q) ?_
        refine own_tp (.int (2 : Int32)) 78 (fun _ q => XS.iload X114.here hx rfl (hb hby at_76) rfl q) ?_
        refine own_tp (.int (3 : Int32)) 79 (fun _ q => XS.iconst X114.here hx rfl (hb hby at_78) q) ?_
        refine own_d2 90 (fun _ q => XS.icmpYes X114.here hx rfl (pc0 := 79) (pc' := 90) rfl (hb hby at_79) rfl (tlt (by decide : (2 : Int32) < (3 : Int32))).1 (by decide) (by decide) q) ?_
        refine own_tp (.int (2 : Int32)) 92 (fun _ q => XS.iload X114.here hx rfl (hb hby at_90) rfl q) ?_
        refine own_tp (.int (4 : Int32)) 93 (fun _ q => XS.iconst X114.here hx rfl (hb hby at_92) q) ?_
        refine own_d2 104 (fun _ q => XS.icmpYes X114.here hx rfl (pc0 := 93) (pc' := 104) rfl (hb hby at_93) rfl (tlt (by decide : (2 : Int32) < (4 : Int32))).1 (by decide) (by decide) q) ?_
        refine own_tp (.int (1 : Int32)) 105 (fun _ q => XS.iconst X114.here hx rfl (hb hby at_104) q) ?_
        refine own_d0 109 (fun _ q => XS.goto X114.here hx rfl (pc0 := 105) (pc' := 109) rfl (hb hby at_105) (by decide) (by decide) q) ?_
        let L_121 : Array Slot := #[.val (.int p0), .val (.int p1), .val (.int p2), .val (.int p3), .val (.int p4), .val (.int (2 : Int32)), .val (.int cc97), .val (.int cc99), .val (.int cc101), .val (.int cc103), .val (.ref sq105), .val (.int (1 : Int32))]
        refine own_ls L_121 111 (fun _ q => XS.istore X114.here hx rfl (hb hby at_109) rfl (l' := L_121) rfl q) ?_
        refine own_tp (.ref sq105) 113 (fun _ q => XS.aload X114.here hx rfl (hb hby at_111) rfl rfl q) ?_
        obtain ⟨tq, kq, cdq, Nnq, vsq, Eq_, Lq, Cq, Vq, Coq⟩ := SS105
        rcases Coq with ⟨rfl, rfl, rfl, hcsq⟩ | ⟨rfl, rfl, rfl, hxq⟩
        ·
          obtain ⟨_, _, ⟨T122, L122, k122, n122⟩, -, X122, ⟨Lc122, hQ122, l122, y122, z122⟩, st122⟩ := Jvm.LawKit.callS X114 hx (y := (⟨"com/example/leastwise/leastwise/provisioning/WordLines", "spacesAlone", "(Ljava/lang/String;)Z"⟩ : MethodName)) hown (mvT hZ (hw _ (List.mem_of_getElem? (i := 31) rfl))) (mvT hZ (hw _ (List.mem_of_getElem? (i := 32) rfl))) (mvT hZ (hw _ (List.mem_of_getElem? (i := 33) rfl))) (mvT hZ (hw _ (List.mem_of_getElem? (i := 34) rfl))) (by decide) (backOf (W := 0) (rm3 l Z a0 hw [] sq105 tq kq [cc97, cc99] T105.heap n0 (by simp) (own_chs2 hc97 hc99) G1 US O105 G3 rG3 Sf Eq_ Cq Lq hcsq Vq) hZ (hw _ (List.mem_of_getElem? (i := 34) rfl)) (hw _ (List.mem_of_getElem? (i := 33) rfl)) (by decide) (by decide)) (g := (mkF m 113 L_121 [(.ref sq105)])) rfl (by rw [hml]; rfl) (argsL := [(.ref sq105)]) (rest := []) (lenOf pd0_2 rfl) rfl (by show 2 * 0 + _ ≤ _; exact Nat.le_of_eq rfl) (hb hby at_113) (fun _ _ => ⟨rfl, eq114, (by decide : 4 + 0 ≤ _), (by decide : 12 + 0 ≤ _)⟩)
          dsimp only [Pt.U, Pt.locs, Pt.cells, Pt.slots] at X122 l122 y122 z122 st122 hQ122
          subst l122 y122 z122
          obtain ⟨rfl, Nq122, eq122⟩ := hQ122
          have N122 := Fr.app N114 Nq122
          refine own_t1 (.int (own_sp [cc97, cc99])) 116 st122 ?_
          refine own_tp (.int (1 : Int32)) 118 (fun _ q => XS.iload X122.here hx rfl (hb hby at_116) rfl q) ?_
          by_cases c123 : (own_sp [cc97, cc99]) = (1 : Int32)
          ·
            refine own_d2 121 (fun _ q => XS.icmpNo X122.here hx rfl (hb hby at_118) rfl (teq c123).2 q) ?_
            refine own_tp (.int (1 : Int32)) 122 (fun _ q => XS.iconst X122.here hx rfl (hb hby at_121) q) ?_
            refine own_d0 126 (fun _ q => XS.goto X122.here hx rfl (pc0 := 122) (pc' := 126) rfl (hb hby at_122) (by decide) (by decide) q) ?_
            exact own_retNW (t := .boolean) X122 hx hrt (hb hby at_126) (by simp) hlk (by decide) (by decide) eq122 Wd105 (⟨rfl, N122⟩)
          ·
            refine own_d2 125 (fun _ q => XS.icmpYes X122.here hx rfl (pc0 := 118) (pc' := 125) rfl (hb hby at_118) rfl (feq c123).2 (by decide) (by decide) q) ?_
            refine own_tp (.int (0 : Int32)) 126 (fun _ q => XS.iconst X122.here hx rfl (hb hby at_125) q) ?_
            exact absurd (own_sp1 (by simp [c108, c115])) c123
        ·
          obtain ⟨_, _, ⟨T124, L124, k124, n124⟩, -, X124, ⟨Lc124, hQ124, l124, y124, z124⟩, st124⟩ := Jvm.LawKit.callS X114 hx (y := (⟨"com/example/leastwise/leastwise/provisioning/WordLines", "spacesAlone", "(Ljava/lang/String;)Z"⟩ : MethodName)) hown (mvT hZ (hw _ (List.mem_of_getElem? (i := 31) rfl))) (mvT hZ (hw _ (List.mem_of_getElem? (i := 32) rfl))) (mvT hZ (hw _ (List.mem_of_getElem? (i := 33) rfl))) (mvT hZ (hw _ (List.mem_of_getElem? (i := 34) rfl))) (by decide) (backOf (W := 0) (rm4 l Z a0 hw [] sq105 tq kq [cc97, cc99] T105.heap n0 (by simp) (own_chs2 hc97 hc99) G1 US O105 G3 rG3 Sf Eq_ Cq Lq Vq) hZ (hw _ (List.mem_of_getElem? (i := 34) rfl)) (hw _ (List.mem_of_getElem? (i := 33) rfl)) (by decide) (by decide)) (g := (mkF m 113 L_121 [(.ref sq105)])) rfl (by rw [hml]; rfl) (argsL := [(.ref sq105)]) (rest := []) (lenOf pd0_2 rfl) rfl (by show 2 * 0 + _ ≤ _; exact Nat.le_of_eq rfl) (hb hby at_113) (fun _ _ => ⟨rfl, eq114, (by decide : 4 + 0 ≤ _), (by decide : 12 + 0 ≤ _)⟩)
          dsimp only [Pt.U, Pt.locs, Pt.cells, Pt.slots] at X124 l124 y124 z124 st124 hQ124
          subst l124 y124 z124
          obtain ⟨rfl, Nq124, eq124⟩ := hQ124
          have N124 := Fr.app N114 Nq124
          refine own_t1 (.int (own_sp [cc97, cc99])) 116 st124 ?_
          refine own_tp (.int (1 : Int32)) 118 (fun _ q => XS.iload X124.here hx rfl (hb hby at_116) rfl q) ?_
          by_cases c125 : (own_sp [cc97, cc99]) = (1 : Int32)
          ·
            refine own_d2 121 (fun _ q => XS.icmpNo X124.here hx rfl (hb hby at_118) rfl (teq c125).2 q) ?_
            refine own_tp (.int (1 : Int32)) 122 (fun _ q => XS.iconst X124.here hx rfl (hb hby at_121) q) ?_
            refine own_d0 126 (fun _ q => XS.goto X124.here hx rfl (pc0 := 122) (pc' := 126) rfl (hb hby at_122) (by decide) (by decide) q) ?_
            exact own_retNW (t := .boolean) X124 hx hrt (hb hby at_126) (by simp) hlk (by decide) (by decide) eq124 Wd105 (⟨rfl, N124⟩)
          ·
            refine own_d2 125 (fun _ q => XS.icmpYes X124.here hx rfl (pc0 := 118) (pc' := 125) rfl (hb hby at_118) rfl (feq c125).2 (by decide) (by decide) q) ?_
            refine own_tp (.int (0 : Int32)) 126 (fun _ q => XS.iconst X124.here hx rfl (hb hby at_125) q) ?_
            exact absurd (own_sp1 (by simp [c108, c115])) c125
  ·
    rw [hk55]
    let L_126 : Array Slot := #[.val (.int p0), .val (.int p1), .val (.int p2), .val (.int p3), .val (.int p4), .val (.int (3 : Int32)), .unset, .unset, .unset, .unset, .unset, .unset]
    refine own_ls L_126 8 (fun _ q => XS.istore X0.here hx rfl (hb hby at_6) rfl (l' := L_126) rfl q) ?_
    refine own_tp (.int p1) 9 (fun _ q => XS.iloadN X0.here hx rfl (hb hby at_8) rfl q) ?_
    obtain ⟨_, _, ⟨T127, L127, k127, n127⟩, -, X127, ⟨Lc127, hQ127, l127, y127, z127⟩, st127⟩ := Jvm.LawKit.callS X0 hx (y := (⟨"com/example/leastwise/leastwise/provisioning/WordLinesSpacesAlonePinLaw", "draw", "(I)C"⟩ : MethodName)) hown (mvT hZ (hw _ (List.mem_of_getElem? (i := 1) rfl))) (mvT hZ (hw _ (List.mem_of_getElem? (i := 2) rfl))) (mvT hZ (hw _ (List.mem_of_getElem? (i := 3) rfl))) (mvT hZ (hw _ (List.mem_of_getElem? (i := 4) rfl))) (by decide) (backOf (W := 0) (rm1 l Z a0 hw [] p1 h0 n0) hZ (hw _ (List.mem_of_getElem? (i := 4) rfl)) (hw _ (List.mem_of_getElem? (i := 3) rfl)) (by decide) (by decide)) (g := (mkF m 9 L_126 [(.int p1)])) rfl (by rw [hml]; rfl) (argsL := [(.int p1)]) (rest := []) (lenOf pd0_0 rfl) rfl (by show 2 * 0 + _ ≤ _; exact Nat.le_of_eq rfl) (hb hby at_9) (fun _ _ => ⟨rfl, e0, (by decide : 0 + 0 ≤ _), (by decide : 0 + 0 ≤ _)⟩)
    dsimp only [Pt.U, Pt.locs, Pt.cells, Pt.slots] at X127 l127 y127 z127 st127 hQ127
    subst l127 y127 z127
    obtain ⟨cc127, rfl, hc127, Nq127, eq127⟩ := hQ127
    have N127 := Fr.app N0 Nq127
    refine own_t1 (.int cc127) 12 st127 ?_
    let L_128 : Array Slot := #[.val (.int p0), .val (.int p1), .val (.int p2), .val (.int p3), .val (.int p4), .val (.int (3 : Int32)), .val (.int cc127), .unset, .unset, .unset, .unset, .unset]
    refine own_ls L_128 14 (fun _ q => XS.istore X127.here hx rfl (hb hby at_12) rfl (l' := L_128) rfl q) ?_
    refine own_tp (.int p2) 15 (fun _ q => XS.iloadN X127.here hx rfl (hb hby at_14) rfl q) ?_
    obtain ⟨_, _, ⟨T129, L129, k129, n129⟩, -, X129, ⟨Lc129, hQ129, l129, y129, z129⟩, st129⟩ := Jvm.LawKit.callS X127 hx (y := (⟨"com/example/leastwise/leastwise/provisioning/WordLinesSpacesAlonePinLaw", "draw", "(I)C"⟩ : MethodName)) hown (mvT hZ (hw _ (List.mem_of_getElem? (i := 1) rfl))) (mvT hZ (hw _ (List.mem_of_getElem? (i := 2) rfl))) (mvT hZ (hw _ (List.mem_of_getElem? (i := 3) rfl))) (mvT hZ (hw _ (List.mem_of_getElem? (i := 4) rfl))) (by decide) (backOf (W := 0) (rm1 l Z a0 hw [] p2 h0 n0) hZ (hw _ (List.mem_of_getElem? (i := 4) rfl)) (hw _ (List.mem_of_getElem? (i := 3) rfl)) (by decide) (by decide)) (g := (mkF m 15 L_128 [(.int p2)])) rfl (by rw [hml]; rfl) (argsL := [(.int p2)]) (rest := []) (lenOf pd0_0 rfl) rfl (by show 2 * 0 + _ ≤ _; exact Nat.le_of_eq rfl) (hb hby at_15) (fun _ _ => ⟨rfl, eq127, (by decide : 0 + 0 ≤ _), (by decide : 0 + 0 ≤ _)⟩)
    dsimp only [Pt.U, Pt.locs, Pt.cells, Pt.slots] at X129 l129 y129 z129 st129 hQ129
    subst l129 y129 z129
    obtain ⟨cc129, rfl, hc129, Nq129, eq129⟩ := hQ129
    have N129 := Fr.app N127 Nq129
    refine own_t1 (.int cc129) 18 st129 ?_
    let L_130 : Array Slot := #[.val (.int p0), .val (.int p1), .val (.int p2), .val (.int p3), .val (.int p4), .val (.int (3 : Int32)), .val (.int cc127), .val (.int cc129), .unset, .unset, .unset, .unset]
    refine own_ls L_130 20 (fun _ q => XS.istore X129.here hx rfl (hb hby at_18) rfl (l' := L_130) rfl q) ?_
    refine own_tp (.int p3) 21 (fun _ q => XS.iloadN X129.here hx rfl (hb hby at_20) rfl q) ?_
    obtain ⟨_, _, ⟨T131, L131, k131, n131⟩, -, X131, ⟨Lc131, hQ131, l131, y131, z131⟩, st131⟩ := Jvm.LawKit.callS X129 hx (y := (⟨"com/example/leastwise/leastwise/provisioning/WordLinesSpacesAlonePinLaw", "draw", "(I)C"⟩ : MethodName)) hown (mvT hZ (hw _ (List.mem_of_getElem? (i := 1) rfl))) (mvT hZ (hw _ (List.mem_of_getElem? (i := 2) rfl))) (mvT hZ (hw _ (List.mem_of_getElem? (i := 3) rfl))) (mvT hZ (hw _ (List.mem_of_getElem? (i := 4) rfl))) (by decide) (backOf (W := 0) (rm1 l Z a0 hw [] p3 h0 n0) hZ (hw _ (List.mem_of_getElem? (i := 4) rfl)) (hw _ (List.mem_of_getElem? (i := 3) rfl)) (by decide) (by decide)) (g := (mkF m 21 L_130 [(.int p3)])) rfl (by rw [hml]; rfl) (argsL := [(.int p3)]) (rest := []) (lenOf pd0_0 rfl) rfl (by show 2 * 0 + _ ≤ _; exact Nat.le_of_eq rfl) (hb hby at_21) (fun _ _ => ⟨rfl, eq129, (by decide : 0 + 0 ≤ _), (by decide : 0 + 0 ≤ _)⟩)
    dsimp only [Pt.U, Pt.locs, Pt.cells, Pt.slots] at X131 l131 y131 z131 st131 hQ131
    subst l131 y131 z131
    obtain ⟨cc131, rfl, hc131, Nq131, eq131⟩ := hQ131
    have N131 := Fr.app N129 Nq131
    refine own_t1 (.int cc131) 24 st131 ?_
    let L_132 : Array Slot := #[.val (.int p0), .val (.int p1), .val (.int p2), .val (.int p3), .val (.int p4), .val (.int (3 : Int32)), .val (.int cc127), .val (.int cc129), .val (.int cc131), .unset, .unset, .unset]
    refine own_ls L_132 26 (fun _ q => XS.istore X131.here hx rfl (hb hby at_24) rfl (l' := L_132) rfl q) ?_
    refine own_tp (.int p4) 28 (fun _ q => XS.iload X131.here hx rfl (hb hby at_26) rfl q) ?_
    obtain ⟨_, _, ⟨T133, L133, k133, n133⟩, -, X133, ⟨Lc133, hQ133, l133, y133, z133⟩, st133⟩ := Jvm.LawKit.callS X131 hx (y := (⟨"com/example/leastwise/leastwise/provisioning/WordLinesSpacesAlonePinLaw", "draw", "(I)C"⟩ : MethodName)) hown (mvT hZ (hw _ (List.mem_of_getElem? (i := 1) rfl))) (mvT hZ (hw _ (List.mem_of_getElem? (i := 2) rfl))) (mvT hZ (hw _ (List.mem_of_getElem? (i := 3) rfl))) (mvT hZ (hw _ (List.mem_of_getElem? (i := 4) rfl))) (by decide) (backOf (W := 0) (rm1 l Z a0 hw [] p4 h0 n0) hZ (hw _ (List.mem_of_getElem? (i := 4) rfl)) (hw _ (List.mem_of_getElem? (i := 3) rfl)) (by decide) (by decide)) (g := (mkF m 28 L_132 [(.int p4)])) rfl (by rw [hml]; rfl) (argsL := [(.int p4)]) (rest := []) (lenOf pd0_0 rfl) rfl (by show 2 * 0 + _ ≤ _; exact Nat.le_of_eq rfl) (hb hby at_28) (fun _ _ => ⟨rfl, eq131, (by decide : 0 + 0 ≤ _), (by decide : 0 + 0 ≤ _)⟩)
    dsimp only [Pt.U, Pt.locs, Pt.cells, Pt.slots] at X133 l133 y133 z133 st133 hQ133
    subst l133 y133 z133
    obtain ⟨cc133, rfl, hc133, Nq133, eq133⟩ := hQ133
    have N133 := Fr.app N131 Nq133
    refine own_t1 (.int cc133) 31 st133 ?_
    let L_134 : Array Slot := #[.val (.int p0), .val (.int p1), .val (.int p2), .val (.int p3), .val (.int p4), .val (.int (3 : Int32)), .val (.int cc127), .val (.int cc129), .val (.int cc131), .val (.int cc133), .unset, .unset]
    refine own_ls L_134 33 (fun _ q => XS.istore X133.here hx rfl (hb hby at_31) rfl (l' := L_134) rfl q) ?_
    refine own_tp (.int (3 : Int32)) 35 (fun _ q => XS.iload X133.here hx rfl (hb hby at_33) rfl q) ?_
    refine own_tp (.int cc127) 37 (fun _ q => XS.iload X133.here hx rfl (hb hby at_35) rfl q) ?_
    refine own_tp (.int cc129) 39 (fun _ q => XS.iload X133.here hx rfl (hb hby at_37) rfl q) ?_
    refine own_tp (.int cc131) 41 (fun _ q => XS.iload X133.here hx rfl (hb hby at_39) rfl q) ?_
    refine own_tp (.int cc133) 43 (fun _ q => XS.iload X133.here hx rfl (hb hby at_41) rfl q) ?_
    obtain ⟨_, _, ⟨T135, L135, k135, n135⟩, -, X135, ⟨Lc135, hQ135, l135, y135, z135⟩, st135⟩ := Jvm.LawKit.callS X133 hx (y := (⟨"com/example/leastwise/leastwise/provisioning/WordLinesSpacesAlonePinLaw", "make", "(ICCCC)Ljava/lang/String;"⟩ : MethodName)) hown (mvT hZ (hw _ (List.mem_of_getElem? (i := 6) rfl))) (mvT hZ (hw _ (List.mem_of_getElem? (i := 7) rfl))) (mvT hZ (hw _ (List.mem_of_getElem? (i := 3) rfl))) (mvT hZ (hw _ (List.mem_of_getElem? (i := 8) rfl))) (by decide) (backOf (W := 0) (rm10 l Z a0 hw [] cc127 cc129 cc131 cc133 h0 n0 Z0 hc127 hc129 hc131 hc133 G1 US O0) hZ (hw _ (List.mem_of_getElem? (i := 8) rfl)) (hw _ (List.mem_of_getElem? (i := 3) rfl)) (by decide) (by decide)) (g := (mkF m 43 L_134 [(.int cc133), (.int cc131), (.int cc129), (.int cc127), (.int (3 : Int32))])) rfl (by rw [hml]; rfl) (argsL := [(.int (3 : Int32)), (.int cc127), (.int cc129), (.int cc131), (.int cc133)]) (rest := []) (lenOf pd0_1 rfl) rfl (by show 2 * 0 + _ ≤ _; exact Nat.le_of_eq rfl) (hb hby at_43) (fun _ _ => ⟨rfl, eq133, (by decide : 0 + 4 ≤ _), (by decide : 0 + 16 ≤ _)⟩)
    dsimp only [Pt.U, Pt.locs, Pt.cells, Pt.slots] at X135 l135 y135 z135 st135 hQ135
    subst l135 y135 z135
    obtain ⟨sq135, rfl, Nq135, Kp135, ge135, sz135, SS135⟩ := hQ135
    have N135 := Fr.app N133 Nq135
    have O135 := Old.keep O0 Kp135 all0
    have Z135 : n0 ≤ T135.heap.size := Nat.le_trans Z0 Kp135.1
    have Wd135 := Wd0.keep Kp135 all0
    refine own_cs [(.ref sq135)] 46 st135 ?_
    let L_136 : Array Slot := #[.val (.int p0), .val (.int p1), .val (.int p2), .val (.int p3), .val (.int p4), .val (.int (3 : Int32)), .val (.int cc127), .val (.int cc129), .val (.int cc131), .val (.int cc133), .val (.ref sq135), .unset]
    refine own_ls L_136 48 (fun _ q => XS.astore X135.here hx rfl (hb hby at_46) rfl rfl (l' := L_136) rfl q) ?_
    refine own_tp (.int (3 : Int32)) 50 (fun _ q => XS.iload X135.here hx rfl (hb hby at_48) rfl q) ?_
    refine own_tp (.int (1 : Int32)) 51 (fun _ q => XS.iconst X135.here hx rfl (hb hby at_50) q) ?_
    refine own_d2 54 (fun _ q => XS.icmpNo X135.here hx rfl (hb hby at_51) rfl (flt (by decide : ¬ ((3 : Int32) < (1 : Int32)))).1 q) ?_
    refine own_tp (.int cc127) 56 (fun _ q => XS.iload X135.here hx rfl (hb hby at_54) rfl q) ?_
    obtain ⟨_, _, ⟨T137, L137, k137, n137⟩, -, X137, ⟨Lc137, hQ137, l137, y137, z137⟩, st137⟩ := Jvm.LawKit.callS X135 hx (y := (⟨"com/example/leastwise/leastwise/provisioning/WordLinesSpacesAlonePinLaw", "allowed", "(C)Z"⟩ : MethodName)) hown (mvT hZ (hw _ (List.mem_of_getElem? (i := 85) rfl))) (mvT hZ (hw _ (List.mem_of_getElem? (i := 86) rfl))) (mvT hZ (hw _ (List.mem_of_getElem? (i := 3) rfl))) (mvT hZ (hw _ (List.mem_of_getElem? (i := 87) rfl))) (by decide) (backOf (W := 0) (rm2 l Z a0 hw [] cc127 T135.heap n0 ) hZ (hw _ (List.mem_of_getElem? (i := 87) rfl)) (hw _ (List.mem_of_getElem? (i := 3) rfl)) (by decide) (by decide)) (g := (mkF m 56 L_136 [(.int cc127)])) rfl (by rw [hml]; rfl) (argsL := [(.int cc127)]) (rest := []) (lenOf pd0_3 rfl) rfl (by show 2 * 0 + _ ≤ _; exact Nat.le_of_eq rfl) (hb hby at_56) (fun _ _ => ⟨rfl, rfl, (by decide : 4 + 0 ≤ _), (by decide : 16 + 0 ≤ _)⟩)
    dsimp only [Pt.U, Pt.locs, Pt.cells, Pt.slots] at X137 l137 y137 z137 st137 hQ137
    subst l137 y137 z137
    obtain ⟨rfl, Nq137, eq137⟩ := hQ137
    have N137 := Fr.app N135 Nq137
    refine own_t1 (.int (own_al cc127)) 59 st137 ?_
    by_cases c138 : (own_al cc127) = (0 : Int32)
    ·
      refine own_d1 108 (fun _ q => XS.ifYes X137.here hx rfl (pc0 := 59) (pc' := 108) rfl (hb hby at_59) rfl ((if0 _ _).trans (teq c138).1) (by decide) (by decide) q) ?_
      refine own_tp (.int (0 : Int32)) 109 (fun _ q => XS.iconst X137.here hx rfl (hb hby at_108) q) ?_
      let L_139 : Array Slot := #[.val (.int p0), .val (.int p1), .val (.int p2), .val (.int p3), .val (.int p4), .val (.int (3 : Int32)), .val (.int cc127), .val (.int cc129), .val (.int cc131), .val (.int cc133), .val (.ref sq135), .val (.int (0 : Int32))]
      refine own_ls L_139 111 (fun _ q => XS.istore X137.here hx rfl (hb hby at_109) rfl (l' := L_139) rfl q) ?_
      refine own_tp (.ref sq135) 113 (fun _ q => XS.aload X137.here hx rfl (hb hby at_111) rfl rfl q) ?_
      obtain ⟨tq, kq, cdq, Nnq, vsq, Eq_, Lq, Cq, Vq, Coq⟩ := SS135
      rcases Coq with ⟨rfl, rfl, rfl, hcsq⟩ | ⟨rfl, rfl, rfl, hxq⟩
      ·
        obtain ⟨_, _, ⟨T140, L140, k140, n140⟩, -, X140, ⟨Lc140, hQ140, l140, y140, z140⟩, st140⟩ := Jvm.LawKit.callS X137 hx (y := (⟨"com/example/leastwise/leastwise/provisioning/WordLines", "spacesAlone", "(Ljava/lang/String;)Z"⟩ : MethodName)) hown (mvT hZ (hw _ (List.mem_of_getElem? (i := 31) rfl))) (mvT hZ (hw _ (List.mem_of_getElem? (i := 32) rfl))) (mvT hZ (hw _ (List.mem_of_getElem? (i := 33) rfl))) (mvT hZ (hw _ (List.mem_of_getElem? (i := 34) rfl))) (by decide) (backOf (W := 0) (rm3 l Z a0 hw [] sq135 tq kq [cc127, cc129, cc131] T135.heap n0 (by simp) (own_chs3 hc127 hc129 hc131) G1 US O135 G3 rG3 Sf Eq_ Cq Lq hcsq Vq) hZ (hw _ (List.mem_of_getElem? (i := 34) rfl)) (hw _ (List.mem_of_getElem? (i := 33) rfl)) (by decide) (by decide)) (g := (mkF m 113 L_139 [(.ref sq135)])) rfl (by rw [hml]; rfl) (argsL := [(.ref sq135)]) (rest := []) (lenOf pd0_2 rfl) rfl (by show 2 * 0 + _ ≤ _; exact Nat.le_of_eq rfl) (hb hby at_113) (fun _ _ => ⟨rfl, eq137, (by decide : 4 + 0 ≤ _), (by decide : 16 + 0 ≤ _)⟩)
        dsimp only [Pt.U, Pt.locs, Pt.cells, Pt.slots] at X140 l140 y140 z140 st140 hQ140
        subst l140 y140 z140
        obtain ⟨rfl, Nq140, eq140⟩ := hQ140
        have N140 := Fr.app N137 Nq140
        refine own_t1 (.int (own_sp [cc127, cc129, cc131])) 116 st140 ?_
        refine own_tp (.int (0 : Int32)) 118 (fun _ q => XS.iload X140.here hx rfl (hb hby at_116) rfl q) ?_
        by_cases c141 : (own_sp [cc127, cc129, cc131]) = (0 : Int32)
        ·
          refine own_d2 121 (fun _ q => XS.icmpNo X140.here hx rfl (hb hby at_118) rfl (teq c141).2 q) ?_
          refine own_tp (.int (1 : Int32)) 122 (fun _ q => XS.iconst X140.here hx rfl (hb hby at_121) q) ?_
          refine own_d0 126 (fun _ q => XS.goto X140.here hx rfl (pc0 := 122) (pc' := 126) rfl (hb hby at_122) (by decide) (by decide) q) ?_
          exact own_retNW (t := .boolean) X140 hx hrt (hb hby at_126) (by simp) hlk (by decide) (by decide) eq140 Wd135 (⟨rfl, N140⟩)
        ·
          refine own_d2 125 (fun _ q => XS.icmpYes X140.here hx rfl (pc0 := 118) (pc' := 125) rfl (hb hby at_118) rfl (feq c141).2 (by decide) (by decide) q) ?_
          refine own_tp (.int (0 : Int32)) 126 (fun _ q => XS.iconst X140.here hx rfl (hb hby at_125) q) ?_
          exact absurd (own_sp0 (c := cc127) (by simp) c138) c141
      ·
        obtain ⟨_, _, ⟨T142, L142, k142, n142⟩, -, X142, ⟨Lc142, hQ142, l142, y142, z142⟩, st142⟩ := Jvm.LawKit.callS X137 hx (y := (⟨"com/example/leastwise/leastwise/provisioning/WordLines", "spacesAlone", "(Ljava/lang/String;)Z"⟩ : MethodName)) hown (mvT hZ (hw _ (List.mem_of_getElem? (i := 31) rfl))) (mvT hZ (hw _ (List.mem_of_getElem? (i := 32) rfl))) (mvT hZ (hw _ (List.mem_of_getElem? (i := 33) rfl))) (mvT hZ (hw _ (List.mem_of_getElem? (i := 34) rfl))) (by decide) (backOf (W := 0) (rm4 l Z a0 hw [] sq135 tq kq [cc127, cc129, cc131] T135.heap n0 (by simp) (own_chs3 hc127 hc129 hc131) G1 US O135 G3 rG3 Sf Eq_ Cq Lq Vq) hZ (hw _ (List.mem_of_getElem? (i := 34) rfl)) (hw _ (List.mem_of_getElem? (i := 33) rfl)) (by decide) (by decide)) (g := (mkF m 113 L_139 [(.ref sq135)])) rfl (by rw [hml]; rfl) (argsL := [(.ref sq135)]) (rest := []) (lenOf pd0_2 rfl) rfl (by show 2 * 0 + _ ≤ _; exact Nat.le_of_eq rfl) (hb hby at_113) (fun _ _ => ⟨rfl, eq137, (by decide : 4 + 0 ≤ _), (by decide : 16 + 0 ≤ _)⟩)
        dsimp only [Pt.U, Pt.locs, Pt.cells, Pt.slots] at X142 l142 y142 z142 st142 hQ142
        subst l142 y142 z142
        obtain ⟨rfl, Nq142, eq142⟩ := hQ142
        have N142 := Fr.app N137 Nq142
        refine own_t1 (.int (own_sp [cc127, cc129, cc131])) 116 st142 ?_
        refine own_tp (.int (0 : Int32)) 118 (fun _ q => XS.iload X142.here hx rfl (hb hby at_116) rfl q) ?_
        by_cases c143 : (own_sp [cc127, cc129, cc131]) = (0 : Int32)
        ·
          refine own_d2 121 (fun _ q => XS.icmpNo X142.here hx rfl (hb hby at_118) rfl (teq c143).2 q) ?_
          refine own_tp (.int (1 : Int32)) 122 (fun _ q => XS.iconst X142.here hx rfl (hb hby at_121) q) ?_
          refine own_d0 126 (fun _ q => XS.goto X142.here hx rfl (pc0 := 122) (pc' := 126) rfl (hb hby at_122) (by decide) (by decide) q) ?_
          exact own_retNW (t := .boolean) X142 hx hrt (hb hby at_126) (by simp) hlk (by decide) (by decide) eq142 Wd135 (⟨rfl, N142⟩)
        ·
          refine own_d2 125 (fun _ q => XS.icmpYes X142.here hx rfl (pc0 := 118) (pc' := 125) rfl (hb hby at_118) rfl (feq c143).2 (by decide) (by decide) q) ?_
          refine own_tp (.int (0 : Int32)) 126 (fun _ q => XS.iconst X142.here hx rfl (hb hby at_125) q) ?_
          exact absurd (own_sp0 (c := cc127) (by simp) c138) c143
    ·
      refine own_d1 62 (fun _ q => XS.ifNo X137.here hx rfl (hb hby at_59) rfl ((if0 _ _).trans (feq c138).1) q) ?_
      refine own_tp (.int (3 : Int32)) 64 (fun _ q => XS.iload X137.here hx rfl (hb hby at_62) rfl q) ?_
      refine own_tp (.int (2 : Int32)) 65 (fun _ q => XS.iconst X137.here hx rfl (hb hby at_64) q) ?_
      refine own_d2 68 (fun _ q => XS.icmpNo X137.here hx rfl (hb hby at_65) rfl (flt (by decide : ¬ ((3 : Int32) < (2 : Int32)))).1 q) ?_
      refine own_tp (.int cc129) 70 (fun _ q => XS.iload X137.here hx rfl (hb hby at_68) rfl q) ?_
      obtain ⟨_, _, ⟨T144, L144, k144, n144⟩, -, X144, ⟨Lc144, hQ144, l144, y144, z144⟩, st144⟩ := Jvm.LawKit.callS X137 hx (y := (⟨"com/example/leastwise/leastwise/provisioning/WordLinesSpacesAlonePinLaw", "allowed", "(C)Z"⟩ : MethodName)) hown (mvT hZ (hw _ (List.mem_of_getElem? (i := 85) rfl))) (mvT hZ (hw _ (List.mem_of_getElem? (i := 86) rfl))) (mvT hZ (hw _ (List.mem_of_getElem? (i := 3) rfl))) (mvT hZ (hw _ (List.mem_of_getElem? (i := 87) rfl))) (by decide) (backOf (W := 0) (rm2 l Z a0 hw [] cc129 T135.heap n0 ) hZ (hw _ (List.mem_of_getElem? (i := 87) rfl)) (hw _ (List.mem_of_getElem? (i := 3) rfl)) (by decide) (by decide)) (g := (mkF m 70 L_136 [(.int cc129)])) rfl (by rw [hml]; rfl) (argsL := [(.int cc129)]) (rest := []) (lenOf pd0_3 rfl) rfl (by show 2 * 0 + _ ≤ _; exact Nat.le_of_eq rfl) (hb hby at_70) (fun _ _ => ⟨rfl, eq137, (by decide : 4 + 0 ≤ _), (by decide : 16 + 0 ≤ _)⟩)
      dsimp only [Pt.U, Pt.locs, Pt.cells, Pt.slots] at X144 l144 y144 z144 st144 hQ144
      subst l144 y144 z144
      obtain ⟨rfl, Nq144, eq144⟩ := hQ144
      have N144 := Fr.app N137 Nq144
      refine own_t1 (.int (own_al cc129)) 73 st144 ?_
      by_cases c145 : (own_al cc129) = (0 : Int32)
      ·
        refine own_d1 108 (fun _ q => XS.ifYes X144.here hx rfl (pc0 := 73) (pc' := 108) rfl (hb hby at_73) rfl ((if0 _ _).trans (teq c145).1) (by decide) (by decide) q) ?_
        refine own_tp (.int (0 : Int32)) 109 (fun _ q => XS.iconst X144.here hx rfl (hb hby at_108) q) ?_
        let L_146 : Array Slot := #[.val (.int p0), .val (.int p1), .val (.int p2), .val (.int p3), .val (.int p4), .val (.int (3 : Int32)), .val (.int cc127), .val (.int cc129), .val (.int cc131), .val (.int cc133), .val (.ref sq135), .val (.int (0 : Int32))]
        refine own_ls L_146 111 (fun _ q => XS.istore X144.here hx rfl (hb hby at_109) rfl (l' := L_146) rfl q) ?_
        refine own_tp (.ref sq135) 113 (fun _ q => XS.aload X144.here hx rfl (hb hby at_111) rfl rfl q) ?_
        obtain ⟨tq, kq, cdq, Nnq, vsq, Eq_, Lq, Cq, Vq, Coq⟩ := SS135
        rcases Coq with ⟨rfl, rfl, rfl, hcsq⟩ | ⟨rfl, rfl, rfl, hxq⟩
        ·
          obtain ⟨_, _, ⟨T147, L147, k147, n147⟩, -, X147, ⟨Lc147, hQ147, l147, y147, z147⟩, st147⟩ := Jvm.LawKit.callS X144 hx (y := (⟨"com/example/leastwise/leastwise/provisioning/WordLines", "spacesAlone", "(Ljava/lang/String;)Z"⟩ : MethodName)) hown (mvT hZ (hw _ (List.mem_of_getElem? (i := 31) rfl))) (mvT hZ (hw _ (List.mem_of_getElem? (i := 32) rfl))) (mvT hZ (hw _ (List.mem_of_getElem? (i := 33) rfl))) (mvT hZ (hw _ (List.mem_of_getElem? (i := 34) rfl))) (by decide) (backOf (W := 0) (rm3 l Z a0 hw [] sq135 tq kq [cc127, cc129, cc131] T135.heap n0 (by simp) (own_chs3 hc127 hc129 hc131) G1 US O135 G3 rG3 Sf Eq_ Cq Lq hcsq Vq) hZ (hw _ (List.mem_of_getElem? (i := 34) rfl)) (hw _ (List.mem_of_getElem? (i := 33) rfl)) (by decide) (by decide)) (g := (mkF m 113 L_146 [(.ref sq135)])) rfl (by rw [hml]; rfl) (argsL := [(.ref sq135)]) (rest := []) (lenOf pd0_2 rfl) rfl (by show 2 * 0 + _ ≤ _; exact Nat.le_of_eq rfl) (hb hby at_113) (fun _ _ => ⟨rfl, eq144, (by decide : 4 + 0 ≤ _), (by decide : 16 + 0 ≤ _)⟩)
          dsimp only [Pt.U, Pt.locs, Pt.cells, Pt.slots] at X147 l147 y147 z147 st147 hQ147
          subst l147 y147 z147
          obtain ⟨rfl, Nq147, eq147⟩ := hQ147
          have N147 := Fr.app N144 Nq147
          refine own_t1 (.int (own_sp [cc127, cc129, cc131])) 116 st147 ?_
          refine own_tp (.int (0 : Int32)) 118 (fun _ q => XS.iload X147.here hx rfl (hb hby at_116) rfl q) ?_
          by_cases c148 : (own_sp [cc127, cc129, cc131]) = (0 : Int32)
          ·
            refine own_d2 121 (fun _ q => XS.icmpNo X147.here hx rfl (hb hby at_118) rfl (teq c148).2 q) ?_
            refine own_tp (.int (1 : Int32)) 122 (fun _ q => XS.iconst X147.here hx rfl (hb hby at_121) q) ?_
            refine own_d0 126 (fun _ q => XS.goto X147.here hx rfl (pc0 := 122) (pc' := 126) rfl (hb hby at_122) (by decide) (by decide) q) ?_
            exact own_retNW (t := .boolean) X147 hx hrt (hb hby at_126) (by simp) hlk (by decide) (by decide) eq147 Wd135 (⟨rfl, N147⟩)
          ·
            refine own_d2 125 (fun _ q => XS.icmpYes X147.here hx rfl (pc0 := 118) (pc' := 125) rfl (hb hby at_118) rfl (feq c148).2 (by decide) (by decide) q) ?_
            refine own_tp (.int (0 : Int32)) 126 (fun _ q => XS.iconst X147.here hx rfl (hb hby at_125) q) ?_
            exact absurd (own_sp0 (c := cc129) (by simp) c145) c148
        ·
          obtain ⟨_, _, ⟨T149, L149, k149, n149⟩, -, X149, ⟨Lc149, hQ149, l149, y149, z149⟩, st149⟩ := Jvm.LawKit.callS X144 hx (y := (⟨"com/example/leastwise/leastwise/provisioning/WordLines", "spacesAlone", "(Ljava/lang/String;)Z"⟩ : MethodName)) hown (mvT hZ (hw _ (List.mem_of_getElem? (i := 31) rfl))) (mvT hZ (hw _ (List.mem_of_getElem? (i := 32) rfl))) (mvT hZ (hw _ (List.mem_of_getElem? (i := 33) rfl))) (mvT hZ (hw _ (List.mem_of_getElem? (i := 34) rfl))) (by decide) (backOf (W := 0) (rm4 l Z a0 hw [] sq135 tq kq [cc127, cc129, cc131] T135.heap n0 (by simp) (own_chs3 hc127 hc129 hc131) G1 US O135 G3 rG3 Sf Eq_ Cq Lq Vq) hZ (hw _ (List.mem_of_getElem? (i := 34) rfl)) (hw _ (List.mem_of_getElem? (i := 33) rfl)) (by decide) (by decide)) (g := (mkF m 113 L_146 [(.ref sq135)])) rfl (by rw [hml]; rfl) (argsL := [(.ref sq135)]) (rest := []) (lenOf pd0_2 rfl) rfl (by show 2 * 0 + _ ≤ _; exact Nat.le_of_eq rfl) (hb hby at_113) (fun _ _ => ⟨rfl, eq144, (by decide : 4 + 0 ≤ _), (by decide : 16 + 0 ≤ _)⟩)
          dsimp only [Pt.U, Pt.locs, Pt.cells, Pt.slots] at X149 l149 y149 z149 st149 hQ149
          subst l149 y149 z149
          obtain ⟨rfl, Nq149, eq149⟩ := hQ149
          have N149 := Fr.app N144 Nq149
          refine own_t1 (.int (own_sp [cc127, cc129, cc131])) 116 st149 ?_
          refine own_tp (.int (0 : Int32)) 118 (fun _ q => XS.iload X149.here hx rfl (hb hby at_116) rfl q) ?_
          by_cases c150 : (own_sp [cc127, cc129, cc131]) = (0 : Int32)
          ·
            refine own_d2 121 (fun _ q => XS.icmpNo X149.here hx rfl (hb hby at_118) rfl (teq c150).2 q) ?_
            refine own_tp (.int (1 : Int32)) 122 (fun _ q => XS.iconst X149.here hx rfl (hb hby at_121) q) ?_
            refine own_d0 126 (fun _ q => XS.goto X149.here hx rfl (pc0 := 122) (pc' := 126) rfl (hb hby at_122) (by decide) (by decide) q) ?_
            exact own_retNW (t := .boolean) X149 hx hrt (hb hby at_126) (by simp) hlk (by decide) (by decide) eq149 Wd135 (⟨rfl, N149⟩)
          ·
            refine own_d2 125 (fun _ q => XS.icmpYes X149.here hx rfl (pc0 := 118) (pc' := 125) rfl (hb hby at_118) rfl (feq c150).2 (by decide) (by decide) q) ?_
            refine own_tp (.int (0 : Int32)) 126 (fun _ q => XS.iconst X149.here hx rfl (hb hby at_125) q) ?_
            exact absurd (own_sp0 (c := cc129) (by simp) c145) c150
      ·
        refine own_d1 76 (fun _ q => XS.ifNo X144.here hx rfl (hb hby at_73) rfl ((if0 _ _).trans (feq c145).1) q) ?_
        refine own_tp (.int (3 : Int32)) 78 (fun _ q => XS.iload X144.here hx rfl (hb hby at_76) rfl q) ?_
        refine own_tp (.int (3 : Int32)) 79 (fun _ q => XS.iconst X144.here hx rfl (hb hby at_78) q) ?_
        refine own_d2 82 (fun _ q => XS.icmpNo X144.here hx rfl (hb hby at_79) rfl (flt (by decide : ¬ ((3 : Int32) < (3 : Int32)))).1 q) ?_
        refine own_tp (.int cc131) 84 (fun _ q => XS.iload X144.here hx rfl (hb hby at_82) rfl q) ?_
        obtain ⟨_, _, ⟨T151, L151, k151, n151⟩, -, X151, ⟨Lc151, hQ151, l151, y151, z151⟩, st151⟩ := Jvm.LawKit.callS X144 hx (y := (⟨"com/example/leastwise/leastwise/provisioning/WordLinesSpacesAlonePinLaw", "allowed", "(C)Z"⟩ : MethodName)) hown (mvT hZ (hw _ (List.mem_of_getElem? (i := 85) rfl))) (mvT hZ (hw _ (List.mem_of_getElem? (i := 86) rfl))) (mvT hZ (hw _ (List.mem_of_getElem? (i := 3) rfl))) (mvT hZ (hw _ (List.mem_of_getElem? (i := 87) rfl))) (by decide) (backOf (W := 0) (rm2 l Z a0 hw [] cc131 T135.heap n0 ) hZ (hw _ (List.mem_of_getElem? (i := 87) rfl)) (hw _ (List.mem_of_getElem? (i := 3) rfl)) (by decide) (by decide)) (g := (mkF m 84 L_136 [(.int cc131)])) rfl (by rw [hml]; rfl) (argsL := [(.int cc131)]) (rest := []) (lenOf pd0_3 rfl) rfl (by show 2 * 0 + _ ≤ _; exact Nat.le_of_eq rfl) (hb hby at_84) (fun _ _ => ⟨rfl, eq144, (by decide : 4 + 0 ≤ _), (by decide : 16 + 0 ≤ _)⟩)
        dsimp only [Pt.U, Pt.locs, Pt.cells, Pt.slots] at X151 l151 y151 z151 st151 hQ151
        subst l151 y151 z151
        obtain ⟨rfl, Nq151, eq151⟩ := hQ151
        have N151 := Fr.app N144 Nq151
        refine own_t1 (.int (own_al cc131)) 87 st151 ?_
        by_cases c152 : (own_al cc131) = (0 : Int32)
        ·
          refine own_d1 108 (fun _ q => XS.ifYes X151.here hx rfl (pc0 := 87) (pc' := 108) rfl (hb hby at_87) rfl ((if0 _ _).trans (teq c152).1) (by decide) (by decide) q) ?_
          refine own_tp (.int (0 : Int32)) 109 (fun _ q => XS.iconst X151.here hx rfl (hb hby at_108) q) ?_
          let L_153 : Array Slot := #[.val (.int p0), .val (.int p1), .val (.int p2), .val (.int p3), .val (.int p4), .val (.int (3 : Int32)), .val (.int cc127), .val (.int cc129), .val (.int cc131), .val (.int cc133), .val (.ref sq135), .val (.int (0 : Int32))]
          refine own_ls L_153 111 (fun _ q => XS.istore X151.here hx rfl (hb hby at_109) rfl (l' := L_153) rfl q) ?_
          refine own_tp (.ref sq135) 113 (fun _ q => XS.aload X151.here hx rfl (hb hby at_111) rfl rfl q) ?_
          obtain ⟨tq, kq, cdq, Nnq, vsq, Eq_, Lq, Cq, Vq, Coq⟩ := SS135
          rcases Coq with ⟨rfl, rfl, rfl, hcsq⟩ | ⟨rfl, rfl, rfl, hxq⟩
          ·
            obtain ⟨_, _, ⟨T154, L154, k154, n154⟩, -, X154, ⟨Lc154, hQ154, l154, y154, z154⟩, st154⟩ := Jvm.LawKit.callS X151 hx (y := (⟨"com/example/leastwise/leastwise/provisioning/WordLines", "spacesAlone", "(Ljava/lang/String;)Z"⟩ : MethodName)) hown (mvT hZ (hw _ (List.mem_of_getElem? (i := 31) rfl))) (mvT hZ (hw _ (List.mem_of_getElem? (i := 32) rfl))) (mvT hZ (hw _ (List.mem_of_getElem? (i := 33) rfl))) (mvT hZ (hw _ (List.mem_of_getElem? (i := 34) rfl))) (by decide) (backOf (W := 0) (rm3 l Z a0 hw [] sq135 tq kq [cc127, cc129, cc131] T135.heap n0 (by simp) (own_chs3 hc127 hc129 hc131) G1 US O135 G3 rG3 Sf Eq_ Cq Lq hcsq Vq) hZ (hw _ (List.mem_of_getElem? (i := 34) rfl)) (hw _ (List.mem_of_getElem? (i := 33) rfl)) (by decide) (by decide)) (g := (mkF m 113 L_153 [(.ref sq135)])) rfl (by rw [hml]; rfl) (argsL := [(.ref sq135)]) (rest := []) (lenOf pd0_2 rfl) rfl (by show 2 * 0 + _ ≤ _; exact Nat.le_of_eq rfl) (hb hby at_113) (fun _ _ => ⟨rfl, eq151, (by decide : 4 + 0 ≤ _), (by decide : 16 + 0 ≤ _)⟩)
            dsimp only [Pt.U, Pt.locs, Pt.cells, Pt.slots] at X154 l154 y154 z154 st154 hQ154
            subst l154 y154 z154
            obtain ⟨rfl, Nq154, eq154⟩ := hQ154
            have N154 := Fr.app N151 Nq154
            refine own_t1 (.int (own_sp [cc127, cc129, cc131])) 116 st154 ?_
            refine own_tp (.int (0 : Int32)) 118 (fun _ q => XS.iload X154.here hx rfl (hb hby at_116) rfl q) ?_
            by_cases c155 : (own_sp [cc127, cc129, cc131]) = (0 : Int32)
            ·
              refine own_d2 121 (fun _ q => XS.icmpNo X154.here hx rfl (hb hby at_118) rfl (teq c155).2 q) ?_
              refine own_tp (.int (1 : Int32)) 122 (fun _ q => XS.iconst X154.here hx rfl (hb hby at_121) q) ?_
              refine own_d0 126 (fun _ q => XS.goto X154.here hx rfl (pc0 := 122) (pc' := 126) rfl (hb hby at_122) (by decide) (by decide) q) ?_
              exact own_retNW (t := .boolean) X154 hx hrt (hb hby at_126) (by simp) hlk (by decide) (by decide) eq154 Wd135 (⟨rfl, N154⟩)
            ·
              refine own_d2 125 (fun _ q => XS.icmpYes X154.here hx rfl (pc0 := 118) (pc' := 125) rfl (hb hby at_118) rfl (feq c155).2 (by decide) (by decide) q) ?_
              refine own_tp (.int (0 : Int32)) 126 (fun _ q => XS.iconst X154.here hx rfl (hb hby at_125) q) ?_
              exact absurd (own_sp0 (c := cc131) (by simp) c152) c155
          ·
            obtain ⟨_, _, ⟨T156, L156, k156, n156⟩, -, X156, ⟨Lc156, hQ156, l156, y156, z156⟩, st156⟩ := Jvm.LawKit.callS X151 hx (y := (⟨"com/example/leastwise/leastwise/provisioning/WordLines", "spacesAlone", "(Ljava/lang/String;)Z"⟩ : MethodName)) hown (mvT hZ (hw _ (List.mem_of_getElem? (i := 31) rfl))) (mvT hZ (hw _ (List.mem_of_getElem? (i := 32) rfl))) (mvT hZ (hw _ (List.mem_of_getElem? (i := 33) rfl))) (mvT hZ (hw _ (List.mem_of_getElem? (i := 34) rfl))) (by decide) (backOf (W := 0) (rm4 l Z a0 hw [] sq135 tq kq [cc127, cc129, cc131] T135.heap n0 (by simp) (own_chs3 hc127 hc129 hc131) G1 US O135 G3 rG3 Sf Eq_ Cq Lq Vq) hZ (hw _ (List.mem_of_getElem? (i := 34) rfl)) (hw _ (List.mem_of_getElem? (i := 33) rfl)) (by decide) (by decide)) (g := (mkF m 113 L_153 [(.ref sq135)])) rfl (by rw [hml]; rfl) (argsL := [(.ref sq135)]) (rest := []) (lenOf pd0_2 rfl) rfl (by show 2 * 0 + _ ≤ _; exact Nat.le_of_eq rfl) (hb hby at_113) (fun _ _ => ⟨rfl, eq151, (by decide : 4 + 0 ≤ _), (by decide : 16 + 0 ≤ _)⟩)
            dsimp only [Pt.U, Pt.locs, Pt.cells, Pt.slots] at X156 l156 y156 z156 st156 hQ156
            subst l156 y156 z156
            obtain ⟨rfl, Nq156, eq156⟩ := hQ156
            have N156 := Fr.app N151 Nq156
            refine own_t1 (.int (own_sp [cc127, cc129, cc131])) 116 st156 ?_
            refine own_tp (.int (0 : Int32)) 118 (fun _ q => XS.iload X156.here hx rfl (hb hby at_116) rfl q) ?_
            by_cases c157 : (own_sp [cc127, cc129, cc131]) = (0 : Int32)
            ·
              refine own_d2 121 (fun _ q => XS.icmpNo X156.here hx rfl (hb hby at_118) rfl (teq c157).2 q) ?_
              refine own_tp (.int (1 : Int32)) 122 (fun _ q => XS.iconst X156.here hx rfl (hb hby at_121) q) ?_
              refine own_d0 126 (fun _ q => XS.goto X156.here hx rfl (pc0 := 122) (pc' := 126) rfl (hb hby at_122) (by decide) (by decide) q) ?_
              exact own_retNW (t := .boolean) X156 hx hrt (hb hby at_126) (by simp) hlk (by decide) (by decide) eq156 Wd135 (⟨rfl, N156⟩)
            ·
              refine own_d2 125 (fun _ q => XS.icmpYes X156.here hx rfl (pc0 := 118) (pc' := 125) rfl (hb hby at_118) rfl (feq c157).2 (by decide) (by decide) q) ?_
              refine own_tp (.int (0 : Int32)) 126 (fun _ q => XS.iconst X156.here hx rfl (hb hby at_125) q) ?_
              exact absurd (own_sp0 (c := cc131) (by simp) c152) c157
        ·
          refine own_d1 90 (fun _ q => XS.ifNo X151.here hx rfl (hb hby at_87) rfl ((if0 _ _).trans (feq c152).1) q) ?_
          refine own_tp (.int (3 : Int32)) 92 (fun _ q => XS.iload X151.here hx rfl (hb hby at_90) rfl q) ?_
          refine own_tp (.int (4 : Int32)) 93 (fun _ q => XS.iconst X151.here hx rfl (hb hby at_92) q) ?_
          refine own_d2 104 (fun _ q => XS.icmpYes X151.here hx rfl (pc0 := 93) (pc' := 104) rfl (hb hby at_93) rfl (tlt (by decide : (3 : Int32) < (4 : Int32))).1 (by decide) (by decide) q) ?_
          refine own_tp (.int (1 : Int32)) 105 (fun _ q => XS.iconst X151.here hx rfl (hb hby at_104) q) ?_
          refine own_d0 109 (fun _ q => XS.goto X151.here hx rfl (pc0 := 105) (pc' := 109) rfl (hb hby at_105) (by decide) (by decide) q) ?_
          let L_158 : Array Slot := #[.val (.int p0), .val (.int p1), .val (.int p2), .val (.int p3), .val (.int p4), .val (.int (3 : Int32)), .val (.int cc127), .val (.int cc129), .val (.int cc131), .val (.int cc133), .val (.ref sq135), .val (.int (1 : Int32))]
          refine own_ls L_158 111 (fun _ q => XS.istore X151.here hx rfl (hb hby at_109) rfl (l' := L_158) rfl q) ?_
          refine own_tp (.ref sq135) 113 (fun _ q => XS.aload X151.here hx rfl (hb hby at_111) rfl rfl q) ?_
          obtain ⟨tq, kq, cdq, Nnq, vsq, Eq_, Lq, Cq, Vq, Coq⟩ := SS135
          rcases Coq with ⟨rfl, rfl, rfl, hcsq⟩ | ⟨rfl, rfl, rfl, hxq⟩
          ·
            obtain ⟨_, _, ⟨T159, L159, k159, n159⟩, -, X159, ⟨Lc159, hQ159, l159, y159, z159⟩, st159⟩ := Jvm.LawKit.callS X151 hx (y := (⟨"com/example/leastwise/leastwise/provisioning/WordLines", "spacesAlone", "(Ljava/lang/String;)Z"⟩ : MethodName)) hown (mvT hZ (hw _ (List.mem_of_getElem? (i := 31) rfl))) (mvT hZ (hw _ (List.mem_of_getElem? (i := 32) rfl))) (mvT hZ (hw _ (List.mem_of_getElem? (i := 33) rfl))) (mvT hZ (hw _ (List.mem_of_getElem? (i := 34) rfl))) (by decide) (backOf (W := 0) (rm3 l Z a0 hw [] sq135 tq kq [cc127, cc129, cc131] T135.heap n0 (by simp) (own_chs3 hc127 hc129 hc131) G1 US O135 G3 rG3 Sf Eq_ Cq Lq hcsq Vq) hZ (hw _ (List.mem_of_getElem? (i := 34) rfl)) (hw _ (List.mem_of_getElem? (i := 33) rfl)) (by decide) (by decide)) (g := (mkF m 113 L_158 [(.ref sq135)])) rfl (by rw [hml]; rfl) (argsL := [(.ref sq135)]) (rest := []) (lenOf pd0_2 rfl) rfl (by show 2 * 0 + _ ≤ _; exact Nat.le_of_eq rfl) (hb hby at_113) (fun _ _ => ⟨rfl, eq151, (by decide : 4 + 0 ≤ _), (by decide : 16 + 0 ≤ _)⟩)
            dsimp only [Pt.U, Pt.locs, Pt.cells, Pt.slots] at X159 l159 y159 z159 st159 hQ159
            subst l159 y159 z159
            obtain ⟨rfl, Nq159, eq159⟩ := hQ159
            have N159 := Fr.app N151 Nq159
            refine own_t1 (.int (own_sp [cc127, cc129, cc131])) 116 st159 ?_
            refine own_tp (.int (1 : Int32)) 118 (fun _ q => XS.iload X159.here hx rfl (hb hby at_116) rfl q) ?_
            by_cases c160 : (own_sp [cc127, cc129, cc131]) = (1 : Int32)
            ·
              refine own_d2 121 (fun _ q => XS.icmpNo X159.here hx rfl (hb hby at_118) rfl (teq c160).2 q) ?_
              refine own_tp (.int (1 : Int32)) 122 (fun _ q => XS.iconst X159.here hx rfl (hb hby at_121) q) ?_
              refine own_d0 126 (fun _ q => XS.goto X159.here hx rfl (pc0 := 122) (pc' := 126) rfl (hb hby at_122) (by decide) (by decide) q) ?_
              exact own_retNW (t := .boolean) X159 hx hrt (hb hby at_126) (by simp) hlk (by decide) (by decide) eq159 Wd135 (⟨rfl, N159⟩)
            ·
              refine own_d2 125 (fun _ q => XS.icmpYes X159.here hx rfl (pc0 := 118) (pc' := 125) rfl (hb hby at_118) rfl (feq c160).2 (by decide) (by decide) q) ?_
              refine own_tp (.int (0 : Int32)) 126 (fun _ q => XS.iconst X159.here hx rfl (hb hby at_125) q) ?_
              exact absurd (own_sp1 (by simp [c138, c145, c152])) c160
          ·
            obtain ⟨_, _, ⟨T161, L161, k161, n161⟩, -, X161, ⟨Lc161, hQ161, l161, y161, z161⟩, st161⟩ := Jvm.LawKit.callS X151 hx (y := (⟨"com/example/leastwise/leastwise/provisioning/WordLines", "spacesAlone", "(Ljava/lang/String;)Z"⟩ : MethodName)) hown (mvT hZ (hw _ (List.mem_of_getElem? (i := 31) rfl))) (mvT hZ (hw _ (List.mem_of_getElem? (i := 32) rfl))) (mvT hZ (hw _ (List.mem_of_getElem? (i := 33) rfl))) (mvT hZ (hw _ (List.mem_of_getElem? (i := 34) rfl))) (by decide) (backOf (W := 0) (rm4 l Z a0 hw [] sq135 tq kq [cc127, cc129, cc131] T135.heap n0 (by simp) (own_chs3 hc127 hc129 hc131) G1 US O135 G3 rG3 Sf Eq_ Cq Lq Vq) hZ (hw _ (List.mem_of_getElem? (i := 34) rfl)) (hw _ (List.mem_of_getElem? (i := 33) rfl)) (by decide) (by decide)) (g := (mkF m 113 L_158 [(.ref sq135)])) rfl (by rw [hml]; rfl) (argsL := [(.ref sq135)]) (rest := []) (lenOf pd0_2 rfl) rfl (by show 2 * 0 + _ ≤ _; exact Nat.le_of_eq rfl) (hb hby at_113) (fun _ _ => ⟨rfl, eq151, (by decide : 4 + 0 ≤ _), (by decide : 16 + 0 ≤ _)⟩)
            dsimp only [Pt.U, Pt.locs, Pt.cells, Pt.slots] at X161 l161 y161 z161 st161 hQ161
            subst l161 y161 z161
            obtain ⟨rfl, Nq161, eq161⟩ := hQ161
            have N161 := Fr.app N151 Nq161
            refine own_t1 (.int (own_sp [cc127, cc129, cc131])) 116 st161 ?_
            refine own_tp (.int (1 : Int32)) 118 (fun _ q => XS.iload X161.here hx rfl (hb hby at_116) rfl q) ?_
            by_cases c162 : (own_sp [cc127, cc129, cc131]) = (1 : Int32)
            ·
              refine own_d2 121 (fun _ q => XS.icmpNo X161.here hx rfl (hb hby at_118) rfl (teq c162).2 q) ?_
              refine own_tp (.int (1 : Int32)) 122 (fun _ q => XS.iconst X161.here hx rfl (hb hby at_121) q) ?_
              refine own_d0 126 (fun _ q => XS.goto X161.here hx rfl (pc0 := 122) (pc' := 126) rfl (hb hby at_122) (by decide) (by decide) q) ?_
              exact own_retNW (t := .boolean) X161 hx hrt (hb hby at_126) (by simp) hlk (by decide) (by decide) eq161 Wd135 (⟨rfl, N161⟩)
            ·
              refine own_d2 125 (fun _ q => XS.icmpYes X161.here hx rfl (pc0 := 118) (pc' := 125) rfl (hb hby at_118) rfl (feq c162).2 (by decide) (by decide) q) ?_
              refine own_tp (.int (0 : Int32)) 126 (fun _ q => XS.iconst X161.here hx rfl (hb hby at_125) q) ?_
              exact absurd (own_sp1 (by simp [c138, c145, c152])) c162
  ·
    rw [hk56]
    let L_163 : Array Slot := #[.val (.int p0), .val (.int p1), .val (.int p2), .val (.int p3), .val (.int p4), .val (.int (4 : Int32)), .unset, .unset, .unset, .unset, .unset, .unset]
    refine own_ls L_163 8 (fun _ q => XS.istore X0.here hx rfl (hb hby at_6) rfl (l' := L_163) rfl q) ?_
    refine own_tp (.int p1) 9 (fun _ q => XS.iloadN X0.here hx rfl (hb hby at_8) rfl q) ?_
    obtain ⟨_, _, ⟨T164, L164, k164, n164⟩, -, X164, ⟨Lc164, hQ164, l164, y164, z164⟩, st164⟩ := Jvm.LawKit.callS X0 hx (y := (⟨"com/example/leastwise/leastwise/provisioning/WordLinesSpacesAlonePinLaw", "draw", "(I)C"⟩ : MethodName)) hown (mvT hZ (hw _ (List.mem_of_getElem? (i := 1) rfl))) (mvT hZ (hw _ (List.mem_of_getElem? (i := 2) rfl))) (mvT hZ (hw _ (List.mem_of_getElem? (i := 3) rfl))) (mvT hZ (hw _ (List.mem_of_getElem? (i := 4) rfl))) (by decide) (backOf (W := 0) (rm1 l Z a0 hw [] p1 h0 n0) hZ (hw _ (List.mem_of_getElem? (i := 4) rfl)) (hw _ (List.mem_of_getElem? (i := 3) rfl)) (by decide) (by decide)) (g := (mkF m 9 L_163 [(.int p1)])) rfl (by rw [hml]; rfl) (argsL := [(.int p1)]) (rest := []) (lenOf pd0_0 rfl) rfl (by show 2 * 0 + _ ≤ _; exact Nat.le_of_eq rfl) (hb hby at_9) (fun _ _ => ⟨rfl, e0, (by decide : 0 + 0 ≤ _), (by decide : 0 + 0 ≤ _)⟩)
    dsimp only [Pt.U, Pt.locs, Pt.cells, Pt.slots] at X164 l164 y164 z164 st164 hQ164
    subst l164 y164 z164
    obtain ⟨cc164, rfl, hc164, Nq164, eq164⟩ := hQ164
    have N164 := Fr.app N0 Nq164
    refine own_t1 (.int cc164) 12 st164 ?_
    let L_165 : Array Slot := #[.val (.int p0), .val (.int p1), .val (.int p2), .val (.int p3), .val (.int p4), .val (.int (4 : Int32)), .val (.int cc164), .unset, .unset, .unset, .unset, .unset]
    refine own_ls L_165 14 (fun _ q => XS.istore X164.here hx rfl (hb hby at_12) rfl (l' := L_165) rfl q) ?_
    refine own_tp (.int p2) 15 (fun _ q => XS.iloadN X164.here hx rfl (hb hby at_14) rfl q) ?_
    obtain ⟨_, _, ⟨T166, L166, k166, n166⟩, -, X166, ⟨Lc166, hQ166, l166, y166, z166⟩, st166⟩ := Jvm.LawKit.callS X164 hx (y := (⟨"com/example/leastwise/leastwise/provisioning/WordLinesSpacesAlonePinLaw", "draw", "(I)C"⟩ : MethodName)) hown (mvT hZ (hw _ (List.mem_of_getElem? (i := 1) rfl))) (mvT hZ (hw _ (List.mem_of_getElem? (i := 2) rfl))) (mvT hZ (hw _ (List.mem_of_getElem? (i := 3) rfl))) (mvT hZ (hw _ (List.mem_of_getElem? (i := 4) rfl))) (by decide) (backOf (W := 0) (rm1 l Z a0 hw [] p2 h0 n0) hZ (hw _ (List.mem_of_getElem? (i := 4) rfl)) (hw _ (List.mem_of_getElem? (i := 3) rfl)) (by decide) (by decide)) (g := (mkF m 15 L_165 [(.int p2)])) rfl (by rw [hml]; rfl) (argsL := [(.int p2)]) (rest := []) (lenOf pd0_0 rfl) rfl (by show 2 * 0 + _ ≤ _; exact Nat.le_of_eq rfl) (hb hby at_15) (fun _ _ => ⟨rfl, eq164, (by decide : 0 + 0 ≤ _), (by decide : 0 + 0 ≤ _)⟩)
    dsimp only [Pt.U, Pt.locs, Pt.cells, Pt.slots] at X166 l166 y166 z166 st166 hQ166
    subst l166 y166 z166
    obtain ⟨cc166, rfl, hc166, Nq166, eq166⟩ := hQ166
    have N166 := Fr.app N164 Nq166
    refine own_t1 (.int cc166) 18 st166 ?_
    let L_167 : Array Slot := #[.val (.int p0), .val (.int p1), .val (.int p2), .val (.int p3), .val (.int p4), .val (.int (4 : Int32)), .val (.int cc164), .val (.int cc166), .unset, .unset, .unset, .unset]
    refine own_ls L_167 20 (fun _ q => XS.istore X166.here hx rfl (hb hby at_18) rfl (l' := L_167) rfl q) ?_
    refine own_tp (.int p3) 21 (fun _ q => XS.iloadN X166.here hx rfl (hb hby at_20) rfl q) ?_
    obtain ⟨_, _, ⟨T168, L168, k168, n168⟩, -, X168, ⟨Lc168, hQ168, l168, y168, z168⟩, st168⟩ := Jvm.LawKit.callS X166 hx (y := (⟨"com/example/leastwise/leastwise/provisioning/WordLinesSpacesAlonePinLaw", "draw", "(I)C"⟩ : MethodName)) hown (mvT hZ (hw _ (List.mem_of_getElem? (i := 1) rfl))) (mvT hZ (hw _ (List.mem_of_getElem? (i := 2) rfl))) (mvT hZ (hw _ (List.mem_of_getElem? (i := 3) rfl))) (mvT hZ (hw _ (List.mem_of_getElem? (i := 4) rfl))) (by decide) (backOf (W := 0) (rm1 l Z a0 hw [] p3 h0 n0) hZ (hw _ (List.mem_of_getElem? (i := 4) rfl)) (hw _ (List.mem_of_getElem? (i := 3) rfl)) (by decide) (by decide)) (g := (mkF m 21 L_167 [(.int p3)])) rfl (by rw [hml]; rfl) (argsL := [(.int p3)]) (rest := []) (lenOf pd0_0 rfl) rfl (by show 2 * 0 + _ ≤ _; exact Nat.le_of_eq rfl) (hb hby at_21) (fun _ _ => ⟨rfl, eq166, (by decide : 0 + 0 ≤ _), (by decide : 0 + 0 ≤ _)⟩)
    dsimp only [Pt.U, Pt.locs, Pt.cells, Pt.slots] at X168 l168 y168 z168 st168 hQ168
    subst l168 y168 z168
    obtain ⟨cc168, rfl, hc168, Nq168, eq168⟩ := hQ168
    have N168 := Fr.app N166 Nq168
    refine own_t1 (.int cc168) 24 st168 ?_
    let L_169 : Array Slot := #[.val (.int p0), .val (.int p1), .val (.int p2), .val (.int p3), .val (.int p4), .val (.int (4 : Int32)), .val (.int cc164), .val (.int cc166), .val (.int cc168), .unset, .unset, .unset]
    refine own_ls L_169 26 (fun _ q => XS.istore X168.here hx rfl (hb hby at_24) rfl (l' := L_169) rfl q) ?_
    refine own_tp (.int p4) 28 (fun _ q => XS.iload X168.here hx rfl (hb hby at_26) rfl q) ?_
    obtain ⟨_, _, ⟨T170, L170, k170, n170⟩, -, X170, ⟨Lc170, hQ170, l170, y170, z170⟩, st170⟩ := Jvm.LawKit.callS X168 hx (y := (⟨"com/example/leastwise/leastwise/provisioning/WordLinesSpacesAlonePinLaw", "draw", "(I)C"⟩ : MethodName)) hown (mvT hZ (hw _ (List.mem_of_getElem? (i := 1) rfl))) (mvT hZ (hw _ (List.mem_of_getElem? (i := 2) rfl))) (mvT hZ (hw _ (List.mem_of_getElem? (i := 3) rfl))) (mvT hZ (hw _ (List.mem_of_getElem? (i := 4) rfl))) (by decide) (backOf (W := 0) (rm1 l Z a0 hw [] p4 h0 n0) hZ (hw _ (List.mem_of_getElem? (i := 4) rfl)) (hw _ (List.mem_of_getElem? (i := 3) rfl)) (by decide) (by decide)) (g := (mkF m 28 L_169 [(.int p4)])) rfl (by rw [hml]; rfl) (argsL := [(.int p4)]) (rest := []) (lenOf pd0_0 rfl) rfl (by show 2 * 0 + _ ≤ _; exact Nat.le_of_eq rfl) (hb hby at_28) (fun _ _ => ⟨rfl, eq168, (by decide : 0 + 0 ≤ _), (by decide : 0 + 0 ≤ _)⟩)
    dsimp only [Pt.U, Pt.locs, Pt.cells, Pt.slots] at X170 l170 y170 z170 st170 hQ170
    subst l170 y170 z170
    obtain ⟨cc170, rfl, hc170, Nq170, eq170⟩ := hQ170
    have N170 := Fr.app N168 Nq170
    refine own_t1 (.int cc170) 31 st170 ?_
    let L_171 : Array Slot := #[.val (.int p0), .val (.int p1), .val (.int p2), .val (.int p3), .val (.int p4), .val (.int (4 : Int32)), .val (.int cc164), .val (.int cc166), .val (.int cc168), .val (.int cc170), .unset, .unset]
    refine own_ls L_171 33 (fun _ q => XS.istore X170.here hx rfl (hb hby at_31) rfl (l' := L_171) rfl q) ?_
    refine own_tp (.int (4 : Int32)) 35 (fun _ q => XS.iload X170.here hx rfl (hb hby at_33) rfl q) ?_
    refine own_tp (.int cc164) 37 (fun _ q => XS.iload X170.here hx rfl (hb hby at_35) rfl q) ?_
    refine own_tp (.int cc166) 39 (fun _ q => XS.iload X170.here hx rfl (hb hby at_37) rfl q) ?_
    refine own_tp (.int cc168) 41 (fun _ q => XS.iload X170.here hx rfl (hb hby at_39) rfl q) ?_
    refine own_tp (.int cc170) 43 (fun _ q => XS.iload X170.here hx rfl (hb hby at_41) rfl q) ?_
    obtain ⟨_, _, ⟨T172, L172, k172, n172⟩, -, X172, ⟨Lc172, hQ172, l172, y172, z172⟩, st172⟩ := Jvm.LawKit.callS X170 hx (y := (⟨"com/example/leastwise/leastwise/provisioning/WordLinesSpacesAlonePinLaw", "make", "(ICCCC)Ljava/lang/String;"⟩ : MethodName)) hown (mvT hZ (hw _ (List.mem_of_getElem? (i := 6) rfl))) (mvT hZ (hw _ (List.mem_of_getElem? (i := 7) rfl))) (mvT hZ (hw _ (List.mem_of_getElem? (i := 3) rfl))) (mvT hZ (hw _ (List.mem_of_getElem? (i := 8) rfl))) (by decide) (backOf (W := 0) (rm11 l Z a0 hw [] cc164 cc166 cc168 cc170 h0 n0 Z0 hc164 hc166 hc168 hc170 G1 US O0) hZ (hw _ (List.mem_of_getElem? (i := 8) rfl)) (hw _ (List.mem_of_getElem? (i := 3) rfl)) (by decide) (by decide)) (g := (mkF m 43 L_171 [(.int cc170), (.int cc168), (.int cc166), (.int cc164), (.int (4 : Int32))])) rfl (by rw [hml]; rfl) (argsL := [(.int (4 : Int32)), (.int cc164), (.int cc166), (.int cc168), (.int cc170)]) (rest := []) (lenOf pd0_1 rfl) rfl (by show 2 * 0 + _ ≤ _; exact Nat.le_of_eq rfl) (hb hby at_43) (fun _ _ => ⟨rfl, eq170, (by decide : 0 + 4 ≤ _), (by decide : 0 + 20 ≤ _)⟩)
    dsimp only [Pt.U, Pt.locs, Pt.cells, Pt.slots] at X172 l172 y172 z172 st172 hQ172
    subst l172 y172 z172
    obtain ⟨sq172, rfl, Nq172, Kp172, ge172, sz172, SS172⟩ := hQ172
    have N172 := Fr.app N170 Nq172
    have O172 := Old.keep O0 Kp172 all0
    have Z172 : n0 ≤ T172.heap.size := Nat.le_trans Z0 Kp172.1
    have Wd172 := Wd0.keep Kp172 all0
    refine own_cs [(.ref sq172)] 46 st172 ?_
    let L_173 : Array Slot := #[.val (.int p0), .val (.int p1), .val (.int p2), .val (.int p3), .val (.int p4), .val (.int (4 : Int32)), .val (.int cc164), .val (.int cc166), .val (.int cc168), .val (.int cc170), .val (.ref sq172), .unset]
    refine own_ls L_173 48 (fun _ q => XS.astore X172.here hx rfl (hb hby at_46) rfl rfl (l' := L_173) rfl q) ?_
    refine own_tp (.int (4 : Int32)) 50 (fun _ q => XS.iload X172.here hx rfl (hb hby at_48) rfl q) ?_
    refine own_tp (.int (1 : Int32)) 51 (fun _ q => XS.iconst X172.here hx rfl (hb hby at_50) q) ?_
    refine own_d2 54 (fun _ q => XS.icmpNo X172.here hx rfl (hb hby at_51) rfl (flt (by decide : ¬ ((4 : Int32) < (1 : Int32)))).1 q) ?_
    refine own_tp (.int cc164) 56 (fun _ q => XS.iload X172.here hx rfl (hb hby at_54) rfl q) ?_
    obtain ⟨_, _, ⟨T174, L174, k174, n174⟩, -, X174, ⟨Lc174, hQ174, l174, y174, z174⟩, st174⟩ := Jvm.LawKit.callS X172 hx (y := (⟨"com/example/leastwise/leastwise/provisioning/WordLinesSpacesAlonePinLaw", "allowed", "(C)Z"⟩ : MethodName)) hown (mvT hZ (hw _ (List.mem_of_getElem? (i := 85) rfl))) (mvT hZ (hw _ (List.mem_of_getElem? (i := 86) rfl))) (mvT hZ (hw _ (List.mem_of_getElem? (i := 3) rfl))) (mvT hZ (hw _ (List.mem_of_getElem? (i := 87) rfl))) (by decide) (backOf (W := 0) (rm2 l Z a0 hw [] cc164 T172.heap n0 ) hZ (hw _ (List.mem_of_getElem? (i := 87) rfl)) (hw _ (List.mem_of_getElem? (i := 3) rfl)) (by decide) (by decide)) (g := (mkF m 56 L_173 [(.int cc164)])) rfl (by rw [hml]; rfl) (argsL := [(.int cc164)]) (rest := []) (lenOf pd0_3 rfl) rfl (by show 2 * 0 + _ ≤ _; exact Nat.le_of_eq rfl) (hb hby at_56) (fun _ _ => ⟨rfl, rfl, (by decide : 4 + 0 ≤ _), (by decide : 20 + 0 ≤ _)⟩)
    dsimp only [Pt.U, Pt.locs, Pt.cells, Pt.slots] at X174 l174 y174 z174 st174 hQ174
    subst l174 y174 z174
    obtain ⟨rfl, Nq174, eq174⟩ := hQ174
    have N174 := Fr.app N172 Nq174
    refine own_t1 (.int (own_al cc164)) 59 st174 ?_
    by_cases c175 : (own_al cc164) = (0 : Int32)
    ·
      refine own_d1 108 (fun _ q => XS.ifYes X174.here hx rfl (pc0 := 59) (pc' := 108) rfl (hb hby at_59) rfl ((if0 _ _).trans (teq c175).1) (by decide) (by decide) q) ?_
      refine own_tp (.int (0 : Int32)) 109 (fun _ q => XS.iconst X174.here hx rfl (hb hby at_108) q) ?_
      let L_176 : Array Slot := #[.val (.int p0), .val (.int p1), .val (.int p2), .val (.int p3), .val (.int p4), .val (.int (4 : Int32)), .val (.int cc164), .val (.int cc166), .val (.int cc168), .val (.int cc170), .val (.ref sq172), .val (.int (0 : Int32))]
      refine own_ls L_176 111 (fun _ q => XS.istore X174.here hx rfl (hb hby at_109) rfl (l' := L_176) rfl q) ?_
      refine own_tp (.ref sq172) 113 (fun _ q => XS.aload X174.here hx rfl (hb hby at_111) rfl rfl q) ?_
      obtain ⟨tq, kq, cdq, Nnq, vsq, Eq_, Lq, Cq, Vq, Coq⟩ := SS172
      rcases Coq with ⟨rfl, rfl, rfl, hcsq⟩ | ⟨rfl, rfl, rfl, hxq⟩
      ·
        obtain ⟨_, _, ⟨T177, L177, k177, n177⟩, -, X177, ⟨Lc177, hQ177, l177, y177, z177⟩, st177⟩ := Jvm.LawKit.callS X174 hx (y := (⟨"com/example/leastwise/leastwise/provisioning/WordLines", "spacesAlone", "(Ljava/lang/String;)Z"⟩ : MethodName)) hown (mvT hZ (hw _ (List.mem_of_getElem? (i := 31) rfl))) (mvT hZ (hw _ (List.mem_of_getElem? (i := 32) rfl))) (mvT hZ (hw _ (List.mem_of_getElem? (i := 33) rfl))) (mvT hZ (hw _ (List.mem_of_getElem? (i := 34) rfl))) (by decide) (backOf (W := 0) (rm3 l Z a0 hw [] sq172 tq kq [cc164, cc166, cc168, cc170] T172.heap n0 (by simp) (own_chs4 hc164 hc166 hc168 hc170) G1 US O172 G3 rG3 Sf Eq_ Cq Lq hcsq Vq) hZ (hw _ (List.mem_of_getElem? (i := 34) rfl)) (hw _ (List.mem_of_getElem? (i := 33) rfl)) (by decide) (by decide)) (g := (mkF m 113 L_176 [(.ref sq172)])) rfl (by rw [hml]; rfl) (argsL := [(.ref sq172)]) (rest := []) (lenOf pd0_2 rfl) rfl (by show 2 * 0 + _ ≤ _; exact Nat.le_of_eq rfl) (hb hby at_113) (fun _ _ => ⟨rfl, eq174, (by decide : 4 + 0 ≤ _), (by decide : 20 + 0 ≤ _)⟩)
        dsimp only [Pt.U, Pt.locs, Pt.cells, Pt.slots] at X177 l177 y177 z177 st177 hQ177
        subst l177 y177 z177
        obtain ⟨rfl, Nq177, eq177⟩ := hQ177
        have N177 := Fr.app N174 Nq177
        refine own_t1 (.int (own_sp [cc164, cc166, cc168, cc170])) 116 st177 ?_
        refine own_tp (.int (0 : Int32)) 118 (fun _ q => XS.iload X177.here hx rfl (hb hby at_116) rfl q) ?_
        by_cases c178 : (own_sp [cc164, cc166, cc168, cc170]) = (0 : Int32)
        ·
          refine own_d2 121 (fun _ q => XS.icmpNo X177.here hx rfl (hb hby at_118) rfl (teq c178).2 q) ?_
          refine own_tp (.int (1 : Int32)) 122 (fun _ q => XS.iconst X177.here hx rfl (hb hby at_121) q) ?_
          refine own_d0 126 (fun _ q => XS.goto X177.here hx rfl (pc0 := 122) (pc' := 126) rfl (hb hby at_122) (by decide) (by decide) q) ?_
          exact own_retNW (t := .boolean) X177 hx hrt (hb hby at_126) (by simp) hlk (by decide) (by decide) eq177 Wd172 (⟨rfl, N177⟩)
        ·
          refine own_d2 125 (fun _ q => XS.icmpYes X177.here hx rfl (pc0 := 118) (pc' := 125) rfl (hb hby at_118) rfl (feq c178).2 (by decide) (by decide) q) ?_
          refine own_tp (.int (0 : Int32)) 126 (fun _ q => XS.iconst X177.here hx rfl (hb hby at_125) q) ?_
          exact absurd (own_sp0 (c := cc164) (by simp) c175) c178
      ·
        obtain ⟨_, _, ⟨T179, L179, k179, n179⟩, -, X179, ⟨Lc179, hQ179, l179, y179, z179⟩, st179⟩ := Jvm.LawKit.callS X174 hx (y := (⟨"com/example/leastwise/leastwise/provisioning/WordLines", "spacesAlone", "(Ljava/lang/String;)Z"⟩ : MethodName)) hown (mvT hZ (hw _ (List.mem_of_getElem? (i := 31) rfl))) (mvT hZ (hw _ (List.mem_of_getElem? (i := 32) rfl))) (mvT hZ (hw _ (List.mem_of_getElem? (i := 33) rfl))) (mvT hZ (hw _ (List.mem_of_getElem? (i := 34) rfl))) (by decide) (backOf (W := 0) (rm4 l Z a0 hw [] sq172 tq kq [cc164, cc166, cc168, cc170] T172.heap n0 (by simp) (own_chs4 hc164 hc166 hc168 hc170) G1 US O172 G3 rG3 Sf Eq_ Cq Lq Vq) hZ (hw _ (List.mem_of_getElem? (i := 34) rfl)) (hw _ (List.mem_of_getElem? (i := 33) rfl)) (by decide) (by decide)) (g := (mkF m 113 L_176 [(.ref sq172)])) rfl (by rw [hml]; rfl) (argsL := [(.ref sq172)]) (rest := []) (lenOf pd0_2 rfl) rfl (by show 2 * 0 + _ ≤ _; exact Nat.le_of_eq rfl) (hb hby at_113) (fun _ _ => ⟨rfl, eq174, (by decide : 4 + 0 ≤ _), (by decide : 20 + 0 ≤ _)⟩)
        dsimp only [Pt.U, Pt.locs, Pt.cells, Pt.slots] at X179 l179 y179 z179 st179 hQ179
        subst l179 y179 z179
        obtain ⟨rfl, Nq179, eq179⟩ := hQ179
        have N179 := Fr.app N174 Nq179
        refine own_t1 (.int (own_sp [cc164, cc166, cc168, cc170])) 116 st179 ?_
        refine own_tp (.int (0 : Int32)) 118 (fun _ q => XS.iload X179.here hx rfl (hb hby at_116) rfl q) ?_
        by_cases c180 : (own_sp [cc164, cc166, cc168, cc170]) = (0 : Int32)
        ·
          refine own_d2 121 (fun _ q => XS.icmpNo X179.here hx rfl (hb hby at_118) rfl (teq c180).2 q) ?_
          refine own_tp (.int (1 : Int32)) 122 (fun _ q => XS.iconst X179.here hx rfl (hb hby at_121) q) ?_
          refine own_d0 126 (fun _ q => XS.goto X179.here hx rfl (pc0 := 122) (pc' := 126) rfl (hb hby at_122) (by decide) (by decide) q) ?_
          exact own_retNW (t := .boolean) X179 hx hrt (hb hby at_126) (by simp) hlk (by decide) (by decide) eq179 Wd172 (⟨rfl, N179⟩)
        ·
          refine own_d2 125 (fun _ q => XS.icmpYes X179.here hx rfl (pc0 := 118) (pc' := 125) rfl (hb hby at_118) rfl (feq c180).2 (by decide) (by decide) q) ?_
          refine own_tp (.int (0 : Int32)) 126 (fun _ q => XS.iconst X179.here hx rfl (hb hby at_125) q) ?_
          exact absurd (own_sp0 (c := cc164) (by simp) c175) c180
    ·
      refine own_d1 62 (fun _ q => XS.ifNo X174.here hx rfl (hb hby at_59) rfl ((if0 _ _).trans (feq c175).1) q) ?_
      refine own_tp (.int (4 : Int32)) 64 (fun _ q => XS.iload X174.here hx rfl (hb hby at_62) rfl q) ?_
      refine own_tp (.int (2 : Int32)) 65 (fun _ q => XS.iconst X174.here hx rfl (hb hby at_64) q) ?_
      refine own_d2 68 (fun _ q => XS.icmpNo X174.here hx rfl (hb hby at_65) rfl (flt (by decide : ¬ ((4 : Int32) < (2 : Int32)))).1 q) ?_
      refine own_tp (.int cc166) 70 (fun _ q => XS.iload X174.here hx rfl (hb hby at_68) rfl q) ?_
      obtain ⟨_, _, ⟨T181, L181, k181, n181⟩, -, X181, ⟨Lc181, hQ181, l181, y181, z181⟩, st181⟩ := Jvm.LawKit.callS X174 hx (y := (⟨"com/example/leastwise/leastwise/provisioning/WordLinesSpacesAlonePinLaw", "allowed", "(C)Z"⟩ : MethodName)) hown (mvT hZ (hw _ (List.mem_of_getElem? (i := 85) rfl))) (mvT hZ (hw _ (List.mem_of_getElem? (i := 86) rfl))) (mvT hZ (hw _ (List.mem_of_getElem? (i := 3) rfl))) (mvT hZ (hw _ (List.mem_of_getElem? (i := 87) rfl))) (by decide) (backOf (W := 0) (rm2 l Z a0 hw [] cc166 T172.heap n0 ) hZ (hw _ (List.mem_of_getElem? (i := 87) rfl)) (hw _ (List.mem_of_getElem? (i := 3) rfl)) (by decide) (by decide)) (g := (mkF m 70 L_173 [(.int cc166)])) rfl (by rw [hml]; rfl) (argsL := [(.int cc166)]) (rest := []) (lenOf pd0_3 rfl) rfl (by show 2 * 0 + _ ≤ _; exact Nat.le_of_eq rfl) (hb hby at_70) (fun _ _ => ⟨rfl, eq174, (by decide : 4 + 0 ≤ _), (by decide : 20 + 0 ≤ _)⟩)
      dsimp only [Pt.U, Pt.locs, Pt.cells, Pt.slots] at X181 l181 y181 z181 st181 hQ181
      subst l181 y181 z181
      obtain ⟨rfl, Nq181, eq181⟩ := hQ181
      have N181 := Fr.app N174 Nq181
      refine own_t1 (.int (own_al cc166)) 73 st181 ?_
      by_cases c182 : (own_al cc166) = (0 : Int32)
      ·
        refine own_d1 108 (fun _ q => XS.ifYes X181.here hx rfl (pc0 := 73) (pc' := 108) rfl (hb hby at_73) rfl ((if0 _ _).trans (teq c182).1) (by decide) (by decide) q) ?_
        refine own_tp (.int (0 : Int32)) 109 (fun _ q => XS.iconst X181.here hx rfl (hb hby at_108) q) ?_
        let L_183 : Array Slot := #[.val (.int p0), .val (.int p1), .val (.int p2), .val (.int p3), .val (.int p4), .val (.int (4 : Int32)), .val (.int cc164), .val (.int cc166), .val (.int cc168), .val (.int cc170), .val (.ref sq172), .val (.int (0 : Int32))]
        refine own_ls L_183 111 (fun _ q => XS.istore X181.here hx rfl (hb hby at_109) rfl (l' := L_183) rfl q) ?_
        refine own_tp (.ref sq172) 113 (fun _ q => XS.aload X181.here hx rfl (hb hby at_111) rfl rfl q) ?_
        obtain ⟨tq, kq, cdq, Nnq, vsq, Eq_, Lq, Cq, Vq, Coq⟩ := SS172
        rcases Coq with ⟨rfl, rfl, rfl, hcsq⟩ | ⟨rfl, rfl, rfl, hxq⟩
        ·
          obtain ⟨_, _, ⟨T184, L184, k184, n184⟩, -, X184, ⟨Lc184, hQ184, l184, y184, z184⟩, st184⟩ := Jvm.LawKit.callS X181 hx (y := (⟨"com/example/leastwise/leastwise/provisioning/WordLines", "spacesAlone", "(Ljava/lang/String;)Z"⟩ : MethodName)) hown (mvT hZ (hw _ (List.mem_of_getElem? (i := 31) rfl))) (mvT hZ (hw _ (List.mem_of_getElem? (i := 32) rfl))) (mvT hZ (hw _ (List.mem_of_getElem? (i := 33) rfl))) (mvT hZ (hw _ (List.mem_of_getElem? (i := 34) rfl))) (by decide) (backOf (W := 0) (rm3 l Z a0 hw [] sq172 tq kq [cc164, cc166, cc168, cc170] T172.heap n0 (by simp) (own_chs4 hc164 hc166 hc168 hc170) G1 US O172 G3 rG3 Sf Eq_ Cq Lq hcsq Vq) hZ (hw _ (List.mem_of_getElem? (i := 34) rfl)) (hw _ (List.mem_of_getElem? (i := 33) rfl)) (by decide) (by decide)) (g := (mkF m 113 L_183 [(.ref sq172)])) rfl (by rw [hml]; rfl) (argsL := [(.ref sq172)]) (rest := []) (lenOf pd0_2 rfl) rfl (by show 2 * 0 + _ ≤ _; exact Nat.le_of_eq rfl) (hb hby at_113) (fun _ _ => ⟨rfl, eq181, (by decide : 4 + 0 ≤ _), (by decide : 20 + 0 ≤ _)⟩)
          dsimp only [Pt.U, Pt.locs, Pt.cells, Pt.slots] at X184 l184 y184 z184 st184 hQ184
          subst l184 y184 z184
          obtain ⟨rfl, Nq184, eq184⟩ := hQ184
          have N184 := Fr.app N181 Nq184
          refine own_t1 (.int (own_sp [cc164, cc166, cc168, cc170])) 116 st184 ?_
          refine own_tp (.int (0 : Int32)) 118 (fun _ q => XS.iload X184.here hx rfl (hb hby at_116) rfl q) ?_
          by_cases c185 : (own_sp [cc164, cc166, cc168, cc170]) = (0 : Int32)
          ·
            refine own_d2 121 (fun _ q => XS.icmpNo X184.here hx rfl (hb hby at_118) rfl (teq c185).2 q) ?_
            refine own_tp (.int (1 : Int32)) 122 (fun _ q => XS.iconst X184.here hx rfl (hb hby at_121) q) ?_
            refine own_d0 126 (fun _ q => XS.goto X184.here hx rfl (pc0 := 122) (pc' := 126) rfl (hb hby at_122) (by decide) (by decide) q) ?_
            exact own_retNW (t := .boolean) X184 hx hrt (hb hby at_126) (by simp) hlk (by decide) (by decide) eq184 Wd172 (⟨rfl, N184⟩)
          ·
            refine own_d2 125 (fun _ q => XS.icmpYes X184.here hx rfl (pc0 := 118) (pc' := 125) rfl (hb hby at_118) rfl (feq c185).2 (by decide) (by decide) q) ?_
            refine own_tp (.int (0 : Int32)) 126 (fun _ q => XS.iconst X184.here hx rfl (hb hby at_125) q) ?_
            exact absurd (own_sp0 (c := cc166) (by simp) c182) c185
        ·
          obtain ⟨_, _, ⟨T186, L186, k186, n186⟩, -, X186, ⟨Lc186, hQ186, l186, y186, z186⟩, st186⟩ := Jvm.LawKit.callS X181 hx (y := (⟨"com/example/leastwise/leastwise/provisioning/WordLines", "spacesAlone", "(Ljava/lang/String;)Z"⟩ : MethodName)) hown (mvT hZ (hw _ (List.mem_of_getElem? (i := 31) rfl))) (mvT hZ (hw _ (List.mem_of_getElem? (i := 32) rfl))) (mvT hZ (hw _ (List.mem_of_getElem? (i := 33) rfl))) (mvT hZ (hw _ (List.mem_of_getElem? (i := 34) rfl))) (by decide) (backOf (W := 0) (rm4 l Z a0 hw [] sq172 tq kq [cc164, cc166, cc168, cc170] T172.heap n0 (by simp) (own_chs4 hc164 hc166 hc168 hc170) G1 US O172 G3 rG3 Sf Eq_ Cq Lq Vq) hZ (hw _ (List.mem_of_getElem? (i := 34) rfl)) (hw _ (List.mem_of_getElem? (i := 33) rfl)) (by decide) (by decide)) (g := (mkF m 113 L_183 [(.ref sq172)])) rfl (by rw [hml]; rfl) (argsL := [(.ref sq172)]) (rest := []) (lenOf pd0_2 rfl) rfl (by show 2 * 0 + _ ≤ _; exact Nat.le_of_eq rfl) (hb hby at_113) (fun _ _ => ⟨rfl, eq181, (by decide : 4 + 0 ≤ _), (by decide : 20 + 0 ≤ _)⟩)
          dsimp only [Pt.U, Pt.locs, Pt.cells, Pt.slots] at X186 l186 y186 z186 st186 hQ186
          subst l186 y186 z186
          obtain ⟨rfl, Nq186, eq186⟩ := hQ186
          have N186 := Fr.app N181 Nq186
          refine own_t1 (.int (own_sp [cc164, cc166, cc168, cc170])) 116 st186 ?_
          refine own_tp (.int (0 : Int32)) 118 (fun _ q => XS.iload X186.here hx rfl (hb hby at_116) rfl q) ?_
          by_cases c187 : (own_sp [cc164, cc166, cc168, cc170]) = (0 : Int32)
          ·
            refine own_d2 121 (fun _ q => XS.icmpNo X186.here hx rfl (hb hby at_118) rfl (teq c187).2 q) ?_
            refine own_tp (.int (1 : Int32)) 122 (fun _ q => XS.iconst X186.here hx rfl (hb hby at_121) q) ?_
            refine own_d0 126 (fun _ q => XS.goto X186.here hx rfl (pc0 := 122) (pc' := 126) rfl (hb hby at_122) (by decide) (by decide) q) ?_
            exact own_retNW (t := .boolean) X186 hx hrt (hb hby at_126) (by simp) hlk (by decide) (by decide) eq186 Wd172 (⟨rfl, N186⟩)
          ·
            refine own_d2 125 (fun _ q => XS.icmpYes X186.here hx rfl (pc0 := 118) (pc' := 125) rfl (hb hby at_118) rfl (feq c187).2 (by decide) (by decide) q) ?_
            refine own_tp (.int (0 : Int32)) 126 (fun _ q => XS.iconst X186.here hx rfl (hb hby at_125) q) ?_
            exact absurd (own_sp0 (c := cc166) (by simp) c182) c187
      ·
        refine own_d1 76 (fun _ q => XS.ifNo X181.here hx rfl (hb hby at_73) rfl ((if0 _ _).trans (feq c182).1) q) ?_
        refine own_tp (.int (4 : Int32)) 78 (fun _ q => XS.iload X181.here hx rfl (hb hby at_76) rfl q) ?_
        refine own_tp (.int (3 : Int32)) 79 (fun _ q => XS.iconst X181.here hx rfl (hb hby at_78) q) ?_
        refine own_d2 82 (fun _ q => XS.icmpNo X181.here hx rfl (hb hby at_79) rfl (flt (by decide : ¬ ((4 : Int32) < (3 : Int32)))).1 q) ?_
        refine own_tp (.int cc168) 84 (fun _ q => XS.iload X181.here hx rfl (hb hby at_82) rfl q) ?_
        obtain ⟨_, _, ⟨T188, L188, k188, n188⟩, -, X188, ⟨Lc188, hQ188, l188, y188, z188⟩, st188⟩ := Jvm.LawKit.callS X181 hx (y := (⟨"com/example/leastwise/leastwise/provisioning/WordLinesSpacesAlonePinLaw", "allowed", "(C)Z"⟩ : MethodName)) hown (mvT hZ (hw _ (List.mem_of_getElem? (i := 85) rfl))) (mvT hZ (hw _ (List.mem_of_getElem? (i := 86) rfl))) (mvT hZ (hw _ (List.mem_of_getElem? (i := 3) rfl))) (mvT hZ (hw _ (List.mem_of_getElem? (i := 87) rfl))) (by decide) (backOf (W := 0) (rm2 l Z a0 hw [] cc168 T172.heap n0 ) hZ (hw _ (List.mem_of_getElem? (i := 87) rfl)) (hw _ (List.mem_of_getElem? (i := 3) rfl)) (by decide) (by decide)) (g := (mkF m 84 L_173 [(.int cc168)])) rfl (by rw [hml]; rfl) (argsL := [(.int cc168)]) (rest := []) (lenOf pd0_3 rfl) rfl (by show 2 * 0 + _ ≤ _; exact Nat.le_of_eq rfl) (hb hby at_84) (fun _ _ => ⟨rfl, eq181, (by decide : 4 + 0 ≤ _), (by decide : 20 + 0 ≤ _)⟩)
        dsimp only [Pt.U, Pt.locs, Pt.cells, Pt.slots] at X188 l188 y188 z188 st188 hQ188
        subst l188 y188 z188
        obtain ⟨rfl, Nq188, eq188⟩ := hQ188
        have N188 := Fr.app N181 Nq188
        refine own_t1 (.int (own_al cc168)) 87 st188 ?_
        by_cases c189 : (own_al cc168) = (0 : Int32)
        ·
          refine own_d1 108 (fun _ q => XS.ifYes X188.here hx rfl (pc0 := 87) (pc' := 108) rfl (hb hby at_87) rfl ((if0 _ _).trans (teq c189).1) (by decide) (by decide) q) ?_
          refine own_tp (.int (0 : Int32)) 109 (fun _ q => XS.iconst X188.here hx rfl (hb hby at_108) q) ?_
          let L_190 : Array Slot := #[.val (.int p0), .val (.int p1), .val (.int p2), .val (.int p3), .val (.int p4), .val (.int (4 : Int32)), .val (.int cc164), .val (.int cc166), .val (.int cc168), .val (.int cc170), .val (.ref sq172), .val (.int (0 : Int32))]
          refine own_ls L_190 111 (fun _ q => XS.istore X188.here hx rfl (hb hby at_109) rfl (l' := L_190) rfl q) ?_
          refine own_tp (.ref sq172) 113 (fun _ q => XS.aload X188.here hx rfl (hb hby at_111) rfl rfl q) ?_
          obtain ⟨tq, kq, cdq, Nnq, vsq, Eq_, Lq, Cq, Vq, Coq⟩ := SS172
          rcases Coq with ⟨rfl, rfl, rfl, hcsq⟩ | ⟨rfl, rfl, rfl, hxq⟩
          ·
            obtain ⟨_, _, ⟨T191, L191, k191, n191⟩, -, X191, ⟨Lc191, hQ191, l191, y191, z191⟩, st191⟩ := Jvm.LawKit.callS X188 hx (y := (⟨"com/example/leastwise/leastwise/provisioning/WordLines", "spacesAlone", "(Ljava/lang/String;)Z"⟩ : MethodName)) hown (mvT hZ (hw _ (List.mem_of_getElem? (i := 31) rfl))) (mvT hZ (hw _ (List.mem_of_getElem? (i := 32) rfl))) (mvT hZ (hw _ (List.mem_of_getElem? (i := 33) rfl))) (mvT hZ (hw _ (List.mem_of_getElem? (i := 34) rfl))) (by decide) (backOf (W := 0) (rm3 l Z a0 hw [] sq172 tq kq [cc164, cc166, cc168, cc170] T172.heap n0 (by simp) (own_chs4 hc164 hc166 hc168 hc170) G1 US O172 G3 rG3 Sf Eq_ Cq Lq hcsq Vq) hZ (hw _ (List.mem_of_getElem? (i := 34) rfl)) (hw _ (List.mem_of_getElem? (i := 33) rfl)) (by decide) (by decide)) (g := (mkF m 113 L_190 [(.ref sq172)])) rfl (by rw [hml]; rfl) (argsL := [(.ref sq172)]) (rest := []) (lenOf pd0_2 rfl) rfl (by show 2 * 0 + _ ≤ _; exact Nat.le_of_eq rfl) (hb hby at_113) (fun _ _ => ⟨rfl, eq188, (by decide : 4 + 0 ≤ _), (by decide : 20 + 0 ≤ _)⟩)
            dsimp only [Pt.U, Pt.locs, Pt.cells, Pt.slots] at X191 l191 y191 z191 st191 hQ191
            subst l191 y191 z191
            obtain ⟨rfl, Nq191, eq191⟩ := hQ191
            have N191 := Fr.app N188 Nq191
            refine own_t1 (.int (own_sp [cc164, cc166, cc168, cc170])) 116 st191 ?_
            refine own_tp (.int (0 : Int32)) 118 (fun _ q => XS.iload X191.here hx rfl (hb hby at_116) rfl q) ?_
            by_cases c192 : (own_sp [cc164, cc166, cc168, cc170]) = (0 : Int32)
            ·
              refine own_d2 121 (fun _ q => XS.icmpNo X191.here hx rfl (hb hby at_118) rfl (teq c192).2 q) ?_
              refine own_tp (.int (1 : Int32)) 122 (fun _ q => XS.iconst X191.here hx rfl (hb hby at_121) q) ?_
              refine own_d0 126 (fun _ q => XS.goto X191.here hx rfl (pc0 := 122) (pc' := 126) rfl (hb hby at_122) (by decide) (by decide) q) ?_
              exact own_retNW (t := .boolean) X191 hx hrt (hb hby at_126) (by simp) hlk (by decide) (by decide) eq191 Wd172 (⟨rfl, N191⟩)
            ·
              refine own_d2 125 (fun _ q => XS.icmpYes X191.here hx rfl (pc0 := 118) (pc' := 125) rfl (hb hby at_118) rfl (feq c192).2 (by decide) (by decide) q) ?_
              refine own_tp (.int (0 : Int32)) 126 (fun _ q => XS.iconst X191.here hx rfl (hb hby at_125) q) ?_
              exact absurd (own_sp0 (c := cc168) (by simp) c189) c192
          ·
            obtain ⟨_, _, ⟨T193, L193, k193, n193⟩, -, X193, ⟨Lc193, hQ193, l193, y193, z193⟩, st193⟩ := Jvm.LawKit.callS X188 hx (y := (⟨"com/example/leastwise/leastwise/provisioning/WordLines", "spacesAlone", "(Ljava/lang/String;)Z"⟩ : MethodName)) hown (mvT hZ (hw _ (List.mem_of_getElem? (i := 31) rfl))) (mvT hZ (hw _ (List.mem_of_getElem? (i := 32) rfl))) (mvT hZ (hw _ (List.mem_of_getElem? (i := 33) rfl))) (mvT hZ (hw _ (List.mem_of_getElem? (i := 34) rfl))) (by decide) (backOf (W := 0) (rm4 l Z a0 hw [] sq172 tq kq [cc164, cc166, cc168, cc170] T172.heap n0 (by simp) (own_chs4 hc164 hc166 hc168 hc170) G1 US O172 G3 rG3 Sf Eq_ Cq Lq Vq) hZ (hw _ (List.mem_of_getElem? (i := 34) rfl)) (hw _ (List.mem_of_getElem? (i := 33) rfl)) (by decide) (by decide)) (g := (mkF m 113 L_190 [(.ref sq172)])) rfl (by rw [hml]; rfl) (argsL := [(.ref sq172)]) (rest := []) (lenOf pd0_2 rfl) rfl (by show 2 * 0 + _ ≤ _; exact Nat.le_of_eq rfl) (hb hby at_113) (fun _ _ => ⟨rfl, eq188, (by decide : 4 + 0 ≤ _), (by decide : 20 + 0 ≤ _)⟩)
            dsimp only [Pt.U, Pt.locs, Pt.cells, Pt.slots] at X193 l193 y193 z193 st193 hQ193
            subst l193 y193 z193
            obtain ⟨rfl, Nq193, eq193⟩ := hQ193
            have N193 := Fr.app N188 Nq193
            refine own_t1 (.int (own_sp [cc164, cc166, cc168, cc170])) 116 st193 ?_
            refine own_tp (.int (0 : Int32)) 118 (fun _ q => XS.iload X193.here hx rfl (hb hby at_116) rfl q) ?_
            by_cases c194 : (own_sp [cc164, cc166, cc168, cc170]) = (0 : Int32)
            ·
              refine own_d2 121 (fun _ q => XS.icmpNo X193.here hx rfl (hb hby at_118) rfl (teq c194).2 q) ?_
              refine own_tp (.int (1 : Int32)) 122 (fun _ q => XS.iconst X193.here hx rfl (hb hby at_121) q) ?_
              refine own_d0 126 (fun _ q => XS.goto X193.here hx rfl (pc0 := 122) (pc' := 126) rfl (hb hby at_122) (by decide) (by decide) q) ?_
              exact own_retNW (t := .boolean) X193 hx hrt (hb hby at_126) (by simp) hlk (by decide) (by decide) eq193 Wd172 (⟨rfl, N193⟩)
            ·
              refine own_d2 125 (fun _ q => XS.icmpYes X193.here hx rfl (pc0 := 118) (pc' := 125) rfl (hb hby at_118) rfl (feq c194).2 (by decide) (by decide) q) ?_
              refine own_tp (.int (0 : Int32)) 126 (fun _ q => XS.iconst X193.here hx rfl (hb hby at_125) q) ?_
              exact absurd (own_sp0 (c := cc168) (by simp) c189) c194
        ·
          refine own_d1 90 (fun _ q => XS.ifNo X188.here hx rfl (hb hby at_87) rfl ((if0 _ _).trans (feq c189).1) q) ?_
          refine own_tp (.int (4 : Int32)) 92 (fun _ q => XS.iload X188.here hx rfl (hb hby at_90) rfl q) ?_
          refine own_tp (.int (4 : Int32)) 93 (fun _ q => XS.iconst X188.here hx rfl (hb hby at_92) q) ?_
          refine own_d2 96 (fun _ q => XS.icmpNo X188.here hx rfl (hb hby at_93) rfl (flt (by decide : ¬ ((4 : Int32) < (4 : Int32)))).1 q) ?_
          refine own_tp (.int cc170) 98 (fun _ q => XS.iload X188.here hx rfl (hb hby at_96) rfl q) ?_
          obtain ⟨_, _, ⟨T195, L195, k195, n195⟩, -, X195, ⟨Lc195, hQ195, l195, y195, z195⟩, st195⟩ := Jvm.LawKit.callS X188 hx (y := (⟨"com/example/leastwise/leastwise/provisioning/WordLinesSpacesAlonePinLaw", "allowed", "(C)Z"⟩ : MethodName)) hown (mvT hZ (hw _ (List.mem_of_getElem? (i := 85) rfl))) (mvT hZ (hw _ (List.mem_of_getElem? (i := 86) rfl))) (mvT hZ (hw _ (List.mem_of_getElem? (i := 3) rfl))) (mvT hZ (hw _ (List.mem_of_getElem? (i := 87) rfl))) (by decide) (backOf (W := 0) (rm2 l Z a0 hw [] cc170 T172.heap n0 ) hZ (hw _ (List.mem_of_getElem? (i := 87) rfl)) (hw _ (List.mem_of_getElem? (i := 3) rfl)) (by decide) (by decide)) (g := (mkF m 98 L_173 [(.int cc170)])) rfl (by rw [hml]; rfl) (argsL := [(.int cc170)]) (rest := []) (lenOf pd0_3 rfl) rfl (by show 2 * 0 + _ ≤ _; exact Nat.le_of_eq rfl) (hb hby at_98) (fun _ _ => ⟨rfl, eq188, (by decide : 4 + 0 ≤ _), (by decide : 20 + 0 ≤ _)⟩)
          dsimp only [Pt.U, Pt.locs, Pt.cells, Pt.slots] at X195 l195 y195 z195 st195 hQ195
          subst l195 y195 z195
          obtain ⟨rfl, Nq195, eq195⟩ := hQ195
          have N195 := Fr.app N188 Nq195
          refine own_t1 (.int (own_al cc170)) 101 st195 ?_
          by_cases c196 : (own_al cc170) = (0 : Int32)
          ·
            refine own_d1 108 (fun _ q => XS.ifYes X195.here hx rfl (pc0 := 101) (pc' := 108) rfl (hb hby at_101) rfl ((if0 _ _).trans (teq c196).1) (by decide) (by decide) q) ?_
            refine own_tp (.int (0 : Int32)) 109 (fun _ q => XS.iconst X195.here hx rfl (hb hby at_108) q) ?_
            let L_197 : Array Slot := #[.val (.int p0), .val (.int p1), .val (.int p2), .val (.int p3), .val (.int p4), .val (.int (4 : Int32)), .val (.int cc164), .val (.int cc166), .val (.int cc168), .val (.int cc170), .val (.ref sq172), .val (.int (0 : Int32))]
            refine own_ls L_197 111 (fun _ q => XS.istore X195.here hx rfl (hb hby at_109) rfl (l' := L_197) rfl q) ?_
            refine own_tp (.ref sq172) 113 (fun _ q => XS.aload X195.here hx rfl (hb hby at_111) rfl rfl q) ?_
            obtain ⟨tq, kq, cdq, Nnq, vsq, Eq_, Lq, Cq, Vq, Coq⟩ := SS172
            rcases Coq with ⟨rfl, rfl, rfl, hcsq⟩ | ⟨rfl, rfl, rfl, hxq⟩
            ·
              obtain ⟨_, _, ⟨T198, L198, k198, n198⟩, -, X198, ⟨Lc198, hQ198, l198, y198, z198⟩, st198⟩ := Jvm.LawKit.callS X195 hx (y := (⟨"com/example/leastwise/leastwise/provisioning/WordLines", "spacesAlone", "(Ljava/lang/String;)Z"⟩ : MethodName)) hown (mvT hZ (hw _ (List.mem_of_getElem? (i := 31) rfl))) (mvT hZ (hw _ (List.mem_of_getElem? (i := 32) rfl))) (mvT hZ (hw _ (List.mem_of_getElem? (i := 33) rfl))) (mvT hZ (hw _ (List.mem_of_getElem? (i := 34) rfl))) (by decide) (backOf (W := 0) (rm3 l Z a0 hw [] sq172 tq kq [cc164, cc166, cc168, cc170] T172.heap n0 (by simp) (own_chs4 hc164 hc166 hc168 hc170) G1 US O172 G3 rG3 Sf Eq_ Cq Lq hcsq Vq) hZ (hw _ (List.mem_of_getElem? (i := 34) rfl)) (hw _ (List.mem_of_getElem? (i := 33) rfl)) (by decide) (by decide)) (g := (mkF m 113 L_197 [(.ref sq172)])) rfl (by rw [hml]; rfl) (argsL := [(.ref sq172)]) (rest := []) (lenOf pd0_2 rfl) rfl (by show 2 * 0 + _ ≤ _; exact Nat.le_of_eq rfl) (hb hby at_113) (fun _ _ => ⟨rfl, eq195, (by decide : 4 + 0 ≤ _), (by decide : 20 + 0 ≤ _)⟩)
              dsimp only [Pt.U, Pt.locs, Pt.cells, Pt.slots] at X198 l198 y198 z198 st198 hQ198
              subst l198 y198 z198
              obtain ⟨rfl, Nq198, eq198⟩ := hQ198
              have N198 := Fr.app N195 Nq198
              refine own_t1 (.int (own_sp [cc164, cc166, cc168, cc170])) 116 st198 ?_
              refine own_tp (.int (0 : Int32)) 118 (fun _ q => XS.iload X198.here hx rfl (hb hby at_116) rfl q) ?_
              by_cases c199 : (own_sp [cc164, cc166, cc168, cc170]) = (0 : Int32)
              ·
                refine own_d2 121 (fun _ q => XS.icmpNo X198.here hx rfl (hb hby at_118) rfl (teq c199).2 q) ?_
                refine own_tp (.int (1 : Int32)) 122 (fun _ q => XS.iconst X198.here hx rfl (hb hby at_121) q) ?_
                refine own_d0 126 (fun _ q => XS.goto X198.here hx rfl (pc0 := 122) (pc' := 126) rfl (hb hby at_122) (by decide) (by decide) q) ?_
                exact own_retNW (t := .boolean) X198 hx hrt (hb hby at_126) (by simp) hlk (by decide) (by decide) eq198 Wd172 (⟨rfl, N198⟩)
              ·
                refine own_d2 125 (fun _ q => XS.icmpYes X198.here hx rfl (pc0 := 118) (pc' := 125) rfl (hb hby at_118) rfl (feq c199).2 (by decide) (by decide) q) ?_
                refine own_tp (.int (0 : Int32)) 126 (fun _ q => XS.iconst X198.here hx rfl (hb hby at_125) q) ?_
                exact absurd (own_sp0 (c := cc170) (by simp) c196) c199
            ·
              obtain ⟨_, _, ⟨T200, L200, k200, n200⟩, -, X200, ⟨Lc200, hQ200, l200, y200, z200⟩, st200⟩ := Jvm.LawKit.callS X195 hx (y := (⟨"com/example/leastwise/leastwise/provisioning/WordLines", "spacesAlone", "(Ljava/lang/String;)Z"⟩ : MethodName)) hown (mvT hZ (hw _ (List.mem_of_getElem? (i := 31) rfl))) (mvT hZ (hw _ (List.mem_of_getElem? (i := 32) rfl))) (mvT hZ (hw _ (List.mem_of_getElem? (i := 33) rfl))) (mvT hZ (hw _ (List.mem_of_getElem? (i := 34) rfl))) (by decide) (backOf (W := 0) (rm4 l Z a0 hw [] sq172 tq kq [cc164, cc166, cc168, cc170] T172.heap n0 (by simp) (own_chs4 hc164 hc166 hc168 hc170) G1 US O172 G3 rG3 Sf Eq_ Cq Lq Vq) hZ (hw _ (List.mem_of_getElem? (i := 34) rfl)) (hw _ (List.mem_of_getElem? (i := 33) rfl)) (by decide) (by decide)) (g := (mkF m 113 L_197 [(.ref sq172)])) rfl (by rw [hml]; rfl) (argsL := [(.ref sq172)]) (rest := []) (lenOf pd0_2 rfl) rfl (by show 2 * 0 + _ ≤ _; exact Nat.le_of_eq rfl) (hb hby at_113) (fun _ _ => ⟨rfl, eq195, (by decide : 4 + 0 ≤ _), (by decide : 20 + 0 ≤ _)⟩)
              dsimp only [Pt.U, Pt.locs, Pt.cells, Pt.slots] at X200 l200 y200 z200 st200 hQ200
              subst l200 y200 z200
              obtain ⟨rfl, Nq200, eq200⟩ := hQ200
              have N200 := Fr.app N195 Nq200
              refine own_t1 (.int (own_sp [cc164, cc166, cc168, cc170])) 116 st200 ?_
              refine own_tp (.int (0 : Int32)) 118 (fun _ q => XS.iload X200.here hx rfl (hb hby at_116) rfl q) ?_
              by_cases c201 : (own_sp [cc164, cc166, cc168, cc170]) = (0 : Int32)
              ·
                refine own_d2 121 (fun _ q => XS.icmpNo X200.here hx rfl (hb hby at_118) rfl (teq c201).2 q) ?_
                refine own_tp (.int (1 : Int32)) 122 (fun _ q => XS.iconst X200.here hx rfl (hb hby at_121) q) ?_
                refine own_d0 126 (fun _ q => XS.goto X200.here hx rfl (pc0 := 122) (pc' := 126) rfl (hb hby at_122) (by decide) (by decide) q) ?_
                exact own_retNW (t := .boolean) X200 hx hrt (hb hby at_126) (by simp) hlk (by decide) (by decide) eq200 Wd172 (⟨rfl, N200⟩)
              ·
                refine own_d2 125 (fun _ q => XS.icmpYes X200.here hx rfl (pc0 := 118) (pc' := 125) rfl (hb hby at_118) rfl (feq c201).2 (by decide) (by decide) q) ?_
                refine own_tp (.int (0 : Int32)) 126 (fun _ q => XS.iconst X200.here hx rfl (hb hby at_125) q) ?_
                exact absurd (own_sp0 (c := cc170) (by simp) c196) c201
          ·
            refine own_d1 104 (fun _ q => XS.ifNo X195.here hx rfl (hb hby at_101) rfl ((if0 _ _).trans (feq c196).1) q) ?_
            refine own_tp (.int (1 : Int32)) 105 (fun _ q => XS.iconst X195.here hx rfl (hb hby at_104) q) ?_
            refine own_d0 109 (fun _ q => XS.goto X195.here hx rfl (pc0 := 105) (pc' := 109) rfl (hb hby at_105) (by decide) (by decide) q) ?_
            let L_202 : Array Slot := #[.val (.int p0), .val (.int p1), .val (.int p2), .val (.int p3), .val (.int p4), .val (.int (4 : Int32)), .val (.int cc164), .val (.int cc166), .val (.int cc168), .val (.int cc170), .val (.ref sq172), .val (.int (1 : Int32))]
            refine own_ls L_202 111 (fun _ q => XS.istore X195.here hx rfl (hb hby at_109) rfl (l' := L_202) rfl q) ?_
            refine own_tp (.ref sq172) 113 (fun _ q => XS.aload X195.here hx rfl (hb hby at_111) rfl rfl q) ?_
            obtain ⟨tq, kq, cdq, Nnq, vsq, Eq_, Lq, Cq, Vq, Coq⟩ := SS172
            rcases Coq with ⟨rfl, rfl, rfl, hcsq⟩ | ⟨rfl, rfl, rfl, hxq⟩
            ·
              obtain ⟨_, _, ⟨T203, L203, k203, n203⟩, -, X203, ⟨Lc203, hQ203, l203, y203, z203⟩, st203⟩ := Jvm.LawKit.callS X195 hx (y := (⟨"com/example/leastwise/leastwise/provisioning/WordLines", "spacesAlone", "(Ljava/lang/String;)Z"⟩ : MethodName)) hown (mvT hZ (hw _ (List.mem_of_getElem? (i := 31) rfl))) (mvT hZ (hw _ (List.mem_of_getElem? (i := 32) rfl))) (mvT hZ (hw _ (List.mem_of_getElem? (i := 33) rfl))) (mvT hZ (hw _ (List.mem_of_getElem? (i := 34) rfl))) (by decide) (backOf (W := 0) (rm3 l Z a0 hw [] sq172 tq kq [cc164, cc166, cc168, cc170] T172.heap n0 (by simp) (own_chs4 hc164 hc166 hc168 hc170) G1 US O172 G3 rG3 Sf Eq_ Cq Lq hcsq Vq) hZ (hw _ (List.mem_of_getElem? (i := 34) rfl)) (hw _ (List.mem_of_getElem? (i := 33) rfl)) (by decide) (by decide)) (g := (mkF m 113 L_202 [(.ref sq172)])) rfl (by rw [hml]; rfl) (argsL := [(.ref sq172)]) (rest := []) (lenOf pd0_2 rfl) rfl (by show 2 * 0 + _ ≤ _; exact Nat.le_of_eq rfl) (hb hby at_113) (fun _ _ => ⟨rfl, eq195, (by decide : 4 + 0 ≤ _), (by decide : 20 + 0 ≤ _)⟩)
              dsimp only [Pt.U, Pt.locs, Pt.cells, Pt.slots] at X203 l203 y203 z203 st203 hQ203
              subst l203 y203 z203
              obtain ⟨rfl, Nq203, eq203⟩ := hQ203
              have N203 := Fr.app N195 Nq203
              refine own_t1 (.int (own_sp [cc164, cc166, cc168, cc170])) 116 st203 ?_
              refine own_tp (.int (1 : Int32)) 118 (fun _ q => XS.iload X203.here hx rfl (hb hby at_116) rfl q) ?_
              by_cases c204 : (own_sp [cc164, cc166, cc168, cc170]) = (1 : Int32)
              ·
                refine own_d2 121 (fun _ q => XS.icmpNo X203.here hx rfl (hb hby at_118) rfl (teq c204).2 q) ?_
                refine own_tp (.int (1 : Int32)) 122 (fun _ q => XS.iconst X203.here hx rfl (hb hby at_121) q) ?_
                refine own_d0 126 (fun _ q => XS.goto X203.here hx rfl (pc0 := 122) (pc' := 126) rfl (hb hby at_122) (by decide) (by decide) q) ?_
                exact own_retNW (t := .boolean) X203 hx hrt (hb hby at_126) (by simp) hlk (by decide) (by decide) eq203 Wd172 (⟨rfl, N203⟩)
              ·
                refine own_d2 125 (fun _ q => XS.icmpYes X203.here hx rfl (pc0 := 118) (pc' := 125) rfl (hb hby at_118) rfl (feq c204).2 (by decide) (by decide) q) ?_
                refine own_tp (.int (0 : Int32)) 126 (fun _ q => XS.iconst X203.here hx rfl (hb hby at_125) q) ?_
                exact absurd (own_sp1 (by simp [c175, c182, c189, c196])) c204
            ·
              obtain ⟨_, _, ⟨T205, L205, k205, n205⟩, -, X205, ⟨Lc205, hQ205, l205, y205, z205⟩, st205⟩ := Jvm.LawKit.callS X195 hx (y := (⟨"com/example/leastwise/leastwise/provisioning/WordLines", "spacesAlone", "(Ljava/lang/String;)Z"⟩ : MethodName)) hown (mvT hZ (hw _ (List.mem_of_getElem? (i := 31) rfl))) (mvT hZ (hw _ (List.mem_of_getElem? (i := 32) rfl))) (mvT hZ (hw _ (List.mem_of_getElem? (i := 33) rfl))) (mvT hZ (hw _ (List.mem_of_getElem? (i := 34) rfl))) (by decide) (backOf (W := 0) (rm4 l Z a0 hw [] sq172 tq kq [cc164, cc166, cc168, cc170] T172.heap n0 (by simp) (own_chs4 hc164 hc166 hc168 hc170) G1 US O172 G3 rG3 Sf Eq_ Cq Lq Vq) hZ (hw _ (List.mem_of_getElem? (i := 34) rfl)) (hw _ (List.mem_of_getElem? (i := 33) rfl)) (by decide) (by decide)) (g := (mkF m 113 L_202 [(.ref sq172)])) rfl (by rw [hml]; rfl) (argsL := [(.ref sq172)]) (rest := []) (lenOf pd0_2 rfl) rfl (by show 2 * 0 + _ ≤ _; exact Nat.le_of_eq rfl) (hb hby at_113) (fun _ _ => ⟨rfl, eq195, (by decide : 4 + 0 ≤ _), (by decide : 20 + 0 ≤ _)⟩)
              dsimp only [Pt.U, Pt.locs, Pt.cells, Pt.slots] at X205 l205 y205 z205 st205 hQ205
              subst l205 y205 z205
              obtain ⟨rfl, Nq205, eq205⟩ := hQ205
              have N205 := Fr.app N195 Nq205
              refine own_t1 (.int (own_sp [cc164, cc166, cc168, cc170])) 116 st205 ?_
              refine own_tp (.int (1 : Int32)) 118 (fun _ q => XS.iload X205.here hx rfl (hb hby at_116) rfl q) ?_
              by_cases c206 : (own_sp [cc164, cc166, cc168, cc170]) = (1 : Int32)
              ·
                refine own_d2 121 (fun _ q => XS.icmpNo X205.here hx rfl (hb hby at_118) rfl (teq c206).2 q) ?_
                refine own_tp (.int (1 : Int32)) 122 (fun _ q => XS.iconst X205.here hx rfl (hb hby at_121) q) ?_
                refine own_d0 126 (fun _ q => XS.goto X205.here hx rfl (pc0 := 122) (pc' := 126) rfl (hb hby at_122) (by decide) (by decide) q) ?_
                exact own_retNW (t := .boolean) X205 hx hrt (hb hby at_126) (by simp) hlk (by decide) (by decide) eq205 Wd172 (⟨rfl, N205⟩)
              ·
                refine own_d2 125 (fun _ q => XS.icmpYes X205.here hx rfl (pc0 := 118) (pc' := 125) rfl (hb hby at_118) rfl (feq c206).2 (by decide) (by decide) q) ?_
                refine own_tp (.int (0 : Int32)) 126 (fun _ q => XS.iconst X205.here hx rfl (hb hby at_125) q) ?_
                exact absurd (own_sp1 (by simp [c175, c182, c189, c196])) c206

set_option maxRecDepth 65536 in
set_option maxHeartbeats 40000000 in
theorem comes_1 {Post : Tables → Env → Array Value → State → Outcome → State → Prop} (hpost : ∀ tb e args s v u, (limb_1_1.after args s (.returned v) u = true ∧ limb_1_2.after args s (.returned v) u = true ∧ True) → ReturnedEndW s (.returned v) u (Jvm.fieldLocs frame_1_writes args s ++ Jvm.arrayLocs frame_1_arrays args s ++ Jvm.staticLocs frame_1_statics s) 24 1152 → Post tb e args s (.returned v) u) :
    ArmFor flags0 classFile x code maxLocals ret World_1 tables_1 room_1 Calls_1 rest_1 Pre_1 Post := by
  intro l hfl _ _ p e ha hc hk s m args below hf hA hF happ hP
  obtain ⟨hcalls, hrest, hpre⟩ := hP
  obtain ⟨-, -, -, hnamed, -, -, -, hat⟩ := (Spec.applies_iff hf).mp happ
  obtain ⟨hg, hn⟩ := and_e (Cond.before_iff.mp (show (Jvm.Cond.and given_1 narrow_1).before args s = true from hpre))
  obtain ⟨hcount, hg0⟩ := and_e hg
  obtain ⟨hv0, hg1⟩ := and_e hg0
  obtain ⟨hv1, hg2⟩ := and_e hg1
  obtain ⟨hv2, hg3⟩ := and_e hg2
  obtain ⟨hv3, hg4⟩ := and_e hg3
  obtain ⟨w0, w1, w2, w3, w4, rfl⟩ : ∃ w0 w1 w2 w3 w4 : Value, args = #[w0, w1, w2, w3, w4] := by
    have hs : args.size = 5 := by simpa [Cond.value, given_1] using hcount
    obtain ⟨L⟩ := args
    match L, hs with
    | [w0, w1, w2, w3, w4], _ => exact ⟨w0, w1, w2, w3, w4, rfl⟩
  have hw := fun d (hd : d ∈ tables_1) => atoms_spec (ws := Jvm.Cond.code x code maxLocals ret :: tables_1) hat d (List.mem_cons_of_mem _ hd)
  have hfit : Fit s := fun {y c} hc i hi => by
    obtain ⟨ha, rfl⟩ := Array.getElem?_eq_some_iff.mp hc
    have q := List.all_eq_true.mp ((Array.all_eq_true_iff_forall_mem.mp hF) _ (Array.getElem_mem ha)) i (List.mem_range.mpr hi)
    simpa [Array.getElem?_eq_getElem hi] using q
  obtain ⟨i0, ei0⟩ := is_v hv0
  obtain rfl : w0 = (.int i0) := Option.some.inj ei0
  obtain ⟨i1, ei1⟩ := is_v hv1
  obtain rfl : w1 = (.int i1) := Option.some.inj ei1
  obtain ⟨i2, ei2⟩ := is_v hv2
  obtain rfl : w2 = (.int i2) := Option.some.inj ei2
  obtain ⟨i3, ei3⟩ := is_v hv3
  obtain rfl : w3 = (.int i3) := Option.some.inj ei3
  obtain ⟨i4, ei4⟩ := is_v hg4
  obtain rfl : w4 = (.int i4) := Option.some.inj ei4
  obtain ⟨hsets, hown0⟩ := atoms_of _ (rest_1_c_eq ▸ (show rest_1_c.before _ s = true from hrest))
  obtain ⟨G1, eG1⟩ := is_v (Cond.before_iff.mp (hsets _ (List.mem_of_getElem? (i := 1) rfl)))
  have Sc : Sta s s.heap "java/lang/String" "COMPACT_STRINGS" "Z" (.int G1) := Sta.start eG1 (Or.inl (hsets _ (List.mem_of_getElem? (i := 0) rfl)))
  have P5 : ¬ (G1 = (0 : Int32)) := gotF (Cond.eq_ints eG1 (Term.int_eval (0))) (not_v (Cond.before_iff.mp (hsets _ (List.mem_of_getElem? (i := 2) rfl))))
  have hE : EW s _ own_EL := EW.cons (hw _ (List.mem_of_getElem? (i := 23) rfl)) (by decide) (EW.nil)
  have hC : CHv s own_EL s.vm s.heap := CHv.start hE (fun p hp => hcalls.1 p hp) (hsets _ (List.mem_of_getElem? (i := 2) rfl)) (hw _ (List.mem_of_getElem? (i := 24) rfl)) (hw _ (List.mem_of_getElem? (i := 10) rfl))
  have S12 : Sta s s.heap "java/lang/StringUTF16" "$assertionsDisabled" "Z" (.int (1 : Int32)) := own_stI (hsets _ (List.mem_of_getElem? (i := 12) rfl)) (hsets _ (List.mem_of_getElem? (i := 11) rfl))
  have S15 : Sta s s.heap "java/lang/StringUTF16" "HI_BYTE_SHIFT" "I" (.int (0 : Int32)) := own_stI (hsets _ (List.mem_of_getElem? (i := 15) rfl)) (hsets _ (List.mem_of_getElem? (i := 14) rfl))
  have S18 : Sta s s.heap "java/lang/StringUTF16" "LO_BYTE_SHIFT" "I" (.int (8 : Int32)) := own_stI (hsets _ (List.mem_of_getElem? (i := 18) rfl)) (hsets _ (List.mem_of_getElem? (i := 17) rfl))
  have US : own_US s G1 := ⟨P5, Sc, S12, S15, S18⟩
  obtain ⟨G3, eG3, rG3⟩ := isR_v (Cond.before_iff.mp (hsets _ (List.mem_of_getElem? (i := 8) rfl)))
  have Sf : Sta s s.heap "jdk/internal/util/Preconditions" "SIOOBE_FORMATTER" "Ljava/util/function/BiFunction;" G3 := Sta.start eG3 (Or.inl (hsets _ (List.mem_of_getElem? (i := 7) rfl)))
  obtain ⟨n, o, h1, h2, h3, _, L, rfl, ⟨rfl, N⟩, -, hq⟩ := rm0 l s _ hw tables_1 i0 i1 i2 i3 i4 s.heap s.heap.size hE (Nat.le_refl _) G1 US (Old.start s) G3 rG3 Sf p e ha hc hk s m _ below hf ((Spec.applies_iff_loose hf).mp happ).1 ⟨rfl, State.Warmed39.refl s, rfl, hC⟩ trivial
  refine ⟨n, _, h1, h2, h3, hpost _ _ _ _ _ _ ⟨Cond.after_iff.mpr rfl, Cond.after_iff.mpr (eq_i res_at (Term.int_eval (1)) rfl), trivial⟩ ⟨hq.1, hq.2.1, hq.2.2.1, (hq.2.2.2.sift fun y hy => Or.inr (N y hy)).mono (by decide) (by decide)⟩⟩
theorem main_1_1 : Claimed_1_1 := comes_1 fun _ _ _ _ _ _ h hF => ⟨h.1, hF⟩
theorem main_1_2 : Claimed_1_2 := comes_1 fun _ _ _ _ _ _ h hF => ⟨h.2.1, hF⟩
end Jvm.Pilot.@@N@@
namespace Jvm.Pilot.@@N@@
open Jvm Jvm.ClassFile Sem Op Lib Jvm.Free Jvm.Stand Jvm.Pilot.@@N@@.Jvm.D
/-! MADE BY PROGRAM (witnessworld.py) out of the Statement's table words and the real class files: 21 classes; the members and pool entries that the words name. The judged class is class 1, her method 1. -/
namespace start1
open Jvm.ClassFile
def u (s : String) : CpInfo := .utf8 (stringToUtf16 s)
/-- a pool by its gaps: so many unusable entries, then the entry; so many at the end -/
def gap : Nat → List CpInfo → List CpInfo
  | 0, r => r
  | n + 1, r => .unusable :: gap n r
def poolList (es : List (Nat × CpInfo)) (last : Nat) : List CpInfo := es.foldr (fun e r => gap e.1 (e.2 :: r)) (gap last [])
def pool (es : List (Nat × CpInfo)) (last : Nat) : Array CpInfo := ⟨poolList es last⟩
def fileOf (pool : Array CpInfo) (this : Nat) (attrs : Array Attribute := #[]) (ms : Array MethodInfo := #[]) (fl : Nat := 33) (sup : Nat := 0) (ifs : Array Nat := #[]) (fds : Array FieldInfo := #[]) : ClassFile where
  minorVersion := 0
  majorVersion := 65
  constantPool := pool
  accessFlags := fl
  thisClass := this
  superClass := sup
  interfaces := ifs
  fields := fds
  methods := ms
  attributes := attrs
def plain (name : String) (sup : Option ClassId) : Class where
  name := name
  kind := .ordinary
  loader := none
  accessFlags := 33
  super := sup
  interfaces := #[]
  cf := none
  fields := #[]
  methods := #[]
  instanceTypes := #[]
  staticTypes := #[]
  resolved := #[]
  callSites := []
  init := .initialized
  statics := none
  mirror := none

def pool0 : Array CpInfo := pool [(5, u "<init>"), (0, u "()V"), (1, .class_ 10), (1, u "java/lang/Object")] 113

def k0c0 : Code := { maxStack := 0, maxLocals := 1, code := object_method_1_code, exceptionTable := #[], attributes := #[] }
def k0m0 : Method := { name := "<init>", desc := "()V", sig := { parameters := [], returnType := none }, accessFlags := 1, code := some k0c0 }
/-- java/lang/Object -/
def k0 : Class := { plain "java/lang/Object" none with
  accessFlags := 33
  interfaces := #[]
  cf := some (fileOf pool0 8 #[] #[{ accessFlags := 1, nameIndex := 5, descriptorIndex := 6, attributes := #[] }] 33 0 #[] #[])
  fields := #[]
  methods := #[k0m0]
  instanceTypes := #[]
  staticTypes := #[]
  resolved := Array.replicate 124 none
  statics := none }

def pool1 : Array CpInfo := pool [(2, .class_ 4), (1, u "java/lang/Object"), (0, u "<init>"), (0, u "()V"), (0, .integer 2147483647), (0, .methodref 9 10), (0, .class_ 11), (0, .nameAndType 12 13), (0, u "com/example/leastwise/leastwise/provisioning/WordLinesSpacesAlonePinLaw"), (0, u "draw"), (0, u "(I)C"), (0, .methodref 9 15), (0, .nameAndType 16 17), (0, u "make"), (0, u "(ICCCC)Ljava/lang/String;"), (0, .methodref 9 19), (0, .nameAndType 20 21), (0, u "allowed"), (0, u "(C)Z"), (0, .methodref 23 24), (0, .class_ 25), (0, .nameAndType 26 27), (0, u "com/example/leastwise/leastwise/provisioning/WordLines"), (0, u "spacesAlone"), (0, u "(Ljava/lang/String;)Z"), (0, .integer 65536), (0, .integer 65535), (0, .class_ 31), (0, u "java/lang/String"), (0, .methodref 30 33), (0, .nameAndType 5 34), (0, u "([C)V"), (2, u "law"), (0, u "(IIIII)Z")] 3

def k1m0 : Method := { name := "<init>", desc := "()V", sig := { parameters := [], returnType := none }, accessFlags := 2, code := none }
def k1c1 : Code := { maxStack := 5, maxLocals := 12, code := code, exceptionTable := #[], attributes := #[] }
def k1m1 : Method := { name := "law", desc := "(IIIII)Z", sig := { parameters := [.int, .int, .int, .int, .int], returnType := some .boolean }, accessFlags := 9, code := some k1c1 }
def k1c2 : Code := { maxStack := 3, maxLocals := 1, code := method_3_code, exceptionTable := #[], attributes := #[] }
def k1m2 : Method := { name := "draw", desc := "(I)C", sig := { parameters := [.int], returnType := some .char }, accessFlags := 10, code := some k1c2 }
def k1c3 : Code := { maxStack := 2, maxLocals := 1, code := method_4_code, exceptionTable := #[], attributes := #[] }
def k1m3 : Method := { name := "allowed", desc := "(C)Z", sig := { parameters := [.char], returnType := some .boolean }, accessFlags := 10, code := some k1c3 }
def k1c4 : Code := { maxStack := 6, maxLocals := 5, code := method_5_code, exceptionTable := #[], attributes := #[] }
def k1m4 : Method := { name := "make", desc := "(ICCCC)Ljava/lang/String;", sig := { parameters := [.int, .char, .char, .char, .char], returnType := some (.object "java/lang/String") }, accessFlags := 10, code := some k1c4 }
/-- com/example/leastwise/leastwise/provisioning/WordLinesSpacesAlonePinLaw -/
def k1 : Class := { plain "com/example/leastwise/leastwise/provisioning/WordLinesSpacesAlonePinLaw" (some 0) with
  accessFlags := 49
  interfaces := #[]
  cf := some (fileOf pool1 9 #[] #[{ accessFlags := 2, nameIndex := 5, descriptorIndex := 6, attributes := #[] }, { accessFlags := 9, nameIndex := 37, descriptorIndex := 38, attributes := #[] }, { accessFlags := 10, nameIndex := 12, descriptorIndex := 13, attributes := #[] }, { accessFlags := 10, nameIndex := 20, descriptorIndex := 21, attributes := #[] }, { accessFlags := 10, nameIndex := 16, descriptorIndex := 17, attributes := #[] }] 49 2 #[] #[])
  fields := #[]
  methods := #[k1m0, k1m1, k1m2, k1m3, k1m4]
  instanceTypes := #[]
  staticTypes := #[]
  resolved := Array.replicate 42 none
  statics := none }

def pool2 : Array CpInfo := pool [(1, .class_ 2), (0, u "java/io/Serializable"), (0, .class_ 4), (0, u "java/lang/Object")] 2

/-- java/io/Serializable -/
def k2 : Class := { plain "java/io/Serializable" (some 0) with
  accessFlags := 1537
  interfaces := #[]
  cf := some (fileOf pool2 1 #[] #[] 1537 3 #[] #[])
  fields := #[]
  methods := #[]
  instanceTypes := #[]
  staticTypes := #[]
  resolved := Array.replicate 7 none
  statics := none }

def pool3 : Array CpInfo := pool [(1, .class_ 2), (0, u "java/lang/Comparable"), (0, .class_ 4), (0, u "java/lang/Object")] 7

/-- java/lang/Comparable -/
def k3 : Class := { plain "java/lang/Comparable" (some 0) with
  accessFlags := 1537
  interfaces := #[]
  cf := some (fileOf pool3 1 #[] #[] 1537 3 #[] #[])
  fields := #[]
  methods := #[]
  instanceTypes := #[]
  staticTypes := #[]
  resolved := Array.replicate 12 none
  statics := none }

def pool4 : Array CpInfo := pool [(2, .class_ 4), (1, u "java/lang/CharSequence"), (42, .class_ 48), (0, u "java/lang/CharSequence$1CodePointIterator"), (10, .class_ 60), (0, u "java/lang/CharSequence$1CharIterator"), (5, .class_ 67), (0, u "java/lang/Object")] 63

/-- java/lang/CharSequence -/
def k4 : Class := { plain "java/lang/CharSequence" (some 0) with
  accessFlags := 1537
  interfaces := #[]
  cf := some (fileOf pool4 2 #[.nestMembers #[47, 59]] #[] 1537 66 #[] #[])
  fields := #[]
  methods := #[]
  instanceTypes := #[]
  staticTypes := #[]
  resolved := Array.replicate 131 none
  statics := none }

def pool5 : Array CpInfo := pool [(1, .class_ 2), (0, u "java/lang/constant/Constable"), (0, .class_ 4), (0, u "java/lang/Object")] 6

/-- java/lang/constant/Constable -/
def k5 : Class := { plain "java/lang/constant/Constable" (some 0) with
  accessFlags := 1537
  interfaces := #[]
  cf := some (fileOf pool5 1 #[] #[] 1537 3 #[] #[])
  fields := #[]
  methods := #[]
  instanceTypes := #[]
  staticTypes := #[]
  resolved := Array.replicate 11 none
  statics := none }

def pool6 : Array CpInfo := pool [(1, .class_ 2), (0, u "java/lang/constant/ConstantDesc"), (0, .class_ 4), (0, u "java/lang/Object")] 32

/-- java/lang/constant/ConstantDesc -/
def k6 : Class := { plain "java/lang/constant/ConstantDesc" (some 0) with
  accessFlags := 1537
  interfaces := #[]
  cf := some (fileOf pool6 1 #[] #[] 1537 3 #[] #[])
  fields := #[]
  methods := #[]
  instanceTypes := #[]
  staticTypes := #[]
  resolved := Array.replicate 37 none
  statics := none }

def pool7 : Array CpInfo := pool [(1, .methodref 2 3), (0, .class_ 4), (0, .nameAndType 5 6), (0, u "java/lang/Object"), (0, u "<init>"), (0, u "()V"), (0, .string 8), (0, u ""), (0, .fieldref 10 11), (0, .class_ 12), (0, .nameAndType 13 14), (0, u "java/lang/String"), (0, u "value"), (0, u "[B"), (0, .fieldref 10 16), (0, .nameAndType 17 18), (0, u "coder"), (0, u "B"), (2, u "hash"), (0, u "I"), (2, u "hashIsZero"), (0, u "Z"), (0, .methodref 10 28), (0, .nameAndType 5 29), (0, u "([CIILjava/lang/Void;)V"), (8, .fieldref 10 39), (0, .nameAndType 40 26), (0, u "COMPACT_STRINGS"), (1, .class_ 44), (1, u "java/lang/StringUTF16"), (0, u "compress"), (1, .methodref 42 48), (0, .nameAndType 49 50), (0, u "coderFromArrayLen"), (0, u "([BI)B"), (56, .class_ 109), (1, u "java/lang/StringLatin1"), (32, u "()Z"), (34, .methodref 42 178), (0, .nameAndType 45 179), (0, u "([CII)[B"), (154, u "()I"), (0, .methodref 10 336), (0, .nameAndType 17 337), (0, u "()B"), (154, .methodref 10 493), (0, .nameAndType 494 142), (0, u "isLatin1"), (10, .methodref 10 506), (0, .nameAndType 507 334), (0, u "length"), (5, u "checkFromToIndex"), (9, u "checkBoundsBeginEnd"), (0, u "(III)V"), (50, .class_ 576), (0, u "java/lang/CharSequence"), (22, u "CASE_INSENSITIVE_ORDER"), (0, u "Ljava/util/Comparator;"), (32, .methodref 10 634), (0, .nameAndType 635 636), (0, u "indexOf"), (0, u "(II)I"), (0, .methodref 107 638), (0, .nameAndType 635 639), (0, u "([BIII)I"), (0, .methodref 42 638), (124, u "(I)I"), (244, u "([C)V"), (42, .fieldref 1054 1055), (0, .class_ 1056), (0, .nameAndType 1057 1058), (0, u "jdk/internal/util/Preconditions"), (0, u "SIOOBE_FORMATTER"), (0, u "Ljava/util/function/BiFunction;"), (3, .methodref 1054 1063), (0, .nameAndType 513 1064), (0, u "(IIILjava/util/function/BiFunction;)I"), (36, u "serialPersistentFields"), (0, u "[Ljava/io/ObjectStreamField;"), (0, .class_ 1104), (0, u "java/lang/String$CaseInsensitiveComparator"), (1, .class_ 1107), (0, u "java/io/Serializable"), (0, .class_ 1109), (0, u "java/lang/Comparable"), (0, .class_ 1111), (0, u "java/lang/constant/Constable"), (0, .class_ 1113), (0, u "java/lang/constant/ConstantDesc"), (2, u "serialVersionUID"), (0, u "J"), (3, u "REPL"), (0, u "C"), (2, u "LATIN1"), (1, u "UTF16")] 323

def k7m0 : Method := { name := "<init>", desc := "()V", sig := { parameters := [], returnType := none }, accessFlags := 1, code := none }
def k7c1 : Code := { maxStack := 5, maxLocals := 2, code := jdk_42_method_3_code, exceptionTable := #[], attributes := #[] }
def k7m1 : Method := { name := "<init>", desc := "([C)V", sig := { parameters := [(.array .char)], returnType := none }, accessFlags := 1, code := some k7c1 }
def k7c2 : Code := { maxStack := 2, maxLocals := 1, code := jdk_42_method_54_code, exceptionTable := #[], attributes := #[] }
def k7m2 : Method := { name := "length", desc := "()I", sig := { parameters := [], returnType := some .int }, accessFlags := 1, code := some k7c2 }
def k7c3 : Code := { maxStack := 3, maxLocals := 2, code := jdk_42_method_79_code, exceptionTable := #[], attributes := #[] }
def k7m3 : Method := { name := "indexOf", desc := "(I)I", sig := { parameters := [.int], returnType := some .int }, accessFlags := 1, code := some k7c3 }
def k7c4 : Code := { maxStack := 4, maxLocals := 3, code := jdk_42_method_80_code, exceptionTable := #[], attributes := #[] }
def k7m4 : Method := { name := "indexOf", desc := "(II)I", sig := { parameters := [.int, .int], returnType := some .int }, accessFlags := 1, code := some k7c4 }
def k7c5 : Code := { maxStack := 4, maxLocals := 6, code := jdk_42_method_149_code, exceptionTable := #[], attributes := #[] }
def k7m5 : Method := { name := "<init>", desc := "([CIILjava/lang/Void;)V", sig := { parameters := [(.array .char), .int, .int, (.object "java/lang/Void")], returnType := none }, accessFlags := 2, code := some k7c5 }
def k7c6 : Code := { maxStack := 1, maxLocals := 1, code := jdk_42_method_152_code, exceptionTable := #[], attributes := #[] }
def k7m6 : Method := { name := "coder", desc := "()B", sig := { parameters := [], returnType := some .byte }, accessFlags := 0, code := some k7c6 }
def k7c7 : Code := { maxStack := 1, maxLocals := 1, code := jdk_42_method_154_code, exceptionTable := #[], attributes := #[] }
def k7m7 : Method := { name := "isLatin1", desc := "()Z", sig := { parameters := [], returnType := some .boolean }, accessFlags := 0, code := some k7c7 }
def k7c8 : Code := { maxStack := 4, maxLocals := 3, code := jdk_42_method_158_code, exceptionTable := #[], attributes := #[] }
def k7m8 : Method := { name := "checkBoundsBeginEnd", desc := "(III)V", sig := { parameters := [.int, .int, .int], returnType := none }, accessFlags := 8, code := some k7c8 }
/-- java/lang/String -/
def k7 : Class := { plain "java/lang/String" (some 0) with
  accessFlags := 49
  interfaces := #[2, 3, 4, 5, 6]
  cf := some (fileOf pool7 10 #[.nestMembers #[1103]] #[{ accessFlags := 1, nameIndex := 5, descriptorIndex := 6, attributes := #[] }, { accessFlags := 1, nameIndex := 5, descriptorIndex := 1010, attributes := #[] }, { accessFlags := 1, nameIndex := 507, descriptorIndex := 334, attributes := #[] }, { accessFlags := 1, nameIndex := 635, descriptorIndex := 765, attributes := #[] }, { accessFlags := 1, nameIndex := 635, descriptorIndex := 636, attributes := #[] }, { accessFlags := 2, nameIndex := 5, descriptorIndex := 29, attributes := #[] }, { accessFlags := 0, nameIndex := 17, descriptorIndex := 337, attributes := #[] }, { accessFlags := 0, nameIndex := 494, descriptorIndex := 142, attributes := #[] }, { accessFlags := 8, nameIndex := 523, descriptorIndex := 524, attributes := #[] }] 49 2 #[1106, 1108, 575, 1110, 1112] #[{ accessFlags := 18, nameIndex := 13, descriptorIndex := 14, attributes := #[] }, { accessFlags := 18, nameIndex := 17, descriptorIndex := 18, attributes := #[] }, { accessFlags := 2, nameIndex := 21, descriptorIndex := 22, attributes := #[] }, { accessFlags := 2, nameIndex := 25, descriptorIndex := 26, attributes := #[] }, { accessFlags := 26, nameIndex := 1116, descriptorIndex := 1117, attributes := #[] }, { accessFlags := 24, nameIndex := 40, descriptorIndex := 26, attributes := #[] }, { accessFlags := 26, nameIndex := 1101, descriptorIndex := 1102, attributes := #[] }, { accessFlags := 26, nameIndex := 1121, descriptorIndex := 1122, attributes := #[] }, { accessFlags := 25, nameIndex := 599, descriptorIndex := 600, attributes := #[] }, { accessFlags := 24, nameIndex := 1125, descriptorIndex := 18, attributes := #[] }, { accessFlags := 24, nameIndex := 1127, descriptorIndex := 18, attributes := #[] }])
  fields := #[{ name := "value", type := (.array .byte), accessFlags := 18, slot := 0, constantValue := 0 }, { name := "coder", type := .byte, accessFlags := 18, slot := 1, constantValue := 0 }, { name := "hash", type := .int, accessFlags := 2, slot := 2, constantValue := 0 }, { name := "hashIsZero", type := .boolean, accessFlags := 2, slot := 3, constantValue := 0 }, { name := "serialVersionUID", type := .long, accessFlags := 26, slot := 0, constantValue := 0 }, { name := "COMPACT_STRINGS", type := .boolean, accessFlags := 24, slot := 1, constantValue := 0 }, { name := "serialPersistentFields", type := (.array (.object "java/io/ObjectStreamField")), accessFlags := 26, slot := 2, constantValue := 0 }, { name := "REPL", type := .char, accessFlags := 26, slot := 3, constantValue := 0 }, { name := "CASE_INSENSITIVE_ORDER", type := (.object "java/util/Comparator"), accessFlags := 25, slot := 4, constantValue := 0 }, { name := "LATIN1", type := .byte, accessFlags := 24, slot := 5, constantValue := 0 }, { name := "UTF16", type := .byte, accessFlags := 24, slot := 6, constantValue := 0 }]
  methods := #[k7m0, k7m1, k7m2, k7m3, k7m4, k7m5, k7m6, k7m7, k7m8]
  instanceTypes := #[(.array .byte), .byte, .int, .boolean]
  staticTypes := #[.long, .boolean, (.array (.object "java/io/ObjectStreamField")), .char, (.object "java/util/Comparator"), .byte, .byte]
  resolved := Array.replicate 1451 none
  statics := some 0 }

def pool8 : Array CpInfo := pool [(2, .class_ 4), (1, u "java/lang/Object"), (3, .class_ 10), (1, u "com/example/leastwise/leastwise/provisioning/WordLines"), (0, u "text"), (0, u "Ljava/lang/String;"), (2, u "lineOf"), (0, u "Ljava/util/function/IntUnaryOperator;"), (0, .methodref 18 19), (0, .class_ 20), (0, .nameAndType 21 22), (0, u "java/lang/String"), (0, u "indexOf"), (0, u "(I)I"), (2, u "carriageReturn"), (0, u "I"), (8, u "next"), (11, .class_ 48), (0, u "com/example/leastwise/leastwise/provisioning/WordLines$Line"), (2, u "number"), (2, u "start"), (2, u "end"), (28, u "index"), (41, .class_ 129), (0, u "com/example/leastwise/leastwise/provisioning/WordLines$WholeFile"), (3, u "WHOLE_FILE"), (10, u "spacesAlone"), (0, u "(Ljava/lang/String;)Z")] 13

def k8c0 : Code := { maxStack := 2, maxLocals := 1, code := prog_113_method_12_code, exceptionTable := #[], attributes := #[] }
def k8m0 : Method := { name := "spacesAlone", desc := "(Ljava/lang/String;)Z", sig := { parameters := [(.object "java/lang/String")], returnType := some .boolean }, accessFlags := 8, code := some k8c0 }
/-- com/example/leastwise/leastwise/provisioning/WordLines -/
def k8 : Class := { plain "com/example/leastwise/leastwise/provisioning/WordLines" (some 0) with
  accessFlags := 48
  interfaces := #[]
  cf := some (fileOf pool8 8 #[.nestMembers #[47, 128]] #[{ accessFlags := 8, nameIndex := 144, descriptorIndex := 145, attributes := #[] }] 48 2 #[] #[{ accessFlags := 24, nameIndex := 133, descriptorIndex := 16, attributes := #[] }, { accessFlags := 18, nameIndex := 11, descriptorIndex := 12, attributes := #[] }, { accessFlags := 18, nameIndex := 15, descriptorIndex := 16, attributes := #[] }, { accessFlags := 2, nameIndex := 35, descriptorIndex := 26, attributes := #[] }, { accessFlags := 2, nameIndex := 86, descriptorIndex := 26, attributes := #[] }, { accessFlags := 2, nameIndex := 25, descriptorIndex := 26, attributes := #[] }, { accessFlags := 2, nameIndex := 54, descriptorIndex := 26, attributes := #[] }, { accessFlags := 2, nameIndex := 57, descriptorIndex := 26, attributes := #[] }, { accessFlags := 2, nameIndex := 51, descriptorIndex := 26, attributes := #[] }])
  fields := #[{ name := "WHOLE_FILE", type := (.object "java/util/function/IntUnaryOperator"), accessFlags := 24, slot := 0, constantValue := 0 }, { name := "text", type := (.object "java/lang/String"), accessFlags := 18, slot := 0, constantValue := 0 }, { name := "lineOf", type := (.object "java/util/function/IntUnaryOperator"), accessFlags := 18, slot := 1, constantValue := 0 }, { name := "next", type := .int, accessFlags := 2, slot := 2, constantValue := 0 }, { name := "index", type := .int, accessFlags := 2, slot := 3, constantValue := 0 }, { name := "carriageReturn", type := .int, accessFlags := 2, slot := 4, constantValue := 0 }, { name := "start", type := .int, accessFlags := 2, slot := 5, constantValue := 0 }, { name := "end", type := .int, accessFlags := 2, slot := 6, constantValue := 0 }, { name := "number", type := .int, accessFlags := 2, slot := 7, constantValue := 0 }]
  methods := #[k8m0]
  instanceTypes := #[(.object "java/lang/String"), (.object "java/util/function/IntUnaryOperator"), .int, .int, .int, .int, .int, .int]
  staticTypes := #[(.object "java/util/function/IntUnaryOperator")]
  resolved := Array.replicate 159 none
  statics := none }

def pool9 : Array CpInfo := pool [(4, .class_ 6), (1, u "java/lang/Object"), (0, u "<init>"), (0, u "()V"), (5, .class_ 16), (1, u "java/lang/StringLatin1"), (21, .methodref 39 40), (0, .class_ 41), (0, .nameAndType 42 43), (0, u "java/lang/Math"), (0, u "min"), (0, u "(II)I"), (44, .methodref 14 89), (0, .nameAndType 90 91), (0, u "canEncode"), (0, u "(I)Z"), (0, .methodref 39 93), (0, .nameAndType 94 43), (0, u "max"), (0, .methodref 14 96), (0, .nameAndType 97 98), (0, u "indexOfChar"), (0, u "([BIII)I"), (2, u "indexOf"), (19, u "$assertionsDisabled"), (0, u "Z"), (98, .class_ 223), (1, u "java/lang/StringLatin1$LinesSpliterator"), (166, .class_ 391), (0, u "java/lang/StringLatin1$CharsSpliterator")] 3

def k9m0 : Method := { name := "<init>", desc := "()V", sig := { parameters := [], returnType := none }, accessFlags := 0, code := none }
def k9c1 : Code := { maxStack := 2, maxLocals := 1, code := jdk_43_method_4_code, exceptionTable := #[], attributes := #[] }
def k9m1 : Method := { name := "canEncode", desc := "(I)Z", sig := { parameters := [.int], returnType := some .boolean }, accessFlags := 9, code := some k9c1 }
def k9c2 : Code := { maxStack := 4, maxLocals := 4, code := jdk_43_method_22_code, exceptionTable := #[], attributes := #[] }
def k9m2 : Method := { name := "indexOf", desc := "([BIII)I", sig := { parameters := [(.array .byte), .int, .int, .int], returnType := some .int }, accessFlags := 9, code := some k9c2 }
def k9c3 : Code := { maxStack := 2, maxLocals := 6, code := jdk_43_method_23_code, exceptionTable := #[], attributes := #[] }
def k9m3 : Method := { name := "indexOfChar", desc := "([BIII)I", sig := { parameters := [(.array .byte), .int, .int, .int], returnType := some .int }, accessFlags := 10, code := some k9c3 }
/-- java/lang/StringLatin1 -/
def k9 : Class := { plain "java/lang/StringLatin1" (some 0) with
  accessFlags := 48
  interfaces := #[]
  cf := some (fileOf pool9 14 #[.nestMembers #[390, 221]] #[{ accessFlags := 0, nameIndex := 7, descriptorIndex := 8, attributes := #[] }, { accessFlags := 9, nameIndex := 90, descriptorIndex := 91, attributes := #[] }, { accessFlags := 9, nameIndex := 101, descriptorIndex := 98, attributes := #[] }, { accessFlags := 10, nameIndex := 97, descriptorIndex := 98, attributes := #[] }] 48 4 #[] #[{ accessFlags := 4120, nameIndex := 121, descriptorIndex := 122, attributes := #[] }])
  fields := #[{ name := "$assertionsDisabled", type := .boolean, accessFlags := 4120, slot := 0, constantValue := 0 }]
  methods := #[k9m0, k9m1, k9m2, k9m3]
  instanceTypes := #[]
  staticTypes := #[.boolean]
  resolved := Array.replicate 395 none
  statics := none }

def pool10 : Array CpInfo := pool [(1, .class_ 2), (0, u "java/lang/Math"), (1, .class_ 6), (1, u "java/lang/Object"), (0, u "<init>"), (0, u "()V"), (89, .class_ 100), (1, u "java/lang/Math$RandomNumberGeneratorHolder"), (71, u "negativeZeroFloatBits"), (0, u "J"), (2, u "negativeZeroDoubleBits"), (21, u "max"), (2, u "min"), (43, u "$assertionsDisabled"), (0, u "Z"), (88, u "(II)I"), (2, u "twoToTheDoubleScaleDown"), (0, u "D"), (4, u "twoToTheDoubleScaleUp"), (9, u "E"), (3, u "PI"), (2, u "TAU"), (2, u "DEGREES_TO_RADIANS"), (0, u "RADIANS_TO_DEGREES")] 94

def k10m0 : Method := { name := "<init>", desc := "()V", sig := { parameters := [], returnType := none }, accessFlags := 2, code := none }
def k10c1 : Code := { maxStack := 2, maxLocals := 2, code := jdk_29_method_65_code, exceptionTable := #[], attributes := #[] }
def k10m1 : Method := { name := "max", desc := "(II)I", sig := { parameters := [.int, .int], returnType := some .int }, accessFlags := 9, code := some k10c1 }
def k10c2 : Code := { maxStack := 2, maxLocals := 2, code := jdk_29_method_69_code, exceptionTable := #[], attributes := #[] }
def k10m2 : Method := { name := "min", desc := "(II)I", sig := { parameters := [.int, .int], returnType := some .int }, accessFlags := 9, code := some k10c2 }
/-- java/lang/Math -/
def k10 : Class := { plain "java/lang/Math" (some 0) with
  accessFlags := 49
  interfaces := #[]
  cf := some (fileOf pool10 1 #[.nestMembers #[98]] #[{ accessFlags := 2, nameIndex := 7, descriptorIndex := 8, attributes := #[] }, { accessFlags := 9, nameIndex := 198, descriptorIndex := 335, attributes := #[] }, { accessFlags := 9, nameIndex := 201, descriptorIndex := 335, attributes := #[] }] 49 4 #[] #[{ accessFlags := 25, nameIndex := 354, descriptorIndex := 339, attributes := #[] }, { accessFlags := 25, nameIndex := 358, descriptorIndex := 339, attributes := #[] }, { accessFlags := 25, nameIndex := 361, descriptorIndex := 339, attributes := #[] }, { accessFlags := 26, nameIndex := 364, descriptorIndex := 339, attributes := #[] }, { accessFlags := 26, nameIndex := 365, descriptorIndex := 339, attributes := #[] }, { accessFlags := 26, nameIndex := 172, descriptorIndex := 173, attributes := #[] }, { accessFlags := 26, nameIndex := 176, descriptorIndex := 173, attributes := #[] }, { accessFlags := 8, nameIndex := 344, descriptorIndex := 339, attributes := #[] }, { accessFlags := 8, nameIndex := 338, descriptorIndex := 339, attributes := #[] }, { accessFlags := 4120, nameIndex := 245, descriptorIndex := 246, attributes := #[] }])
  fields := #[{ name := "E", type := .double, accessFlags := 25, slot := 0, constantValue := 0 }, { name := "PI", type := .double, accessFlags := 25, slot := 1, constantValue := 0 }, { name := "TAU", type := .double, accessFlags := 25, slot := 2, constantValue := 0 }, { name := "DEGREES_TO_RADIANS", type := .double, accessFlags := 26, slot := 3, constantValue := 0 }, { name := "RADIANS_TO_DEGREES", type := .double, accessFlags := 26, slot := 4, constantValue := 0 }, { name := "negativeZeroFloatBits", type := .long, accessFlags := 26, slot := 5, constantValue := 0 }, { name := "negativeZeroDoubleBits", type := .long, accessFlags := 26, slot := 6, constantValue := 0 }, { name := "twoToTheDoubleScaleUp", type := .double, accessFlags := 8, slot := 7, constantValue := 0 }, { name := "twoToTheDoubleScaleDown", type := .double, accessFlags := 8, slot := 8, constantValue := 0 }, { name := "$assertionsDisabled", type := .boolean, accessFlags := 4120, slot := 9, constantValue := 0 }]
  methods := #[k10m0, k10m1, k10m2]
  instanceTypes := #[]
  staticTypes := #[.double, .double, .double, .double, .double, .long, .long, .double, .double, .boolean]
  resolved := Array.replicate 460 none
  statics := none }

def pool11 : Array CpInfo := pool [(3, .class_ 4), (0, u "java/lang/String"), (1, .class_ 8), (1, u "java/lang/Object"), (0, u "<init>"), (0, u "()V"), (0, .methodref 12 13), (0, .class_ 14), (0, .nameAndType 15 16), (0, u "java/lang/StringUTF16"), (0, u "newBytesLength"), (0, u "(I)I"), (3, .integer 1073741823), (23, .fieldref 12 45), (0, .nameAndType 46 47), (0, u "$assertionsDisabled"), (0, u "Z"), (0, .methodref 12 49), (0, .nameAndType 50 51), (0, u "length"), (0, u "([B)I"), (7, .fieldref 12 60), (0, .nameAndType 61 62), (0, u "HI_BYTE_SHIFT"), (0, u "I"), (0, .fieldref 12 64), (0, .nameAndType 65 62), (0, u "LO_BYTE_SHIFT"), (5, .methodref 12 72), (0, .nameAndType 73 74), (0, u "getChar"), (0, u "([BI)C"), (21, .methodref 12 97), (0, .nameAndType 98 99), (0, u "checkBoundsBeginEnd"), (0, u "(II[B)V"), (7, .methodref 12 108), (0, .nameAndType 109 110), (0, u "newBytesFor"), (0, u "(I)[B"), (0, .methodref 12 112), (0, .nameAndType 113 114), (0, u "putChar"), (0, u "([BII)V"), (0, .methodref 12 116), (0, .nameAndType 117 118), (0, u "compress"), (0, u "([CI[BII)I"), (0, .methodref 12 120), (0, .nameAndType 121 122), (0, u "toBytes"), (0, u "([CII)[B"), (60, .methodref 184 185), (0, .class_ 186), (0, .nameAndType 187 188), (0, u "java/lang/Math"), (0, u "min"), (0, u "(II)I"), (35, .methodref 184 225), (0, .nameAndType 226 188), (0, u "max"), (0, .integer 65536), (0, .methodref 12 229), (0, .nameAndType 230 231), (0, u "indexOfChar"), (0, u "([BIII)I"), (9, .methodref 3 242), (0, .nameAndType 98 243), (0, u "(III)V"), (0, .methodref 12 245), (0, .nameAndType 246 231), (0, u "indexOfCharUnsafe"), (14, u "coderFromArrayLen"), (0, u "([BI)B"), (5, u "indexOf"), (100, .class_ 371), (1, u "java/lang/StringUTF16$LinesSpliterator"), (58, u "MAX_LENGTH"), (196, .class_ 628), (0, u "java/lang/StringUTF16$CodePointsSpliterator"), (0, .class_ 630), (0, u "java/lang/StringUTF16$CharsSpliterator")] 4

def k11m0 : Method := { name := "<init>", desc := "()V", sig := { parameters := [], returnType := none }, accessFlags := 0, code := none }
def k11c1 : Code := { maxStack := 1, maxLocals := 1, code := jdk_52_method_2_code, exceptionTable := #[], attributes := #[] }
def k11m1 : Method := { name := "newBytesFor", desc := "(I)[B", sig := { parameters := [.int], returnType := some (.array .byte) }, accessFlags := 9, code := some k11c1 }
def k11c2 : Code := { maxStack := 4, maxLocals := 1, code := jdk_52_method_3_code, exceptionTable := #[], attributes := #[] }
def k11m2 : Method := { name := "newBytesLength", desc := "(I)I", sig := { parameters := [.int], returnType := some .int }, accessFlags := 9, code := some k11c2 }
def k11c3 : Code := { maxStack := 4, maxLocals := 3, code := jdk_52_method_4_code, exceptionTable := #[], attributes := #[] }
def k11m3 : Method := { name := "putChar", desc := "([BII)V", sig := { parameters := [(.array .byte), .int, .int], returnType := none }, accessFlags := 8, code := some k11c3 }
def k11c4 : Code := { maxStack := 3, maxLocals := 2, code := jdk_52_method_5_code, exceptionTable := #[], attributes := #[] }
def k11m4 : Method := { name := "getChar", desc := "([BI)C", sig := { parameters := [(.array .byte), .int], returnType := some .char }, accessFlags := 8, code := some k11c4 }
def k11c5 : Code := { maxStack := 2, maxLocals := 1, code := jdk_52_method_6_code, exceptionTable := #[], attributes := #[] }
def k11m5 : Method := { name := "length", desc := "([B)I", sig := { parameters := [(.array .byte)], returnType := some .int }, accessFlags := 9, code := some k11c5 }
def k11c6 : Code := { maxStack := 4, maxLocals := 5, code := jdk_52_method_14_code, exceptionTable := #[], attributes := #[] }
def k11m6 : Method := { name := "toBytes", desc := "([CII)[B", sig := { parameters := [(.array .char), .int, .int], returnType := some (.array .byte) }, accessFlags := 9, code := some k11c6 }
def k11c7 : Code := { maxStack := 2, maxLocals := 2, code := jdk_52_method_15_code, exceptionTable := #[], attributes := #[] }
def k11m7 : Method := { name := "coderFromArrayLen", desc := "([BI)B", sig := { parameters := [(.array .byte), .int], returnType := some .byte }, accessFlags := 8, code := some k11c7 }
def k11c8 : Code := { maxStack := 5, maxLocals := 6, code := jdk_52_method_16_code, exceptionTable := #[], attributes := #[] }
def k11m8 : Method := { name := "compress", desc := "([CII)[B", sig := { parameters := [(.array .char), .int, .int], returnType := some (.array .byte) }, accessFlags := 9, code := some k11c8 }
def k11c9 : Code := { maxStack := 3, maxLocals := 7, code := jdk_52_method_21_code, exceptionTable := #[], attributes := #[] }
def k11m9 : Method := { name := "compress", desc := "([CI[BII)I", sig := { parameters := [(.array .char), .int, (.array .byte), .int, .int], returnType := some .int }, accessFlags := 9, code := some k11c9 }
def k11c10 : Code := { maxStack := 4, maxLocals := 4, code := jdk_52_method_40_code, exceptionTable := #[], attributes := #[] }
def k11m10 : Method := { name := "indexOf", desc := "([BIII)I", sig := { parameters := [(.array .byte), .int, .int, .int], returnType := some .int }, accessFlags := 9, code := some k11c10 }
def k11c11 : Code := { maxStack := 4, maxLocals := 4, code := jdk_52_method_47_code, exceptionTable := #[], attributes := #[] }
def k11m11 : Method := { name := "indexOfChar", desc := "([BIII)I", sig := { parameters := [(.array .byte), .int, .int, .int], returnType := some .int }, accessFlags := 10, code := some k11c11 }
def k11c12 : Code := { maxStack := 2, maxLocals := 5, code := jdk_52_method_48_code, exceptionTable := #[], attributes := #[] }
def k11m12 : Method := { name := "indexOfCharUnsafe", desc := "([BIII)I", sig := { parameters := [(.array .byte), .int, .int, .int], returnType := some .int }, accessFlags := 10, code := some k11c12 }
def k11c13 : Code := { maxStack := 3, maxLocals := 3, code := jdk_52_method_93_code, exceptionTable := #[], attributes := #[] }
def k11m13 : Method := { name := "checkBoundsBeginEnd", desc := "(II[B)V", sig := { parameters := [.int, .int, (.array .byte)], returnType := none }, accessFlags := 9, code := some k11c13 }
/-- java/lang/StringUTF16 -/
def k11 : Class := { plain "java/lang/StringUTF16" (some 0) with
  accessFlags := 48
  interfaces := #[]
  cf := some (fileOf pool11 12 #[.nestMembers #[627, 629, 369]] #[{ accessFlags := 0, nameIndex := 9, descriptorIndex := 10, attributes := #[] }, { accessFlags := 9, nameIndex := 109, descriptorIndex := 110, attributes := #[] }, { accessFlags := 9, nameIndex := 15, descriptorIndex := 16, attributes := #[] }, { accessFlags := 8, nameIndex := 113, descriptorIndex := 114, attributes := #[] }, { accessFlags := 8, nameIndex := 73, descriptorIndex := 74, attributes := #[] }, { accessFlags := 9, nameIndex := 50, descriptorIndex := 51, attributes := #[] }, { accessFlags := 9, nameIndex := 121, descriptorIndex := 122, attributes := #[] }, { accessFlags := 8, nameIndex := 261, descriptorIndex := 262, attributes := #[] }, { accessFlags := 9, nameIndex := 117, descriptorIndex := 122, attributes := #[] }, { accessFlags := 9, nameIndex := 117, descriptorIndex := 118, attributes := #[] }, { accessFlags := 9, nameIndex := 268, descriptorIndex := 231, attributes := #[] }, { accessFlags := 10, nameIndex := 230, descriptorIndex := 231, attributes := #[] }, { accessFlags := 10, nameIndex := 246, descriptorIndex := 231, attributes := #[] }, { accessFlags := 9, nameIndex := 98, descriptorIndex := 99, attributes := #[] }] 48 6 #[] #[{ accessFlags := 26, nameIndex := 61, descriptorIndex := 62, attributes := #[] }, { accessFlags := 26, nameIndex := 65, descriptorIndex := 62, attributes := #[] }, { accessFlags := 24, nameIndex := 430, descriptorIndex := 62, attributes := #[] }, { accessFlags := 4120, nameIndex := 46, descriptorIndex := 47, attributes := #[] }])
  fields := #[{ name := "HI_BYTE_SHIFT", type := .int, accessFlags := 26, slot := 0, constantValue := 0 }, { name := "LO_BYTE_SHIFT", type := .int, accessFlags := 26, slot := 1, constantValue := 0 }, { name := "MAX_LENGTH", type := .int, accessFlags := 24, slot := 2, constantValue := 0 }, { name := "$assertionsDisabled", type := .boolean, accessFlags := 4120, slot := 3, constantValue := 0 }]
  methods := #[k11m0, k11m1, k11m2, k11m3, k11m4, k11m5, k11m6, k11m7, k11m8, k11m9, k11m10, k11m11, k11m12, k11m13]
  instanceTypes := #[]
  staticTypes := #[.int, .int, .int, .boolean]
  resolved := Array.replicate 635 none
  statics := some 1 }

def pool12 : Array CpInfo := pool [(2, .class_ 4), (1, u "java/lang/Object"), (0, u "<init>"), (0, u "()V"), (17, .class_ 26), (1, u "jdk/internal/util/Preconditions"), (20, u "checkFromToIndex"), (7, .class_ 56), (0, u "jdk/internal/util/Preconditions$4"), (57, .class_ 115), (0, u "jdk/internal/util/Preconditions$1"), (7, u "SIOOBE_FORMATTER"), (0, u "Ljava/util/function/BiFunction;"), (0, .class_ 126), (0, u "jdk/internal/util/Preconditions$2"), (3, u "AIOOBE_FORMATTER"), (0, .class_ 132), (0, u "jdk/internal/util/Preconditions$3"), (3, u "IOOBE_FORMATTER"), (46, u "(IIILjava/util/function/BiFunction;)I")] 10

def k12m0 : Method := { name := "<init>", desc := "()V", sig := { parameters := [], returnType := none }, accessFlags := 1, code := none }
def k12c1 : Code := { maxStack := 4, maxLocals := 4, code := jdk_41_method_12_code, exceptionTable := #[], attributes := #[] }
def k12m1 : Method := { name := "checkFromToIndex", desc := "(IIILjava/util/function/BiFunction;)I", sig := { parameters := [.int, .int, .int, (.object "java/util/function/BiFunction")], returnType := some .int }, accessFlags := 9, code := some k12c1 }
/-- jdk/internal/util/Preconditions -/
def k12 : Class := { plain "jdk/internal/util/Preconditions" (some 0) with
  accessFlags := 33
  interfaces := #[]
  cf := some (fileOf pool12 24 #[.nestMembers #[55, 131, 125, 114]] #[{ accessFlags := 1, nameIndex := 5, descriptorIndex := 6, attributes := #[] }, { accessFlags := 9, nameIndex := 47, descriptorIndex := 183, attributes := #[] }] 33 2 #[] #[{ accessFlags := 25, nameIndex := 123, descriptorIndex := 124, attributes := #[] }, { accessFlags := 25, nameIndex := 130, descriptorIndex := 124, attributes := #[] }, { accessFlags := 25, nameIndex := 136, descriptorIndex := 124, attributes := #[] }])
  fields := #[{ name := "SIOOBE_FORMATTER", type := (.object "java/util/function/BiFunction"), accessFlags := 25, slot := 0, constantValue := 0 }, { name := "AIOOBE_FORMATTER", type := (.object "java/util/function/BiFunction"), accessFlags := 25, slot := 1, constantValue := 0 }, { name := "IOOBE_FORMATTER", type := (.object "java/util/function/BiFunction"), accessFlags := 25, slot := 2, constantValue := 0 }]
  methods := #[k12m0, k12m1]
  instanceTypes := #[]
  staticTypes := #[(.object "java/util/function/BiFunction"), (.object "java/util/function/BiFunction"), (.object "java/util/function/BiFunction")]
  resolved := Array.replicate 194 none
  statics := some 2 }

def pool13 : Array CpInfo := pool [(9, u "<init>"), (6, .class_ 18), (1, u "java/lang/Object"), (0, u "()V"), (1, .class_ 23), (1, u "jdk/internal/util/ArraysSupport"), (0, u "LOG2_ARRAY_LONG_INDEX_SCALE"), (0, u "I"), (2, u "U"), (0, u "Ljdk/internal/misc/Unsafe;"), (8, u "BIG_ENDIAN"), (0, u "Z"), (8, u "LOG2_BYTE_BIT_SIZE"), (4, u "LOG2_ARRAY_INT_INDEX_SCALE"), (54, u "JLA"), (0, u "Ljdk/internal/access/JavaLangAccess;"), (11, u "LOG2_ARRAY_BOOLEAN_INDEX_SCALE"), (9, u "LOG2_ARRAY_BYTE_INDEX_SCALE"), (5, u "LOG2_ARRAY_CHAR_INDEX_SCALE"), (5, u "LOG2_ARRAY_SHORT_INDEX_SCALE"), (18, u "LOG2_ARRAY_FLOAT_INDEX_SCALE"), (24, u "LOG2_ARRAY_DOUBLE_INDEX_SCALE"), (89, u "T_BOOLEAN"), (2, u "T_CHAR"), (1, u "T_FLOAT"), (1, u "T_DOUBLE"), (1, u "T_BYTE"), (1, u "T_SHORT"), (1, u "T_INT"), (1, u "T_LONG"), (1, u "SOFT_MAX_ARRAY_LENGTH")] 83

def k13m0 : Method := { name := "<init>", desc := "()V", sig := { parameters := [], returnType := none }, accessFlags := 2, code := none }
/-- jdk/internal/util/ArraysSupport -/
def k13 : Class := { plain "jdk/internal/util/ArraysSupport" (some 0) with
  accessFlags := 33
  interfaces := #[]
  cf := some (fileOf pool13 21 #[] #[{ accessFlags := 2, nameIndex := 9, descriptorIndex := 19, attributes := #[] }] 33 16 #[] #[{ accessFlags := 24, nameIndex := 28, descriptorIndex := 29, attributes := #[] }, { accessFlags := 26, nameIndex := 38, descriptorIndex := 39, attributes := #[] }, { accessFlags := 25, nameIndex := 121, descriptorIndex := 25, attributes := #[] }, { accessFlags := 25, nameIndex := 131, descriptorIndex := 25, attributes := #[] }, { accessFlags := 25, nameIndex := 137, descriptorIndex := 25, attributes := #[] }, { accessFlags := 25, nameIndex := 143, descriptorIndex := 25, attributes := #[] }, { accessFlags := 25, nameIndex := 53, descriptorIndex := 25, attributes := #[] }, { accessFlags := 25, nameIndex := 24, descriptorIndex := 25, attributes := #[] }, { accessFlags := 25, nameIndex := 162, descriptorIndex := 25, attributes := #[] }, { accessFlags := 25, nameIndex := 187, descriptorIndex := 25, attributes := #[] }, { accessFlags := 26, nameIndex := 48, descriptorIndex := 25, attributes := #[] }, { accessFlags := 25, nameIndex := 277, descriptorIndex := 25, attributes := #[] }, { accessFlags := 25, nameIndex := 280, descriptorIndex := 25, attributes := #[] }, { accessFlags := 25, nameIndex := 282, descriptorIndex := 25, attributes := #[] }, { accessFlags := 25, nameIndex := 284, descriptorIndex := 25, attributes := #[] }, { accessFlags := 25, nameIndex := 286, descriptorIndex := 25, attributes := #[] }, { accessFlags := 25, nameIndex := 288, descriptorIndex := 25, attributes := #[] }, { accessFlags := 25, nameIndex := 290, descriptorIndex := 25, attributes := #[] }, { accessFlags := 25, nameIndex := 292, descriptorIndex := 25, attributes := #[] }, { accessFlags := 26, nameIndex := 108, descriptorIndex := 109, attributes := #[] }, { accessFlags := 25, nameIndex := 294, descriptorIndex := 25, attributes := #[] }])
  fields := #[{ name := "U", type := (.object "jdk/internal/misc/Unsafe"), accessFlags := 24, slot := 0, constantValue := 0 }, { name := "BIG_ENDIAN", type := .boolean, accessFlags := 26, slot := 1, constantValue := 0 }, { name := "LOG2_ARRAY_BOOLEAN_INDEX_SCALE", type := .int, accessFlags := 25, slot := 2, constantValue := 0 }, { name := "LOG2_ARRAY_BYTE_INDEX_SCALE", type := .int, accessFlags := 25, slot := 3, constantValue := 0 }, { name := "LOG2_ARRAY_CHAR_INDEX_SCALE", type := .int, accessFlags := 25, slot := 4, constantValue := 0 }, { name := "LOG2_ARRAY_SHORT_INDEX_SCALE", type := .int, accessFlags := 25, slot := 5, constantValue := 0 }, { name := "LOG2_ARRAY_INT_INDEX_SCALE", type := .int, accessFlags := 25, slot := 6, constantValue := 0 }, { name := "LOG2_ARRAY_LONG_INDEX_SCALE", type := .int, accessFlags := 25, slot := 7, constantValue := 0 }, { name := "LOG2_ARRAY_FLOAT_INDEX_SCALE", type := .int, accessFlags := 25, slot := 8, constantValue := 0 }, { name := "LOG2_ARRAY_DOUBLE_INDEX_SCALE", type := .int, accessFlags := 25, slot := 9, constantValue := 0 }, { name := "LOG2_BYTE_BIT_SIZE", type := .int, accessFlags := 26, slot := 10, constantValue := 0 }, { name := "T_BOOLEAN", type := .int, accessFlags := 25, slot := 11, constantValue := 0 }, { name := "T_CHAR", type := .int, accessFlags := 25, slot := 12, constantValue := 0 }, { name := "T_FLOAT", type := .int, accessFlags := 25, slot := 13, constantValue := 0 }, { name := "T_DOUBLE", type := .int, accessFlags := 25, slot := 14, constantValue := 0 }, { name := "T_BYTE", type := .int, accessFlags := 25, slot := 15, constantValue := 0 }, { name := "T_SHORT", type := .int, accessFlags := 25, slot := 16, constantValue := 0 }, { name := "T_INT", type := .int, accessFlags := 25, slot := 17, constantValue := 0 }, { name := "T_LONG", type := .int, accessFlags := 25, slot := 18, constantValue := 0 }, { name := "JLA", type := (.object "jdk/internal/access/JavaLangAccess"), accessFlags := 26, slot := 19, constantValue := 0 }, { name := "SOFT_MAX_ARRAY_LENGTH", type := .int, accessFlags := 25, slot := 20, constantValue := 0 }]
  methods := #[k13m0]
  instanceTypes := #[]
  staticTypes := #[(.object "jdk/internal/misc/Unsafe"), .boolean, .int, .int, .int, .int, .int, .int, .int, .int, .int, .int, .int, .int, .int, .int, .int, .int, .int, (.object "jdk/internal/access/JavaLangAccess"), .int]
  resolved := Array.replicate 378 none
  statics := none }

def pool14 : Array CpInfo := pool [(1, u "java/lang/Cloneable"), (0, .class_ 1), (0, u "java/lang/Object"), (0, .class_ 3)] 3

/-- java/lang/Cloneable -/
def k14 : Class := { plain "java/lang/Cloneable" (some 0) with
  accessFlags := 1537
  interfaces := #[]
  cf := some (fileOf pool14 2 #[] #[] 1537 4 #[] #[])
  fields := #[]
  methods := #[]
  instanceTypes := #[]
  staticTypes := #[]
  resolved := Array.replicate 8 none
  statics := none }

/-- the primitive byte -/
def k15 : Class := { plain "byte" none with kind := .primitive 'B', accessFlags := 0x411 }
/-- [B -/
def k16 : Class := { plain "[B" (some 0) with kind := .array 15 .byte, interfaces := #[14, 2], accessFlags := 1041 }

/-- the primitive char -/
def k17 : Class := { plain "char" none with kind := .primitive 'C', accessFlags := 0x411 }
/-- [C -/
def k18 : Class := { plain "[C" (some 0) with kind := .array 17 .char, interfaces := #[14, 2], accessFlags := 1041 }

/-- the primitive int -/
def k19 : Class := { plain "int" none with kind := .primitive 'I', accessFlags := 0x411 }
/-- [I -/
def k20 : Class := { plain "[I" (some 0) with kind := .array 19 .int, interfaces := #[14, 2], accessFlags := 1041 }

def heap : Heap := #[{ cls := 7, slots := #[.long 0, .int 1, .null, .int 0, .null, .int 0, .int 0], vm := .statics 7 },
  { cls := 11, slots := #[.int 0, .int 8, .int 0, .int 1], vm := .statics 11 },
  { cls := 12, slots := #[.null, .null, .null], vm := .statics 12 }]
def classes : Array Class := #[k0, k1, k2, k3, k4, k5, k6, k7, k8, k9, k10, k11, k12, k13, k14, k15, k16, k17, k18, k19, k20]
def interned : List (Array UInt16 × Addr) := []
def slotsUsed : Nat := 14
def theMethod : MethodId := ⟨1, 1⟩
def args0 : Array Value := #[.int 5, .int 7, .int 5, .int 7, .int 9]
def aboutOver (below : List Frame) : State where
  vm := { classes := classes, interned := interned.toArray }
  heap := heap
  slotsUsed := slotsUsed
  threads := #[{ frames := .invoking theMethod args0 :: below }]
def below0 : List Frame := [.native { method := ⟨0, 0⟩, args := #[] }]
def about1 : State := aboutOver below0
def p0 : Program := .bare "" "" ""
def e0 : Env := launch0.env 0 0 0
theorem w_frames : about1.frames = Frame.invoking theMethod args0 :: below0 := rfl
set_option maxRecDepth 65536 in
theorem w_args : argsFit about1.vm theMethod args0 = true := by decide +kernel
set_option maxRecDepth 65536 in
theorem w_heap : heapFits about1 = true := by decide +kernel
set_option maxRecDepth 65536 in
theorem w_runnable : about1.curStatus? = some .runnable := by decide +kernel
set_option maxRecDepth 65536 in
theorem w_alone : about1.alone = true := by decide +kernel
set_option maxRecDepth 65536 in
theorem w_named : about1.methodNamed? x = some theMethod := by decide +kernel
set_option maxRecDepth 65536 in
theorem w_hears : about1.hears theMethod below0 = true := by decide +kernel
set_option maxRecDepth 65536 in
theorem w_ripe : about1.ripe theMethod args0 below0 = true := by decide +kernel
theorem w_running : about1.status = .running := rfl
set_option maxRecDepth 65536 in
theorem w_room : about1.hasRoom e0.platform room_1 = true :=
  launch0.hasRoom_least _ room_1 (by decide +kernel) (by decide +kernel) (by decide +kernel) (by decide +kernel) (by decide +kernel) (by decide +kernel)
theorem allAtoms_all (ts : List Jvm.Cond) (a : Array Jvm.Value) (st : Jvm.State) : (allAtoms ts).before a st = ts.all (fun c => c.before a st) := by
  induction ts with
  | nil => rfl
  | cons c t ih =>
    show (Jvm.Cond.and c (allAtoms t)).before a st = _
    rw [Jvm.Cond.before_and, ih, List.all_cons]
def words1 : List Jvm.Cond := Jvm.Cond.code x code maxLocals ret :: tables_1
/-- a 'code' word, met by the world's own term for the bytes: nothing is compared byte by byte -/
theorem code_word {y : MethodName} {bytes : ByteArray} {mx : Nat} {rt : Option FieldType} {a : Array Value} {s : State} {m : MethodId} {meth : Method} {c : Code} (h1 : s.methodNamed? y = some m) (h2 : s.vm.method? m = some meth) (h3 : meth.code = some c) (h4 : c.code = bytes)
    (h5 : (c.maxLocals == mx && c.exceptionTable.isEmpty && decide (c.maxStack ≤ mostOperands) && decide (meth.sig.returnType = rt) && !meth.locks && decide (parseMethodDescriptor y.desc = some meth.sig)) = true) : (Jvm.Cond.code y bytes mx rt).before a s = true := by
  simp only [Bool.and_eq_true, beq_iff_eq, Bool.not_eq_true', decide_eq_true_eq] at h5
  obtain ⟨⟨⟨⟨⟨g1, g2⟩, g3⟩, g4⟩, g5⟩, g6⟩ := h5
  simp [Cond.before, Cond.holds, Cond.value, h1, h2, h3, h4, g1, g2, g3, g4, g5, g6]
def isCode : Jvm.Cond → Bool
  | .code _ _ _ _ => true
  | _ => false
theorem all_split {L : List Jvm.Cond} {P : Jvm.Cond → Bool} (h1 : L.all (fun c => isCode c || P c) = true) (h2 : ∀ c ∈ L.filter isCode, P c = true) : L.all P = true := by
  refine List.all_eq_true.mpr fun c hc => ?_
  have h := List.all_eq_true.mp h1 c hc
  rcases Bool.eq_false_or_eq_true (isCode c) with hi | hi
  · exact h2 c (List.mem_filter.mpr ⟨hc, hi⟩)
  · simpa [hi] using h
set_option maxRecDepth 65536 in
theorem w_c0 : (Jvm.Cond.code x code maxLocals ret).before args0 about1 = true := code_word (m := ⟨1, 1⟩) (meth := k1m1) (c := k1c1) (by decide +kernel) rfl rfl rfl (by decide +kernel)
set_option maxRecDepth 65536 in
theorem w_c1 : (Jvm.Cond.code ({ cls := "com/example/leastwise/leastwise/provisioning/WordLinesSpacesAlonePinLaw", name := "draw", desc := "(I)C" } : Jvm.MethodName) method_3_code (1 : Nat) (Option.some Jvm.ClassFile.FieldType.char)).before args0 about1 = true := code_word (m := ⟨1, 2⟩) (meth := k1m2) (c := k1c2) (by decide +kernel) rfl rfl rfl (by decide +kernel)
set_option maxRecDepth 65536 in
theorem w_c2 : (Jvm.Cond.code ({ cls := "com/example/leastwise/leastwise/provisioning/WordLinesSpacesAlonePinLaw", name := "make", desc := "(ICCCC)Ljava/lang/String;" } : Jvm.MethodName) method_5_code (5 : Nat) (Option.some (Jvm.ClassFile.FieldType.object "java/lang/String"))).before args0 about1 = true := code_word (m := ⟨1, 4⟩) (meth := k1m4) (c := k1c4) (by decide +kernel) rfl rfl rfl (by decide +kernel)
set_option maxRecDepth 65536 in
theorem w_c3 : (Jvm.Cond.code ({ cls := "java/lang/String", name := "<init>", desc := "([C)V" } : Jvm.MethodName) jdk_42_method_3_code (2 : Nat) (Option.none : Option Jvm.ClassFile.FieldType)).before args0 about1 = true := code_word (m := ⟨7, 1⟩) (meth := k7m1) (c := k7c1) (by decide +kernel) rfl rfl rfl (by decide +kernel)
set_option maxRecDepth 65536 in
theorem w_c4 : (Jvm.Cond.code ({ cls := "java/lang/String", name := "<init>", desc := "([CIILjava/lang/Void;)V" } : Jvm.MethodName) jdk_42_method_149_code (6 : Nat) (Option.none : Option Jvm.ClassFile.FieldType)).before args0 about1 = true := code_word (m := ⟨7, 5⟩) (meth := k7m5) (c := k7c5) (by decide +kernel) rfl rfl rfl (by decide +kernel)
set_option maxRecDepth 65536 in
theorem w_c5 : (Jvm.Cond.code ({ cls := "java/lang/Object", name := "<init>", desc := "()V" } : Jvm.MethodName) object_method_1_code (1 : Nat) (Option.none : Option Jvm.ClassFile.FieldType)).before args0 about1 = true := code_word (m := ⟨0, 0⟩) (meth := k0m0) (c := k0c0) (by decide +kernel) rfl rfl rfl (by decide +kernel)
set_option maxRecDepth 65536 in
theorem w_c6 : (Jvm.Cond.code ({ cls := "com/example/leastwise/leastwise/provisioning/WordLines", name := "spacesAlone", desc := "(Ljava/lang/String;)Z" } : Jvm.MethodName) prog_113_method_12_code (1 : Nat) (Option.some Jvm.ClassFile.FieldType.boolean)).before args0 about1 = true := code_word (m := ⟨8, 0⟩) (meth := k8m0) (c := k8c0) (by decide +kernel) rfl rfl rfl (by decide +kernel)
set_option maxRecDepth 65536 in
theorem w_c7 : (Jvm.Cond.code ({ cls := "java/lang/String", name := "indexOf", desc := "(I)I" } : Jvm.MethodName) jdk_42_method_79_code (2 : Nat) (Option.some Jvm.ClassFile.FieldType.int)).before args0 about1 = true := code_word (m := ⟨7, 3⟩) (meth := k7m3) (c := k7c3) (by decide +kernel) rfl rfl rfl (by decide +kernel)
set_option maxRecDepth 65536 in
theorem w_c8 : (Jvm.Cond.code ({ cls := "java/lang/String", name := "indexOf", desc := "(II)I" } : Jvm.MethodName) jdk_42_method_80_code (3 : Nat) (Option.some Jvm.ClassFile.FieldType.int)).before args0 about1 = true := code_word (m := ⟨7, 4⟩) (meth := k7m4) (c := k7c4) (by decide +kernel) rfl rfl rfl (by decide +kernel)
set_option maxRecDepth 65536 in
theorem w_c9 : (Jvm.Cond.code ({ cls := "java/lang/String", name := "isLatin1", desc := "()Z" } : Jvm.MethodName) jdk_42_method_154_code (1 : Nat) (Option.some Jvm.ClassFile.FieldType.boolean)).before args0 about1 = true := code_word (m := ⟨7, 7⟩) (meth := k7m7) (c := k7c7) (by decide +kernel) rfl rfl rfl (by decide +kernel)
set_option maxRecDepth 65536 in
theorem w_c10 : (Jvm.Cond.code ({ cls := "java/lang/String", name := "length", desc := "()I" } : Jvm.MethodName) jdk_42_method_54_code (1 : Nat) (Option.some Jvm.ClassFile.FieldType.int)).before args0 about1 = true := code_word (m := ⟨7, 2⟩) (meth := k7m2) (c := k7c2) (by decide +kernel) rfl rfl rfl (by decide +kernel)
set_option maxRecDepth 65536 in
theorem w_c11 : (Jvm.Cond.code ({ cls := "java/lang/String", name := "coder", desc := "()B" } : Jvm.MethodName) jdk_42_method_152_code (1 : Nat) (Option.some Jvm.ClassFile.FieldType.byte)).before args0 about1 = true := code_word (m := ⟨7, 6⟩) (meth := k7m6) (c := k7c6) (by decide +kernel) rfl rfl rfl (by decide +kernel)
set_option maxRecDepth 65536 in
theorem w_c12 : (Jvm.Cond.code ({ cls := "java/lang/StringLatin1", name := "indexOf", desc := "([BIII)I" } : Jvm.MethodName) jdk_43_method_22_code (4 : Nat) (Option.some Jvm.ClassFile.FieldType.int)).before args0 about1 = true := code_word (m := ⟨9, 2⟩) (meth := k9m2) (c := k9c2) (by decide +kernel) rfl rfl rfl (by decide +kernel)
set_option maxRecDepth 65536 in
theorem w_c13 : (Jvm.Cond.code ({ cls := "java/lang/StringLatin1", name := "canEncode", desc := "(I)Z" } : Jvm.MethodName) jdk_43_method_4_code (1 : Nat) (Option.some Jvm.ClassFile.FieldType.boolean)).before args0 about1 = true := code_word (m := ⟨9, 1⟩) (meth := k9m1) (c := k9c1) (by decide +kernel) rfl rfl rfl (by decide +kernel)
set_option maxRecDepth 65536 in
theorem w_c14 : (Jvm.Cond.code ({ cls := "java/lang/Math", name := "max", desc := "(II)I" } : Jvm.MethodName) jdk_29_method_65_code (2 : Nat) (Option.some Jvm.ClassFile.FieldType.int)).before args0 about1 = true := code_word (m := ⟨10, 1⟩) (meth := k10m1) (c := k10c1) (by decide +kernel) rfl rfl rfl (by decide +kernel)
set_option maxRecDepth 65536 in
theorem w_c15 : (Jvm.Cond.code ({ cls := "java/lang/Math", name := "min", desc := "(II)I" } : Jvm.MethodName) jdk_29_method_69_code (2 : Nat) (Option.some Jvm.ClassFile.FieldType.int)).before args0 about1 = true := code_word (m := ⟨10, 2⟩) (meth := k10m2) (c := k10c2) (by decide +kernel) rfl rfl rfl (by decide +kernel)
set_option maxRecDepth 65536 in
theorem w_c16 : (Jvm.Cond.code ({ cls := "java/lang/StringUTF16", name := "compress", desc := "([CII)[B" } : Jvm.MethodName) jdk_52_method_16_code (6 : Nat) (Option.some (Jvm.ClassFile.FieldType.array Jvm.ClassFile.FieldType.byte))).before args0 about1 = true := code_word (m := ⟨11, 8⟩) (meth := k11m8) (c := k11c8) (by decide +kernel) rfl rfl rfl (by decide +kernel)
set_option maxRecDepth 65536 in
theorem w_c17 : (Jvm.Cond.code ({ cls := "java/lang/StringUTF16", name := "compress", desc := "([CI[BII)I" } : Jvm.MethodName) jdk_52_method_21_code (7 : Nat) (Option.some Jvm.ClassFile.FieldType.int)).before args0 about1 = true := code_word (m := ⟨11, 9⟩) (meth := k11m9) (c := k11c9) (by decide +kernel) rfl rfl rfl (by decide +kernel)
set_option maxRecDepth 65536 in
theorem w_c18 : (Jvm.Cond.code ({ cls := "java/lang/StringUTF16", name := "coderFromArrayLen", desc := "([BI)B" } : Jvm.MethodName) jdk_52_method_15_code (2 : Nat) (Option.some Jvm.ClassFile.FieldType.byte)).before args0 about1 = true := code_word (m := ⟨11, 7⟩) (meth := k11m7) (c := k11c7) (by decide +kernel) rfl rfl rfl (by decide +kernel)
set_option maxRecDepth 65536 in
theorem w_c19 : (Jvm.Cond.code ({ cls := "com/example/leastwise/leastwise/provisioning/WordLinesSpacesAlonePinLaw", name := "allowed", desc := "(C)Z" } : Jvm.MethodName) method_4_code (1 : Nat) (Option.some Jvm.ClassFile.FieldType.boolean)).before args0 about1 = true := code_word (m := ⟨1, 3⟩) (meth := k1m3) (c := k1c3) (by decide +kernel) rfl rfl rfl (by decide +kernel)
set_option maxRecDepth 65536 in
theorem w_c20 : (Jvm.Cond.code ({ cls := "java/lang/StringLatin1", name := "indexOfChar", desc := "([BIII)I" } : Jvm.MethodName) jdk_43_method_23_code (6 : Nat) (Option.some Jvm.ClassFile.FieldType.int)).before args0 about1 = true := code_word (m := ⟨9, 3⟩) (meth := k9m3) (c := k9c3) (by decide +kernel) rfl rfl rfl (by decide +kernel)
set_option maxRecDepth 65536 in
theorem w_c21 : (Jvm.Cond.code ({ cls := "java/lang/StringUTF16", name := "toBytes", desc := "([CII)[B" } : Jvm.MethodName) jdk_52_method_14_code (5 : Nat) (Option.some (Jvm.ClassFile.FieldType.array Jvm.ClassFile.FieldType.byte))).before args0 about1 = true := code_word (m := ⟨11, 6⟩) (meth := k11m6) (c := k11c6) (by decide +kernel) rfl rfl rfl (by decide +kernel)
set_option maxRecDepth 65536 in
theorem w_c22 : (Jvm.Cond.code ({ cls := "java/lang/StringUTF16", name := "newBytesFor", desc := "(I)[B" } : Jvm.MethodName) jdk_52_method_2_code (1 : Nat) (Option.some (Jvm.ClassFile.FieldType.array Jvm.ClassFile.FieldType.byte))).before args0 about1 = true := code_word (m := ⟨11, 1⟩) (meth := k11m1) (c := k11c1) (by decide +kernel) rfl rfl rfl (by decide +kernel)
set_option maxRecDepth 65536 in
theorem w_c23 : (Jvm.Cond.code ({ cls := "java/lang/StringUTF16", name := "newBytesLength", desc := "(I)I" } : Jvm.MethodName) jdk_52_method_3_code (1 : Nat) (Option.some Jvm.ClassFile.FieldType.int)).before args0 about1 = true := code_word (m := ⟨11, 2⟩) (meth := k11m2) (c := k11c2) (by decide +kernel) rfl rfl rfl (by decide +kernel)
set_option maxRecDepth 65536 in
theorem w_c24 : (Jvm.Cond.code ({ cls := "java/lang/StringUTF16", name := "putChar", desc := "([BII)V" } : Jvm.MethodName) jdk_52_method_4_code (3 : Nat) (Option.none : Option Jvm.ClassFile.FieldType)).before args0 about1 = true := code_word (m := ⟨11, 3⟩) (meth := k11m3) (c := k11c3) (by decide +kernel) rfl rfl rfl (by decide +kernel)
set_option maxRecDepth 65536 in
theorem w_c25 : (Jvm.Cond.code ({ cls := "java/lang/StringUTF16", name := "getChar", desc := "([BI)C" } : Jvm.MethodName) jdk_52_method_5_code (2 : Nat) (Option.some Jvm.ClassFile.FieldType.char)).before args0 about1 = true := code_word (m := ⟨11, 4⟩) (meth := k11m4) (c := k11c4) (by decide +kernel) rfl rfl rfl (by decide +kernel)
set_option maxRecDepth 65536 in
theorem w_c26 : (Jvm.Cond.code ({ cls := "java/lang/StringUTF16", name := "indexOf", desc := "([BIII)I" } : Jvm.MethodName) jdk_52_method_40_code (4 : Nat) (Option.some Jvm.ClassFile.FieldType.int)).before args0 about1 = true := code_word (m := ⟨11, 10⟩) (meth := k11m10) (c := k11c10) (by decide +kernel) rfl rfl rfl (by decide +kernel)
set_option maxRecDepth 65536 in
theorem w_c27 : (Jvm.Cond.code ({ cls := "java/lang/StringUTF16", name := "indexOfChar", desc := "([BIII)I" } : Jvm.MethodName) jdk_52_method_47_code (4 : Nat) (Option.some Jvm.ClassFile.FieldType.int)).before args0 about1 = true := code_word (m := ⟨11, 11⟩) (meth := k11m11) (c := k11c11) (by decide +kernel) rfl rfl rfl (by decide +kernel)
set_option maxRecDepth 65536 in
theorem w_c28 : (Jvm.Cond.code ({ cls := "java/lang/StringUTF16", name := "checkBoundsBeginEnd", desc := "(II[B)V" } : Jvm.MethodName) jdk_52_method_93_code (3 : Nat) (Option.none : Option Jvm.ClassFile.FieldType)).before args0 about1 = true := code_word (m := ⟨11, 13⟩) (meth := k11m13) (c := k11c13) (by decide +kernel) rfl rfl rfl (by decide +kernel)
set_option maxRecDepth 65536 in
theorem w_c29 : (Jvm.Cond.code ({ cls := "java/lang/StringUTF16", name := "length", desc := "([B)I" } : Jvm.MethodName) jdk_52_method_6_code (1 : Nat) (Option.some Jvm.ClassFile.FieldType.int)).before args0 about1 = true := code_word (m := ⟨11, 5⟩) (meth := k11m5) (c := k11c5) (by decide +kernel) rfl rfl rfl (by decide +kernel)
set_option maxRecDepth 65536 in
theorem w_c30 : (Jvm.Cond.code ({ cls := "java/lang/String", name := "checkBoundsBeginEnd", desc := "(III)V" } : Jvm.MethodName) jdk_42_method_158_code (3 : Nat) (Option.none : Option Jvm.ClassFile.FieldType)).before args0 about1 = true := code_word (m := ⟨7, 8⟩) (meth := k7m8) (c := k7c8) (by decide +kernel) rfl rfl rfl (by decide +kernel)
set_option maxRecDepth 65536 in
theorem w_c31 : (Jvm.Cond.code ({ cls := "jdk/internal/util/Preconditions", name := "checkFromToIndex", desc := "(IIILjava/util/function/BiFunction;)I" } : Jvm.MethodName) jdk_41_method_12_code (4 : Nat) (Option.some Jvm.ClassFile.FieldType.int)).before args0 about1 = true := code_word (m := ⟨12, 1⟩) (meth := k12m1) (c := k12c1) (by decide +kernel) rfl rfl rfl (by decide +kernel)
set_option maxRecDepth 65536 in
theorem w_c32 : (Jvm.Cond.code ({ cls := "java/lang/StringUTF16", name := "indexOfCharUnsafe", desc := "([BIII)I" } : Jvm.MethodName) jdk_52_method_48_code (5 : Nat) (Option.some Jvm.ClassFile.FieldType.int)).before args0 about1 = true := code_word (m := ⟨11, 12⟩) (meth := k11m12) (c := k11c12) (by decide +kernel) rfl rfl rfl (by decide +kernel)
def codes1 : List Jvm.Cond := [Jvm.Cond.code x code maxLocals ret, Jvm.Cond.code ({ cls := "com/example/leastwise/leastwise/provisioning/WordLinesSpacesAlonePinLaw", name := "draw", desc := "(I)C" } : Jvm.MethodName) method_3_code (1 : Nat) (Option.some Jvm.ClassFile.FieldType.char), Jvm.Cond.code ({ cls := "com/example/leastwise/leastwise/provisioning/WordLinesSpacesAlonePinLaw", name := "make", desc := "(ICCCC)Ljava/lang/String;" } : Jvm.MethodName) method_5_code (5 : Nat) (Option.some (Jvm.ClassFile.FieldType.object "java/lang/String")), Jvm.Cond.code ({ cls := "java/lang/String", name := "<init>", desc := "([C)V" } : Jvm.MethodName) jdk_42_method_3_code (2 : Nat) (Option.none : Option Jvm.ClassFile.FieldType), Jvm.Cond.code ({ cls := "java/lang/String", name := "<init>", desc := "([CIILjava/lang/Void;)V" } : Jvm.MethodName) jdk_42_method_149_code (6 : Nat) (Option.none : Option Jvm.ClassFile.FieldType), Jvm.Cond.code ({ cls := "java/lang/Object", name := "<init>", desc := "()V" } : Jvm.MethodName) object_method_1_code (1 : Nat) (Option.none : Option Jvm.ClassFile.FieldType), Jvm.Cond.code ({ cls := "com/example/leastwise/leastwise/provisioning/WordLines", name := "spacesAlone", desc := "(Ljava/lang/String;)Z" } : Jvm.MethodName) prog_113_method_12_code (1 : Nat) (Option.some Jvm.ClassFile.FieldType.boolean), Jvm.Cond.code ({ cls := "java/lang/String", name := "indexOf", desc := "(I)I" } : Jvm.MethodName) jdk_42_method_79_code (2 : Nat) (Option.some Jvm.ClassFile.FieldType.int), Jvm.Cond.code ({ cls := "java/lang/String", name := "indexOf", desc := "(II)I" } : Jvm.MethodName) jdk_42_method_80_code (3 : Nat) (Option.some Jvm.ClassFile.FieldType.int), Jvm.Cond.code ({ cls := "java/lang/String", name := "isLatin1", desc := "()Z" } : Jvm.MethodName) jdk_42_method_154_code (1 : Nat) (Option.some Jvm.ClassFile.FieldType.boolean), Jvm.Cond.code ({ cls := "java/lang/String", name := "length", desc := "()I" } : Jvm.MethodName) jdk_42_method_54_code (1 : Nat) (Option.some Jvm.ClassFile.FieldType.int), Jvm.Cond.code ({ cls := "java/lang/String", name := "coder", desc := "()B" } : Jvm.MethodName) jdk_42_method_152_code (1 : Nat) (Option.some Jvm.ClassFile.FieldType.byte), Jvm.Cond.code ({ cls := "java/lang/StringLatin1", name := "indexOf", desc := "([BIII)I" } : Jvm.MethodName) jdk_43_method_22_code (4 : Nat) (Option.some Jvm.ClassFile.FieldType.int), Jvm.Cond.code ({ cls := "java/lang/StringLatin1", name := "canEncode", desc := "(I)Z" } : Jvm.MethodName) jdk_43_method_4_code (1 : Nat) (Option.some Jvm.ClassFile.FieldType.boolean), Jvm.Cond.code ({ cls := "java/lang/Math", name := "max", desc := "(II)I" } : Jvm.MethodName) jdk_29_method_65_code (2 : Nat) (Option.some Jvm.ClassFile.FieldType.int), Jvm.Cond.code ({ cls := "java/lang/Math", name := "min", desc := "(II)I" } : Jvm.MethodName) jdk_29_method_69_code (2 : Nat) (Option.some Jvm.ClassFile.FieldType.int), Jvm.Cond.code ({ cls := "java/lang/StringUTF16", name := "compress", desc := "([CII)[B" } : Jvm.MethodName) jdk_52_method_16_code (6 : Nat) (Option.some (Jvm.ClassFile.FieldType.array Jvm.ClassFile.FieldType.byte)), Jvm.Cond.code ({ cls := "java/lang/StringUTF16", name := "compress", desc := "([CI[BII)I" } : Jvm.MethodName) jdk_52_method_21_code (7 : Nat) (Option.some Jvm.ClassFile.FieldType.int), Jvm.Cond.code ({ cls := "java/lang/StringUTF16", name := "coderFromArrayLen", desc := "([BI)B" } : Jvm.MethodName) jdk_52_method_15_code (2 : Nat) (Option.some Jvm.ClassFile.FieldType.byte), Jvm.Cond.code ({ cls := "com/example/leastwise/leastwise/provisioning/WordLinesSpacesAlonePinLaw", name := "allowed", desc := "(C)Z" } : Jvm.MethodName) method_4_code (1 : Nat) (Option.some Jvm.ClassFile.FieldType.boolean), Jvm.Cond.code ({ cls := "java/lang/StringLatin1", name := "indexOfChar", desc := "([BIII)I" } : Jvm.MethodName) jdk_43_method_23_code (6 : Nat) (Option.some Jvm.ClassFile.FieldType.int), Jvm.Cond.code ({ cls := "java/lang/StringUTF16", name := "toBytes", desc := "([CII)[B" } : Jvm.MethodName) jdk_52_method_14_code (5 : Nat) (Option.some (Jvm.ClassFile.FieldType.array Jvm.ClassFile.FieldType.byte)), Jvm.Cond.code ({ cls := "java/lang/StringUTF16", name := "newBytesFor", desc := "(I)[B" } : Jvm.MethodName) jdk_52_method_2_code (1 : Nat) (Option.some (Jvm.ClassFile.FieldType.array Jvm.ClassFile.FieldType.byte)), Jvm.Cond.code ({ cls := "java/lang/StringUTF16", name := "newBytesLength", desc := "(I)I" } : Jvm.MethodName) jdk_52_method_3_code (1 : Nat) (Option.some Jvm.ClassFile.FieldType.int), Jvm.Cond.code ({ cls := "java/lang/StringUTF16", name := "putChar", desc := "([BII)V" } : Jvm.MethodName) jdk_52_method_4_code (3 : Nat) (Option.none : Option Jvm.ClassFile.FieldType), Jvm.Cond.code ({ cls := "java/lang/StringUTF16", name := "getChar", desc := "([BI)C" } : Jvm.MethodName) jdk_52_method_5_code (2 : Nat) (Option.some Jvm.ClassFile.FieldType.char), Jvm.Cond.code ({ cls := "java/lang/StringUTF16", name := "indexOf", desc := "([BIII)I" } : Jvm.MethodName) jdk_52_method_40_code (4 : Nat) (Option.some Jvm.ClassFile.FieldType.int), Jvm.Cond.code ({ cls := "java/lang/StringUTF16", name := "indexOfChar", desc := "([BIII)I" } : Jvm.MethodName) jdk_52_method_47_code (4 : Nat) (Option.some Jvm.ClassFile.FieldType.int), Jvm.Cond.code ({ cls := "java/lang/StringUTF16", name := "checkBoundsBeginEnd", desc := "(II[B)V" } : Jvm.MethodName) jdk_52_method_93_code (3 : Nat) (Option.none : Option Jvm.ClassFile.FieldType), Jvm.Cond.code ({ cls := "java/lang/StringUTF16", name := "length", desc := "([B)I" } : Jvm.MethodName) jdk_52_method_6_code (1 : Nat) (Option.some Jvm.ClassFile.FieldType.int), Jvm.Cond.code ({ cls := "java/lang/String", name := "checkBoundsBeginEnd", desc := "(III)V" } : Jvm.MethodName) jdk_42_method_158_code (3 : Nat) (Option.none : Option Jvm.ClassFile.FieldType), Jvm.Cond.code ({ cls := "jdk/internal/util/Preconditions", name := "checkFromToIndex", desc := "(IIILjava/util/function/BiFunction;)I" } : Jvm.MethodName) jdk_41_method_12_code (4 : Nat) (Option.some Jvm.ClassFile.FieldType.int), Jvm.Cond.code ({ cls := "java/lang/StringUTF16", name := "indexOfCharUnsafe", desc := "([BIII)I" } : Jvm.MethodName) jdk_52_method_48_code (5 : Nat) (Option.some Jvm.ClassFile.FieldType.int)]
set_option maxRecDepth 65536 in
theorem codes_eq : words1.filter isCode = codes1 := rfl
theorem w_codes : ∀ c ∈ words1.filter isCode, c.before args0 about1 = true := by
  rw [codes_eq]
  intro c hc
  simp only [codes1, List.mem_cons, List.not_mem_nil, or_false] at hc
  rcases hc with rfl | rfl | rfl | rfl | rfl | rfl | rfl | rfl | rfl | rfl | rfl | rfl | rfl | rfl | rfl | rfl | rfl | rfl | rfl | rfl | rfl | rfl | rfl | rfl | rfl | rfl | rfl | rfl | rfl | rfl | rfl | rfl | rfl
  · exact w_c0
  · exact w_c1
  · exact w_c2
  · exact w_c3
  · exact w_c4
  · exact w_c5
  · exact w_c6
  · exact w_c7
  · exact w_c8
  · exact w_c9
  · exact w_c10
  · exact w_c11
  · exact w_c12
  · exact w_c13
  · exact w_c14
  · exact w_c15
  · exact w_c16
  · exact w_c17
  · exact w_c18
  · exact w_c19
  · exact w_c20
  · exact w_c21
  · exact w_c22
  · exact w_c23
  · exact w_c24
  · exact w_c25
  · exact w_c26
  · exact w_c27
  · exact w_c28
  · exact w_c29
  · exact w_c30
  · exact w_c31
  · exact w_c32
set_option maxRecDepth 65536 in
theorem w_t1 : (words1.take 24).all (fun c => isCode c || c.before args0 about1) = true := by decide +kernel
set_option maxRecDepth 65536 in
theorem w_t2 : ((words1.drop 24).take 24).all (fun c => isCode c || c.before args0 about1) = true := by decide +kernel
set_option maxRecDepth 65536 in
theorem w_t3 : (((words1.drop 24).drop 24).take 24).all (fun c => isCode c || c.before args0 about1) = true := by decide +kernel
set_option maxRecDepth 65536 in
theorem w_t4 : ((((words1.drop 24).drop 24).drop 24).take 24).all (fun c => isCode c || c.before args0 about1) = true := by decide +kernel
set_option maxRecDepth 65536 in
theorem w_t5 : (((((words1.drop 24).drop 24).drop 24).drop 24).take 24).all (fun c => isCode c || c.before args0 about1) = true := by decide +kernel
set_option maxRecDepth 65536 in
theorem w_t6 : (((((words1.drop 24).drop 24).drop 24).drop 24).drop 24).all (fun c => isCode c || c.before args0 about1) = true := by decide +kernel
theorem w_tables : (allAtoms (Jvm.Cond.code x code maxLocals ret :: tables_1)).before args0 about1 = true := by
  rw [allAtoms_all]
  show words1.all (fun c => c.before args0 about1) = true
  refine all_split ?_ w_codes
  rw [← List.take_append_drop 24 words1, List.all_append, w_t1, ← List.take_append_drop 24 (words1.drop 24), List.all_append, w_t2, ← List.take_append_drop 24 ((words1.drop 24).drop 24), List.all_append, w_t3, ← List.take_append_drop 24 (((words1.drop 24).drop 24).drop 24), List.all_append, w_t4, ← List.take_append_drop 24 ((((words1.drop 24).drop 24).drop 24).drop 24), List.all_append, w_t5, w_t6]
  rfl
set_option maxRecDepth 65536 in
theorem w_rest : rest_1_c.before args0 about1 = true := by decide +kernel
set_option maxRecDepth 65536 in
theorem w_case : (Jvm.Cond.and given_1 narrow_1).before args0 about1 = true := by decide +kernel
set_option maxRecDepth 65536 in
theorem w_consts : constsHeld consts_1 about1 := Jvm.Lit.constsHeldB_iff.mp (by decide +kernel)
theorem w_applies : (headSpec (Jvm.Cond.code x code maxLocals ret :: tables_1) room_1).applies x e0.platform about1 = true :=
  (Spec.applies_iff w_frames).mpr ⟨w_running, w_runnable, w_alone, w_named, w_hears, w_ripe, w_room, w_tables⟩
theorem atStart : AtStart classFile x code maxLocals ret World_1 tables_1 room_1 Calls_1 rest_1 Pre_1 launch0 p0 e0 about1 theMethod args0 below0 :=
  ⟨lists_1, trivial, launch0.admits_env _ _ _, launch0.least_env, fairChoices_fair.cas, fairChoices_fair.clock, w_frames, w_args, w_heap, w_applies, ⟨w_consts, trivial⟩, w_rest, w_case⟩
end start1
theorem witness_1 : WitnessClaimed_1 := ⟨start1.p0, start1.e0, start1.about1, start1.theMethod, start1.args0, start1.below0, start1.atStart⟩
end Jvm.Pilot.@@N@@
