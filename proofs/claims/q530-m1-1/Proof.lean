import JvmDerived
import JvmDerived.Pilot.@@N@@Statement
import JvmDerived.Pilot.@@N@@Code
set_option linter.unusedVariables false
set_option linter.unusedSimpArgs false
namespace Jvm.Pilot.@@N@@
open Jvm Jvm.ClassFile Sem Op Lib Jvm.Free Jvm.Stand Jvm.LawKit Jvm.RoadKit Bundle Jvm.Pilot.@@N@@.Jvm.D
/-! from A on the run returns, and F holds of the end -/
def own_Goes (p : Program) (e : Env) (below : List Frame) (F : State → Outcome → Prop) (A : State) : Prop := ∃ s₂ o, Steps p.tables e below A s₂ ∧ s₂.status = .running ∧ Ended s₂ below o ∧ F s₂ o
/-- the narrow end: Q of what it returned, of the heap and of the places written; the frame -/
def own_FN (s : State) (Q : Option Value → Heap → List Loc → Prop) (k n : Nat) : State → Outcome → Prop := fun s₂ o => ∃ v L, o = .returned v ∧ Q v s₂.heap L ∧ FrameEnd s o s₂ L k n
section OwnGoes
variable {p : Program} {l : Launch} {e : Env} {R : Room} {s : State} {m : MethodId} {args : Array Value} {below : List Frame} {meth : Method} {c : Code} {T : State} {locs : List Loc} {cells slots : Nat} {Q : Option Value → Heap → List Loc → Prop} {k n : Nat} {F : State → Outcome → Prop}
theorem own_to {A B : State} (h : ∀ t, Steps p.tables e below B t → Steps p.tables e below A t) (g : own_Goes p e below F B) : own_Goes p e below F A := by
  obtain ⟨s₂, o, h1, r⟩ := g
  exact ⟨s₂, o, h _ h1, r⟩
theorem own_tr {A B : State} (h : Steps p.tables e below A B) (g : own_Goes p e below F B) : own_Goes p e below F A := own_to (fun t q => h.trans q) g
/-! the shapes of a step: what lies on the stack and in the locals behind it -/
theorem own_tp {T' : State} {pc : Nat} {L : Array Slot} {S : List Value} (w : Value) (pc' : Nat) (h : ∀ t, Steps p.tables e below (T'.setTop (mkF m pc' L (w :: S))) t → Steps p.tables e below (T.setTop (mkF m pc L S)) t) (g : own_Goes p e below F (T'.setTop (mkF m pc' L (w :: S)))) : own_Goes p e below F (T.setTop (mkF m pc L S)) := own_to h g
theorem own_t1 {T' : State} {pc : Nat} {L : Array Slot} {S : List Value} {x : Value} (w : Value) (pc' : Nat) (h : ∀ t, Steps p.tables e below (T'.setTop (mkF m pc' L (w :: S))) t → Steps p.tables e below (T.setTop (mkF m pc L (x :: S))) t) (g : own_Goes p e below F (T'.setTop (mkF m pc' L (w :: S)))) : own_Goes p e below F (T.setTop (mkF m pc L (x :: S))) := own_to h g
theorem own_t2 {T' : State} {pc : Nat} {L : Array Slot} {S : List Value} {x y : Value} (w : Value) (pc' : Nat) (h : ∀ t, Steps p.tables e below (T'.setTop (mkF m pc' L (w :: S))) t → Steps p.tables e below (T.setTop (mkF m pc L (x :: y :: S))) t) (g : own_Goes p e below F (T'.setTop (mkF m pc' L (w :: S)))) : own_Goes p e below F (T.setTop (mkF m pc L (x :: y :: S))) := own_to h g
theorem own_d0 {T' : State} {pc : Nat} {L : Array Slot} {S : List Value} (pc' : Nat) (h : ∀ t, Steps p.tables e below (T'.setTop (mkF m pc' L S)) t → Steps p.tables e below (T.setTop (mkF m pc L S)) t) (g : own_Goes p e below F (T'.setTop (mkF m pc' L S))) : own_Goes p e below F (T.setTop (mkF m pc L S)) := own_to h g
theorem own_d1 {T' : State} {pc : Nat} {L : Array Slot} {S : List Value} {x : Value} (pc' : Nat) (h : ∀ t, Steps p.tables e below (T'.setTop (mkF m pc' L S)) t → Steps p.tables e below (T.setTop (mkF m pc L (x :: S))) t) (g : own_Goes p e below F (T'.setTop (mkF m pc' L S))) : own_Goes p e below F (T.setTop (mkF m pc L (x :: S))) := own_to h g
theorem own_d2 {T' : State} {pc : Nat} {L : Array Slot} {S : List Value} {x y : Value} (pc' : Nat) (h : ∀ t, Steps p.tables e below (T'.setTop (mkF m pc' L S)) t → Steps p.tables e below (T.setTop (mkF m pc L (x :: y :: S))) t) (g : own_Goes p e below F (T'.setTop (mkF m pc' L S))) : own_Goes p e below F (T.setTop (mkF m pc L (x :: y :: S))) := own_to h g
theorem own_cs {T' : State} {pc : Nat} {L : Array Slot} {S : List Value} (S' : List Value) (pc' : Nat) (h : ∀ t, Steps p.tables e below (T'.setTop (mkF m pc' L S')) t → Steps p.tables e below (T.setTop (mkF m pc L S)) t) (g : own_Goes p e below F (T'.setTop (mkF m pc' L S'))) : own_Goes p e below F (T.setTop (mkF m pc L S)) := own_to h g
theorem own_csR {T' : State} {pc : Nat} {L : Array Slot} {S : List Value} (S' : List Value) (pc' : Nat) (h : Steps p.tables e below (T.setTop (mkF m pc L S)) (T'.setTop (mkF m pc' L S'))) (g : own_Goes p e below F (T'.setTop (mkF m pc' L S'))) : own_Goes p e below F (T.setTop (mkF m pc L S)) := own_tr h g
theorem own_ls {T' : State} {pc : Nat} {L : Array Slot} {S : List Value} {x : Value} (L' : Array Slot) (pc' : Nat) (h : ∀ t, Steps p.tables e below (T'.setTop (mkF m pc' L' S)) t → Steps p.tables e below (T.setTop (mkF m pc L (x :: S))) t) (g : own_Goes p e below F (T'.setTop (mkF m pc' L' S))) : own_Goes p e below F (T.setTop (mkF m pc L (x :: S))) := own_to h g
theorem own_li {T' : State} {pc : Nat} {L : Array Slot} {S : List Value} (L' : Array Slot) (pc' : Nat) (h : ∀ t, Steps p.tables e below (T'.setTop (mkF m pc' L' S)) t → Steps p.tables e below (T.setTop (mkF m pc L S)) t) (g : own_Goes p e below F (T'.setTop (mkF m pc' L' S))) : own_Goes p e below F (T.setTop (mkF m pc L S)) := own_to h g
theorem own_start {A B : State} (h : ∀ t, Steps p.tables e below B t → Steps p.tables e below A t) (g : own_Goes p e below (own_FN s Q k n) B) :
    ∃ s₂ o, Steps p.tables e below A s₂ ∧ s₂.status = .running ∧ Ended s₂ below o ∧ ∃ v L, o = .returned v ∧ Q v s₂.heap L ∧ FrameEnd s o s₂ L k n := own_to h g
theorem own_retN (X : Stand p l e R s m args below meth c T locs cells slots) (hx : p.tables.exec = Jvm.exec) {pc : Nat} {Ls : Array Slot} {z : Int32} {t : FieldType} {rest : List Value} (hret : meth.sig.returnType = some t)
    (hd : decode c.code pc = .ok (.ireturn, 1)) (ht : t = .boolean ∨ t = .byte ∨ t = .char ∨ t = .short) (hlk : meth.locks = false) (hk : cells ≤ k) (hn : slots ≤ n) {h : Heap} (eT : T.heap = h) (hQ : Q (some (.int (nar t z))) h locs) :
    own_Goes p e below (own_FN s Q k n) (T.setTop (mkF m pc Ls (.int z :: rest))) := by
  obtain ⟨fs, hr, hrun, hended, hW, hsame⟩ := X.leave (v := some (.int (nar t z))) (fun q => by rw [hret] at q; cases q) hlk
  subst eT
  exact ⟨_, _, retN X hx hret ht hd hr, hrun, hended, _, _, rfl, hQ, ⟨_, rfl⟩, hW, hsame.mono hk hn⟩
theorem own_retI (X : Stand p l e R s m args below meth c T locs cells slots) (hx : p.tables.exec = Jvm.exec) {pc : Nat} {Ls : Array Slot} {z : Int32} {rest : List Value} (hret : meth.sig.returnType = some .int)
    (hd : decode c.code pc = .ok (.ireturn, 1)) (hlk : meth.locks = false) (hk : cells ≤ k) (hn : slots ≤ n) {h : Heap} (eT : T.heap = h) (hQ : Q (some (.int z)) h locs) :
    own_Goes p e below (own_FN s Q k n) (T.setTop (mkF m pc Ls (.int z :: rest))) := by
  obtain ⟨fs, hr, hrun, hended, hW, hsame⟩ := X.leave (v := some (.int z)) (fun q => by rw [hret] at q; cases q) hlk
  subst eT
  exact ⟨_, _, retOut X hx hret rfl (Or.inl ⟨rfl, Or.inl rfl, z, rfl⟩) hd hr, hrun, hended, _, _, rfl, hQ, ⟨_, rfl⟩, hW, hsame.mono hk hn⟩
theorem own_retJ (X : Stand p l e R s m args below meth c T locs cells slots) (hx : p.tables.exec = Jvm.exec) {pc : Nat} {Ls : Array Slot} {z : Int64} {rest : List Value} (hret : meth.sig.returnType = some .long)
    (hd : decode c.code pc = .ok (.lreturn, 1)) (hlk : meth.locks = false) (hk : cells ≤ k) (hn : slots ≤ n) {h : Heap} (eT : T.heap = h) (hQ : Q (some (.long z)) h locs) :
    own_Goes p e below (own_FN s Q k n) (T.setTop (mkF m pc Ls (.long z :: rest))) := by
  obtain ⟨fs, hr, hrun, hended, hW, hsame⟩ := X.leave (v := some (.long z)) (fun q => by rw [hret] at q; cases q) hlk
  subst eT
  exact ⟨_, _, retOut X hx hret rfl (Or.inr (Or.inl ⟨rfl, rfl, z, rfl⟩)) hd hr, hrun, hended, _, _, rfl, hQ, ⟨_, rfl⟩, hW, hsame.mono hk hn⟩
theorem own_nref {t : FieldType} {w : Value} (ht : t.isReference = true) : narrow t w = w := by cases t <;> first | rfl | (exact Bool.noConfusion ht)
theorem own_fits {t : FieldType} {w : Value} (ht : t.isReference = true) (hw : w.isRef = true) : fits t w = true := by
  cases t <;> first | (exact Bool.noConfusion ht) | (cases w <;> first | rfl | (exact Bool.noConfusion hw))
theorem own_retR (X : Stand p l e R s m args below meth c T locs cells slots) (hx : p.tables.exec = Jvm.exec) {pc : Nat} {Ls : Array Slot} {w : Value} {t : FieldType} {rest : List Value} (hret : meth.sig.returnType = some t)
    (hd : decode c.code pc = .ok (.areturn, 1)) (ht : t.isReference = true) (hw : w.isRef = true) (hlk : meth.locks = false) (hk : cells ≤ k) (hn : slots ≤ n) {h : Heap} (eT : T.heap = h) (hQ : Q (some w) h locs) :
    own_Goes p e below (own_FN s Q k n) (T.setTop (mkF m pc Ls (w :: rest))) := by
  obtain ⟨fs, hr, hrun, hended, hW, hsame⟩ := X.leave (v := some w) (fun q => by rw [hret] at q; cases q) hlk
  subst eT
  exact ⟨_, _, retOut X hx hret (own_nref ht) (Or.inr (Or.inr (Or.inr (Or.inr ⟨rfl, ht, hw⟩)))) hd hr, hrun, hended, _, _, rfl, hQ, ⟨_, rfl⟩, hW, hsame.mono hk hn⟩
theorem own_retV (X : Stand p l e R s m args below meth c T locs cells slots) (hx : p.tables.exec = Jvm.exec) {pc : Nat} {Ls : Array Slot} (hret : meth.sig.returnType = none)
    (hd : decode c.code pc = .ok (.return_, 1)) (hlk : meth.locks = false) (hk : cells ≤ k) (hn : slots ≤ n) {h : Heap} (eT : T.heap = h) (hQ : Q none h locs) :
    own_Goes p e below (own_FN s Q k n) (T.setTop (mkF m pc Ls [])) := by
  obtain ⟨fs, hr, hrun, hended, hW, hsame⟩ := X.leave (v := none) (fun _ => rfl) hlk
  subst eT
  exact ⟨_, _, X.returnOut hx hret hd hr, hrun, hended, _, _, rfl, hQ, ⟨_, rfl⟩, hW, hsame.mono hk hn⟩
end OwnGoes

/-- a body's contract, in lawnew's form -/
abbrev own_Met (l : Launch) (y : MethodName) (bytes : ByteArray) (ml : Nat) (rt : Option FieldType) (ws : List Jvm.Cond) (rm : Room) (Z : State) (as' : Array Value) (h0 : Heap) (Q : Option Value → Heap → List Loc → Prop) : Prop :=
  MetFree l y (head1 (Jvm.Cond.code y bytes ml rt :: ws) rm) (fun a U => a = as' ∧ Z.Warmed39 U.vm ∧ U.heap = h0) (fun _ _ _ _ _ => True) (fun _ U o U' => ∃ v L, o = .returned v ∧ Q v U'.heap L ∧ FrameEnd U o U' L rm.cells rm.slots)
theorem own_enter {l : Launch} {y : MethodName} {bytes : ByteArray} {ml : Nat} {rt : Option FieldType} {ws : List Jvm.Cond} {rm : Room} {Z : State} {as' : Array Value} {h0 : Heap} {Q : Option Value → Heap → List Loc → Prop} (L0 : Array Slot) (hp : plainFor y = true) (ef : ∀ m, entryFrame m as' ml = mkF m 0 L0 [])
    (go : ∀ (p : Program) (e : Env) (s : State) (m : MethodId) (below : List Frame) (meth : Method) (c : Code) (s₁ : State), p.tables.exec = Jvm.exec → c.code = bytes → c.maxLocals = ml → s.vm.findClass y.cls = some m.cls → meth.name = y.name → Z.Warmed39 s.vm → meth.sig.returnType = rt → meth.locks = false → Stand p l e rm s m as' below meth c s₁ [] 0 0 → s₁.heap = h0 → own_Goes p e below (own_FN s Q rm.cells rm.slots) (s₁.setTop (mkF m 0 L0 []))) :
    own_Met l y bytes ml rt ws rm Z as' h0 Q := by
  refine MetFree.of_bodySF hp hisR ?_
  intro p e s m args below meth c s₁ Bd hml0 hP hK
  obtain ⟨rfl, hZ, hh⟩ := hP
  have g := go p e s m below meth c s₁ Bd.exec Bd.bytes hml0 (findClass_of_methodNamed Bd.named) (name_of_methodNamed Bd.named Bd.method).1 hZ Bd.returns Bd.notSynchronized (Stand.of_body Bd) (by rw [← hh, Bd.state]; rfl)
  exact own_start (fun t k => castTop (ef m) k) g
def Q0 (h0 : Heap) (n0 : Nat) (v : Option Value) (h : Heap) (L : List Loc) : Prop := v = some (.int 1) ∧ Fr n0 L
theorem own_l1 : (1 : Int32).toInt = 1 := rfl
theorem own_l2147483647 : (2147483647 : Int32).toInt = 2147483647 := rfl
theorem own_l0 : (0 : Int32).toInt = 0 := rfl

def own_next (n : Int32) : Int32 := if n = 2147483647 then 1 else n + 1
theorem own_next_spec (n : Int32) (h : 1 ≤ n.toInt) : (n.toInt = 2147483647 → (own_next n).toInt = 1) ∧ (n.toInt < 2147483647 → (own_next n).toInt = n.toInt + 1) := by
  have r := rng32 n
  have a := c_iadd n 1
  have r2 := rng32 (n + 1)
  have e1 : (1 : Int32).toInt = 1 := rfl
  have e2 : (2147483647 : Int32).toInt = 2147483647 := rfl
  unfold own_next
  split <;> rename_i q
  · rw [← Int32.toInt_inj] at q; omega
  · rw [← Int32.toInt_inj] at q; omega
theorem own_pos (x : Int32) (h : ¬ x &&& 2147483647 = 0) : 1 ≤ (x &&& 2147483647).toInt := by
  have a := c_and x 2147483647 (by decide)
  have e0 : (0 : Int32).toInt = 0 := rfl
  rw [← Int32.toInt_inj] at h
  omega
theorem own_bad (n : Int32) (h : 1 ≤ n.toInt) (h2 : n.toInt ≤ 2147483647) : ¬ own_next n < 1 ∧ ¬ (2147483647 < own_next n) ∧ (¬ (lcmpW ((own_next n).toInt64 - n.toInt64) 1 = 0) → n = 2147483647 ∧ own_next n = 1) := by
  have s := own_next_spec n h
  have r := rng32 n
  have e1 : (1 : Int32).toInt = 1 := rfl
  have e2 : (2147483647 : Int32).toInt = 2147483647 := rfl
  have e3 : (1 : Int64).toInt = 1 := rfl
  have a := c_lsub (own_next n).toInt64 n.toInt64
  have r2 := rng64 ((own_next n).toInt64 - n.toInt64)
  rw [c_i2l, c_i2l] at a
  refine ⟨?_, ?_, ?_⟩
  · rw [Int32.lt_iff_toInt_lt]; omega
  · rw [Int32.lt_iff_toInt_lt]; omega
  · rw [lw_eq, ← Int64.toInt_inj, e3]
    intro q
    exact ⟨Int32.toInt_inj.mp (by omega), Int32.toInt_inj.mp (by omega)⟩

def Q1 (p1 : Int32) (h0 : Heap) (n0 : Nat) (v : Option Value) (h : Heap) (L : List Loc) : Prop := v = some (.int (own_next p1)) ∧ Fr n0 L ∧ h = h0

theorem d1_0 : decode prog_68_method_2_code 0 = .ok (.iload_n 0, 1) := by decide +kernel
theorem d1_1 : decode prog_68_method_2_code 1 = .ok (.ldc 11, 2) := by decide +kernel
theorem d1_3 : decode prog_68_method_2_code 3 = .ok (.if_icmp .ne 7, 3) := by decide +kernel
theorem d1_6 : decode prog_68_method_2_code 6 = .ok (.iconst 1, 1) := by decide +kernel
theorem d1_7 : decode prog_68_method_2_code 7 = .ok (.goto 6, 3) := by decide +kernel
theorem d1_10 : decode prog_68_method_2_code 10 = .ok (.iload_n 0, 1) := by decide +kernel
theorem d1_11 : decode prog_68_method_2_code 11 = .ok (.iconst 1, 1) := by decide +kernel
theorem d1_12 : decode prog_68_method_2_code 12 = .ok (.iadd, 1) := by decide +kernel
theorem d1_13 : decode prog_68_method_2_code 13 = .ok (.ireturn, 1) := by decide +kernel
theorem pn1 : plainName "com/example/euglena/euglena/SequenceNumber" = true := by first | (simp [plainName, overriddenIn]; done) | decide +kernel
theorem ef1 (m : MethodId) (x0 : Int32) : entryFrame m #[(.int x0)] 1 = mkF m 0 #[.val (.int x0)] [] := by first | (simp [entryFrame, mkF, argsToLocals, Value.category]; done) | rfl
set_option maxRecDepth 65536 in
set_option maxHeartbeats 40000000 in
theorem rm1 (l : Launch) (Z : State) (a0 : Array Value) (hw : ∀ d ∈ tables_1, d.before a0 Z = true) (ws : List Jvm.Cond) (p1 : Int32) (h0 : Heap) (n0 : Nat)  :
    own_Met l (⟨"com/example/euglena/euglena/SequenceNumber", "next", "(I)I"⟩ : MethodName) prog_68_method_2_code 1 (some .int) ws ({ frames := 0, cells := 0, slots := 0, locals := 0 } : Room) Z #[(.int p1)] h0 (Q1 p1 h0 n0) := by
  refine own_enter #[.val (.int p1)] (plainFor_of_name pn1) (fun m => ef1 m p1) ?_
  intro p e s m below meth c s₁ hx hby hml hown hnm hZ hrt hlk X0 e0
  have N0 := Fr.nil n0
  refine own_tp (.int p1) 1 (fun _ q => XS.iloadN X0.here hx rfl (hb hby d1_0) rfl q) ?_
  refine own_tp (.int (2147483647 : Int32)) 3 (fun _ q => X0.ldcInt hx hown (mvT hZ (hw _ (List.mem_of_getElem? (i := 5) rfl))) (g := (mkF m 1 #[.val (.int p1)] [(.int p1)])) rfl (hb hby d1_1) _ q) ?_
  by_cases c1 : p1 = (2147483647 : Int32)
  ·
    refine own_d2 6 (fun _ q => XS.icmpNo X0.here hx rfl (hb hby d1_3) rfl (teq c1).2 q) ?_
    refine own_tp (.int (1 : Int32)) 7 (fun _ q => XS.iconst X0.here hx rfl (hb hby d1_6) q) ?_
    refine own_d0 13 (fun _ q => XS.goto X0.here hx rfl (pc0 := 7) (pc' := 13) rfl (hb hby d1_7) (by decide) (by decide) q) ?_
    exact own_retI X0 hx hrt (hb hby d1_13) hlk (by decide) (by decide) e0 (⟨by have hv : own_next p1 = (1 : Int32) := (by first | (simp only [own_next, c1, ↓reduceIte]; done) | (simp [own_next, c1]; done)); rw [hv] <;> rfl, N0, rfl⟩)
  ·
    refine own_d2 10 (fun _ q => XS.icmpYes X0.here hx rfl (pc0 := 3) (pc' := 10) rfl (hb hby d1_3) rfl (feq c1).2 (by decide) (by decide) q) ?_
    refine own_tp (.int p1) 11 (fun _ q => XS.iloadN X0.here hx rfl (hb hby d1_10) rfl q) ?_
    refine own_tp (.int (1 : Int32)) 12 (fun _ q => XS.iconst X0.here hx rfl (hb hby d1_11) q) ?_
    refine own_t2 (.int (p1 + (1 : Int32))) 13 (fun _ q => XS.iadd X0.here hx rfl (hb hby d1_12) rfl q) ?_
    exact own_retI X0 hx hrt (hb hby d1_13) hlk (by decide) (by decide) e0 (⟨by have hv : own_next p1 = (p1 + (1 : Int32)) := (by first | (simp only [own_next, c1, ↓reduceIte]; done) | (simp [own_next, c1]; done)); rw [hv] <;> rfl, N0, rfl⟩)

theorem pn0 : plainName "com/example/euglena/euglena/SequenceNumberNextPinLaw" = true := by first | (simp [plainName, overriddenIn]; done) | decide +kernel
theorem pd0_0 : parseMethodDescriptor "(I)I" = some ⟨[.int], some .int⟩ := by decide +kernel
theorem ef0 (m : MethodId) (x0 : Int32) : entryFrame m #[(.int x0)] maxLocals = mkF m 0 #[.val (.int x0), .unset, .unset, .unset, .unset, .unset, .unset] [] := by first | (simp [entryFrame, mkF, argsToLocals, Value.category, maxLocals]; done) | rfl
set_option maxRecDepth 65536 in
set_option maxHeartbeats 40000000 in
theorem rm0 (l : Launch) (Z : State) (a0 : Array Value) (hw : ∀ d ∈ tables_1, d.before a0 Z = true) (ws : List Jvm.Cond) (p0 : Int32) (h0 : Heap) (n0 : Nat)  :
    own_Met l x code maxLocals ret ws room_1 Z #[(.int p0)] h0 (Q0 h0 n0) := by
  refine own_enter #[.val (.int p0), .unset, .unset, .unset, .unset, .unset, .unset] (plainFor_of_name pn0) (fun m => ef0 m p0) ?_
  intro p e s m below meth c s₁ hx hby hml hown hnm hZ hrt hlk X0 e0
  have N0 := Fr.nil n0
  refine own_tp (.int p0) 1 (fun _ q => XS.iloadN X0.here hx rfl (hb hby at_0) rfl q) ?_
  refine own_tp (.int (2147483647 : Int32)) 3 (fun _ q => X0.ldcInt hx hown (mvT hZ (hw _ (List.mem_of_getElem? (i := 0) rfl))) (g := (mkF m 1 #[.val (.int p0), .unset, .unset, .unset, .unset, .unset, .unset] [(.int p0)])) rfl (hb hby at_1) _ q) ?_
  refine own_t2 (.int (p0 &&& (2147483647 : Int32))) 4 (fun _ q => XS.iand X0.here hx rfl (hb hby at_3) rfl q) ?_
  refine own_ls #[.val (.int p0), .val (.int (p0 &&& (2147483647 : Int32))), .unset, .unset, .unset, .unset, .unset] 5 (fun _ q => XS.istoreN X0.here hx rfl (hb hby at_4) rfl (l' := #[.val (.int p0), .val (.int (p0 &&& (2147483647 : Int32))), .unset, .unset, .unset, .unset, .unset]) rfl q) ?_
  refine own_tp (.int (p0 &&& (2147483647 : Int32))) 6 (fun _ q => XS.iloadN X0.here hx rfl (hb hby at_5) rfl q) ?_
  by_cases c1 : (p0 &&& (2147483647 : Int32)) = (0 : Int32)
  ·
    refine own_d1 9 (fun _ q => XS.ifNo X0.here hx rfl (hb hby at_6) rfl ((if0 _ _).trans (teq c1).2) q) ?_
    refine own_tp (.int (1 : Int32)) 10 (fun _ q => XS.iconst X0.here hx rfl (hb hby at_9) q) ?_
    refine own_ls #[.val (.int p0), .val (.int (1 : Int32)), .unset, .unset, .unset, .unset, .unset] 11 (fun _ q => XS.istoreN X0.here hx rfl (hb hby at_10) rfl (l' := #[.val (.int p0), .val (.int (1 : Int32)), .unset, .unset, .unset, .unset, .unset]) rfl q) ?_
    refine own_tp (.int (1 : Int32)) 12 (fun _ q => XS.iloadN X0.here hx rfl (hb hby at_11) rfl q) ?_
    obtain ⟨_, _, ⟨T2, L2, k2, n2⟩, -, X2, ⟨Lc2, hQ2, l2, y2, z2⟩, st2⟩ := Jvm.LawKit.callS X0 hx (y := (⟨"com/example/euglena/euglena/SequenceNumber", "next", "(I)I"⟩ : MethodName)) hown (mvT hZ (hw _ (List.mem_of_getElem? (i := 1) rfl))) (mvT hZ (hw _ (List.mem_of_getElem? (i := 2) rfl))) (mvT hZ (hw _ (List.mem_of_getElem? (i := 3) rfl))) (mvT hZ (hw _ (List.mem_of_getElem? (i := 4) rfl))) (by decide) (backOf (W := 0) (rm1 l Z a0 hw [] (1 : Int32) h0 n0 ) hZ (hw _ (List.mem_of_getElem? (i := 4) rfl)) (hw _ (List.mem_of_getElem? (i := 3) rfl)) (by decide) (by decide)) (g := (mkF m 12 #[.val (.int p0), .val (.int (1 : Int32)), .unset, .unset, .unset, .unset, .unset] [(.int (1 : Int32))])) rfl (by rw [hml]; rfl) (argsL := [(.int (1 : Int32))]) (rest := []) (lenOf pd0_0 rfl) rfl (by show 2 * 0 + _ ≤ _; exact Nat.le_of_eq rfl) (hb hby at_12) (fun _ _ => ⟨rfl, e0, (by decide : 0 + 0 ≤ _), (by decide : 0 + 0 ≤ _)⟩)
    dsimp only [Pt.U, Pt.locs, Pt.cells, Pt.slots] at X2 l2 y2 z2 st2 hQ2
    subst l2 y2 z2
    obtain ⟨rfl, Nq2, eq2⟩ := hQ2
    have N2 := Fr.app N0 Nq2
    refine own_t1 (.int (own_next (1 : Int32))) 15 st2 ?_
    refine own_ls #[.val (.int p0), .val (.int (1 : Int32)), .val (.int (own_next (1 : Int32))), .unset, .unset, .unset, .unset] 16 (fun _ q => XS.istoreN X2.here hx rfl (hb hby at_15) rfl (l' := #[.val (.int p0), .val (.int (1 : Int32)), .val (.int (own_next (1 : Int32))), .unset, .unset, .unset, .unset]) rfl q) ?_
    refine own_tp (.int (own_next (1 : Int32))) 17 (fun _ q => XS.iloadN X2.here hx rfl (hb hby at_16) rfl q) ?_
    refine own_t1 (.long ((own_next (1 : Int32)).toInt64)) 18 (fun _ q => XS.i2l X2.here hx rfl (hb hby at_17) rfl q) ?_
    refine own_tp (.int (1 : Int32)) 19 (fun _ q => XS.iloadN X2.here hx rfl (hb hby at_18) rfl q) ?_
    refine own_t1 (.long ((1 : Int32).toInt64)) 20 (fun _ q => XS.i2l X2.here hx rfl (hb hby at_19) rfl q) ?_
    refine own_t2 (.long (((own_next (1 : Int32)).toInt64) - ((1 : Int32).toInt64))) 21 (fun _ q => XS.lsub X2.here hx rfl (hb hby at_20) rfl q) ?_
    refine own_ls #[.val (.int p0), .val (.int (1 : Int32)), .val (.int (own_next (1 : Int32))), .val (.long (((own_next (1 : Int32)).toInt64) - ((1 : Int32).toInt64))), .second, .unset, .unset] 22 (fun _ q => XS.lstoreN X2.here hx rfl (hb hby at_21) rfl (l' := #[.val (.int p0), .val (.int (1 : Int32)), .val (.int (own_next (1 : Int32))), .val (.long (((own_next (1 : Int32)).toInt64) - ((1 : Int32).toInt64))), .second, .unset, .unset]) rfl q) ?_
    refine own_tp (.int (own_next (1 : Int32))) 23 (fun _ q => XS.iloadN X2.here hx rfl (hb hby at_22) rfl q) ?_
    refine own_tp (.int (1 : Int32)) 24 (fun _ q => XS.iconst X2.here hx rfl (hb hby at_23) q) ?_
    by_cases c3 : (own_next (1 : Int32)) < (1 : Int32)
    ·
      refine own_d2 37 (fun _ q => XS.icmpYes X2.here hx rfl (pc0 := 24) (pc' := 37) rfl (hb hby at_24) rfl (tlt c3).1 (by decide) (by decide) q) ?_
      refine own_tp (.int (0 : Int32)) 38 (fun _ q => XS.iconst X2.here hx rfl (hb hby at_37) q) ?_
      refine own_ls #[.val (.int p0), .val (.int (1 : Int32)), .val (.int (own_next (1 : Int32))), .val (.long (((own_next (1 : Int32)).toInt64) - ((1 : Int32).toInt64))), .second, .val (.int (0 : Int32)), .unset] 40 (fun _ q => XS.istore X2.here hx rfl (hb hby at_38) rfl (l' := #[.val (.int p0), .val (.int (1 : Int32)), .val (.int (own_next (1 : Int32))), .val (.long (((own_next (1 : Int32)).toInt64) - ((1 : Int32).toInt64))), .second, .val (.int (0 : Int32)), .unset]) rfl q) ?_
      refine own_tp (.long (((own_next (1 : Int32)).toInt64) - ((1 : Int32).toInt64))) 41 (fun _ q => XS.lloadN X2.here hx rfl (hb hby at_40) rfl q) ?_
      refine own_tp (.long (1 : Int64)) 42 (fun _ q => XS.lconst X2.here hx rfl (hb hby at_41) q) ?_
      refine own_t2 (.int (lcmpW (((own_next (1 : Int32)).toInt64) - ((1 : Int32).toInt64)) (1 : Int64))) 43 (fun _ q => XS.lcmp X2.here hx rfl (hb hby at_42) rfl q) ?_
      by_cases c4 : (lcmpW (((own_next (1 : Int32)).toInt64) - ((1 : Int32).toInt64)) (1 : Int64)) = (0 : Int32)
      ·
        refine own_d1 57 (fun _ q => XS.ifYes X2.here hx rfl (pc0 := 43) (pc' := 57) rfl (hb hby at_43) rfl ((if0 _ _).trans (teq c4).1) (by decide) (by decide) q) ?_
        refine own_tp (.int (1 : Int32)) 58 (fun _ q => XS.iconst X2.here hx rfl (hb hby at_57) q) ?_
        refine own_d0 62 (fun _ q => XS.goto X2.here hx rfl (pc0 := 58) (pc' := 62) rfl (hb hby at_58) (by decide) (by decide) q) ?_
        refine own_ls #[.val (.int p0), .val (.int (1 : Int32)), .val (.int (own_next (1 : Int32))), .val (.long (((own_next (1 : Int32)).toInt64) - ((1 : Int32).toInt64))), .second, .val (.int (0 : Int32)), .val (.int (1 : Int32))] 64 (fun _ q => XS.istore X2.here hx rfl (hb hby at_62) rfl (l' := #[.val (.int p0), .val (.int (1 : Int32)), .val (.int (own_next (1 : Int32))), .val (.long (((own_next (1 : Int32)).toInt64) - ((1 : Int32).toInt64))), .second, .val (.int (0 : Int32)), .val (.int (1 : Int32))]) rfl q) ?_
        refine own_tp (.int (0 : Int32)) 66 (fun _ q => XS.iload X2.here hx rfl (hb hby at_64) rfl q) ?_
        refine own_d1 78 (fun _ q => XS.ifYes X2.here hx rfl (pc0 := 66) (pc' := 78) rfl (hb hby at_66) rfl ((if0 _ _).trans (teq (by decide : (0 : Int32) = (0 : Int32))).1) (by decide) (by decide) q) ?_
        refine own_tp (.int (0 : Int32)) 79 (fun _ q => XS.iconst X2.here hx rfl (hb hby at_78) q) ?_
        obtain ⟨u1, u2, u3⟩ := own_bad (1 : Int32) (by decide) (by have := rng32 (1 : Int32); omega)
        exact absurd c3 u1
      ·
        refine own_d1 46 (fun _ q => XS.ifNo X2.here hx rfl (hb hby at_43) rfl ((if0 _ _).trans (feq c4).1) q) ?_
        refine own_tp (.int (1 : Int32)) 47 (fun _ q => XS.iloadN X2.here hx rfl (hb hby at_46) rfl q) ?_
        refine own_tp (.int (2147483647 : Int32)) 49 (fun _ q => X2.ldcInt hx hown (mvT hZ (hw _ (List.mem_of_getElem? (i := 0) rfl))) (g := (mkF m 47 #[.val (.int p0), .val (.int (1 : Int32)), .val (.int (own_next (1 : Int32))), .val (.long (((own_next (1 : Int32)).toInt64) - ((1 : Int32).toInt64))), .second, .val (.int (0 : Int32)), .unset] [(.int (1 : Int32))])) rfl (hb hby at_47) _ q) ?_
        refine own_d2 61 (fun _ q => XS.icmpYes X2.here hx rfl (pc0 := 49) (pc' := 61) rfl (hb hby at_49) rfl (feq (by decide : ¬ ((1 : Int32) = (2147483647 : Int32)))).2 (by decide) (by decide) q) ?_
        refine own_tp (.int (0 : Int32)) 62 (fun _ q => XS.iconst X2.here hx rfl (hb hby at_61) q) ?_
        refine own_ls #[.val (.int p0), .val (.int (1 : Int32)), .val (.int (own_next (1 : Int32))), .val (.long (((own_next (1 : Int32)).toInt64) - ((1 : Int32).toInt64))), .second, .val (.int (0 : Int32)), .val (.int (0 : Int32))] 64 (fun _ q => XS.istore X2.here hx rfl (hb hby at_62) rfl (l' := #[.val (.int p0), .val (.int (1 : Int32)), .val (.int (own_next (1 : Int32))), .val (.long (((own_next (1 : Int32)).toInt64) - ((1 : Int32).toInt64))), .second, .val (.int (0 : Int32)), .val (.int (0 : Int32))]) rfl q) ?_
        refine own_tp (.int (0 : Int32)) 66 (fun _ q => XS.iload X2.here hx rfl (hb hby at_64) rfl q) ?_
        refine own_d1 78 (fun _ q => XS.ifYes X2.here hx rfl (pc0 := 66) (pc' := 78) rfl (hb hby at_66) rfl ((if0 _ _).trans (teq (by decide : (0 : Int32) = (0 : Int32))).1) (by decide) (by decide) q) ?_
        refine own_tp (.int (0 : Int32)) 79 (fun _ q => XS.iconst X2.here hx rfl (hb hby at_78) q) ?_
        obtain ⟨u1, u2, u3⟩ := own_bad (1 : Int32) (by decide) (by have := rng32 (1 : Int32); omega)
        exact absurd c3 u1
    ·
      refine own_d2 27 (fun _ q => XS.icmpNo X2.here hx rfl (hb hby at_24) rfl (flt c3).1 q) ?_
      refine own_tp (.int (own_next (1 : Int32))) 28 (fun _ q => XS.iloadN X2.here hx rfl (hb hby at_27) rfl q) ?_
      refine own_tp (.int (2147483647 : Int32)) 30 (fun _ q => X2.ldcInt hx hown (mvT hZ (hw _ (List.mem_of_getElem? (i := 0) rfl))) (g := (mkF m 28 #[.val (.int p0), .val (.int (1 : Int32)), .val (.int (own_next (1 : Int32))), .val (.long (((own_next (1 : Int32)).toInt64) - ((1 : Int32).toInt64))), .second, .unset, .unset] [(.int (own_next (1 : Int32)))])) rfl (hb hby at_28) _ q) ?_
      by_cases c5 : (2147483647 : Int32) < (own_next (1 : Int32))
      ·
        refine own_d2 37 (fun _ q => XS.icmpYes X2.here hx rfl (pc0 := 30) (pc' := 37) rfl (hb hby at_30) rfl (tlt c5).2.2.1 (by decide) (by decide) q) ?_
        refine own_tp (.int (0 : Int32)) 38 (fun _ q => XS.iconst X2.here hx rfl (hb hby at_37) q) ?_
        refine own_ls #[.val (.int p0), .val (.int (1 : Int32)), .val (.int (own_next (1 : Int32))), .val (.long (((own_next (1 : Int32)).toInt64) - ((1 : Int32).toInt64))), .second, .val (.int (0 : Int32)), .unset] 40 (fun _ q => XS.istore X2.here hx rfl (hb hby at_38) rfl (l' := #[.val (.int p0), .val (.int (1 : Int32)), .val (.int (own_next (1 : Int32))), .val (.long (((own_next (1 : Int32)).toInt64) - ((1 : Int32).toInt64))), .second, .val (.int (0 : Int32)), .unset]) rfl q) ?_
        refine own_tp (.long (((own_next (1 : Int32)).toInt64) - ((1 : Int32).toInt64))) 41 (fun _ q => XS.lloadN X2.here hx rfl (hb hby at_40) rfl q) ?_
        refine own_tp (.long (1 : Int64)) 42 (fun _ q => XS.lconst X2.here hx rfl (hb hby at_41) q) ?_
        refine own_t2 (.int (lcmpW (((own_next (1 : Int32)).toInt64) - ((1 : Int32).toInt64)) (1 : Int64))) 43 (fun _ q => XS.lcmp X2.here hx rfl (hb hby at_42) rfl q) ?_
        by_cases c6 : (lcmpW (((own_next (1 : Int32)).toInt64) - ((1 : Int32).toInt64)) (1 : Int64)) = (0 : Int32)
        ·
          refine own_d1 57 (fun _ q => XS.ifYes X2.here hx rfl (pc0 := 43) (pc' := 57) rfl (hb hby at_43) rfl ((if0 _ _).trans (teq c6).1) (by decide) (by decide) q) ?_
          refine own_tp (.int (1 : Int32)) 58 (fun _ q => XS.iconst X2.here hx rfl (hb hby at_57) q) ?_
          refine own_d0 62 (fun _ q => XS.goto X2.here hx rfl (pc0 := 58) (pc' := 62) rfl (hb hby at_58) (by decide) (by decide) q) ?_
          refine own_ls #[.val (.int p0), .val (.int (1 : Int32)), .val (.int (own_next (1 : Int32))), .val (.long (((own_next (1 : Int32)).toInt64) - ((1 : Int32).toInt64))), .second, .val (.int (0 : Int32)), .val (.int (1 : Int32))] 64 (fun _ q => XS.istore X2.here hx rfl (hb hby at_62) rfl (l' := #[.val (.int p0), .val (.int (1 : Int32)), .val (.int (own_next (1 : Int32))), .val (.long (((own_next (1 : Int32)).toInt64) - ((1 : Int32).toInt64))), .second, .val (.int (0 : Int32)), .val (.int (1 : Int32))]) rfl q) ?_
          refine own_tp (.int (0 : Int32)) 66 (fun _ q => XS.iload X2.here hx rfl (hb hby at_64) rfl q) ?_
          refine own_d1 78 (fun _ q => XS.ifYes X2.here hx rfl (pc0 := 66) (pc' := 78) rfl (hb hby at_66) rfl ((if0 _ _).trans (teq (by decide : (0 : Int32) = (0 : Int32))).1) (by decide) (by decide) q) ?_
          refine own_tp (.int (0 : Int32)) 79 (fun _ q => XS.iconst X2.here hx rfl (hb hby at_78) q) ?_
          obtain ⟨u1, u2, u3⟩ := own_bad (1 : Int32) (by decide) (by have := rng32 (1 : Int32); omega)
          exact absurd c5 u2
        ·
          refine own_d1 46 (fun _ q => XS.ifNo X2.here hx rfl (hb hby at_43) rfl ((if0 _ _).trans (feq c6).1) q) ?_
          refine own_tp (.int (1 : Int32)) 47 (fun _ q => XS.iloadN X2.here hx rfl (hb hby at_46) rfl q) ?_
          refine own_tp (.int (2147483647 : Int32)) 49 (fun _ q => X2.ldcInt hx hown (mvT hZ (hw _ (List.mem_of_getElem? (i := 0) rfl))) (g := (mkF m 47 #[.val (.int p0), .val (.int (1 : Int32)), .val (.int (own_next (1 : Int32))), .val (.long (((own_next (1 : Int32)).toInt64) - ((1 : Int32).toInt64))), .second, .val (.int (0 : Int32)), .unset] [(.int (1 : Int32))])) rfl (hb hby at_47) _ q) ?_
          refine own_d2 61 (fun _ q => XS.icmpYes X2.here hx rfl (pc0 := 49) (pc' := 61) rfl (hb hby at_49) rfl (feq (by decide : ¬ ((1 : Int32) = (2147483647 : Int32)))).2 (by decide) (by decide) q) ?_
          refine own_tp (.int (0 : Int32)) 62 (fun _ q => XS.iconst X2.here hx rfl (hb hby at_61) q) ?_
          refine own_ls #[.val (.int p0), .val (.int (1 : Int32)), .val (.int (own_next (1 : Int32))), .val (.long (((own_next (1 : Int32)).toInt64) - ((1 : Int32).toInt64))), .second, .val (.int (0 : Int32)), .val (.int (0 : Int32))] 64 (fun _ q => XS.istore X2.here hx rfl (hb hby at_62) rfl (l' := #[.val (.int p0), .val (.int (1 : Int32)), .val (.int (own_next (1 : Int32))), .val (.long (((own_next (1 : Int32)).toInt64) - ((1 : Int32).toInt64))), .second, .val (.int (0 : Int32)), .val (.int (0 : Int32))]) rfl q) ?_
          refine own_tp (.int (0 : Int32)) 66 (fun _ q => XS.iload X2.here hx rfl (hb hby at_64) rfl q) ?_
          refine own_d1 78 (fun _ q => XS.ifYes X2.here hx rfl (pc0 := 66) (pc' := 78) rfl (hb hby at_66) rfl ((if0 _ _).trans (teq (by decide : (0 : Int32) = (0 : Int32))).1) (by decide) (by decide) q) ?_
          refine own_tp (.int (0 : Int32)) 79 (fun _ q => XS.iconst X2.here hx rfl (hb hby at_78) q) ?_
          obtain ⟨u1, u2, u3⟩ := own_bad (1 : Int32) (by decide) (by have := rng32 (1 : Int32); omega)
          exact absurd c5 u2
      ·
        refine own_d2 33 (fun _ q => XS.icmpNo X2.here hx rfl (hb hby at_30) rfl (flt c5).2.2.1 q) ?_
        refine own_tp (.int (1 : Int32)) 34 (fun _ q => XS.iconst X2.here hx rfl (hb hby at_33) q) ?_
        refine own_d0 38 (fun _ q => XS.goto X2.here hx rfl (pc0 := 34) (pc' := 38) rfl (hb hby at_34) (by decide) (by decide) q) ?_
        refine own_ls #[.val (.int p0), .val (.int (1 : Int32)), .val (.int (own_next (1 : Int32))), .val (.long (((own_next (1 : Int32)).toInt64) - ((1 : Int32).toInt64))), .second, .val (.int (1 : Int32)), .unset] 40 (fun _ q => XS.istore X2.here hx rfl (hb hby at_38) rfl (l' := #[.val (.int p0), .val (.int (1 : Int32)), .val (.int (own_next (1 : Int32))), .val (.long (((own_next (1 : Int32)).toInt64) - ((1 : Int32).toInt64))), .second, .val (.int (1 : Int32)), .unset]) rfl q) ?_
        refine own_tp (.long (((own_next (1 : Int32)).toInt64) - ((1 : Int32).toInt64))) 41 (fun _ q => XS.lloadN X2.here hx rfl (hb hby at_40) rfl q) ?_
        refine own_tp (.long (1 : Int64)) 42 (fun _ q => XS.lconst X2.here hx rfl (hb hby at_41) q) ?_
        refine own_t2 (.int (lcmpW (((own_next (1 : Int32)).toInt64) - ((1 : Int32).toInt64)) (1 : Int64))) 43 (fun _ q => XS.lcmp X2.here hx rfl (hb hby at_42) rfl q) ?_
        by_cases c7 : (lcmpW (((own_next (1 : Int32)).toInt64) - ((1 : Int32).toInt64)) (1 : Int64)) = (0 : Int32)
        ·
          refine own_d1 57 (fun _ q => XS.ifYes X2.here hx rfl (pc0 := 43) (pc' := 57) rfl (hb hby at_43) rfl ((if0 _ _).trans (teq c7).1) (by decide) (by decide) q) ?_
          refine own_tp (.int (1 : Int32)) 58 (fun _ q => XS.iconst X2.here hx rfl (hb hby at_57) q) ?_
          refine own_d0 62 (fun _ q => XS.goto X2.here hx rfl (pc0 := 58) (pc' := 62) rfl (hb hby at_58) (by decide) (by decide) q) ?_
          refine own_ls #[.val (.int p0), .val (.int (1 : Int32)), .val (.int (own_next (1 : Int32))), .val (.long (((own_next (1 : Int32)).toInt64) - ((1 : Int32).toInt64))), .second, .val (.int (1 : Int32)), .val (.int (1 : Int32))] 64 (fun _ q => XS.istore X2.here hx rfl (hb hby at_62) rfl (l' := #[.val (.int p0), .val (.int (1 : Int32)), .val (.int (own_next (1 : Int32))), .val (.long (((own_next (1 : Int32)).toInt64) - ((1 : Int32).toInt64))), .second, .val (.int (1 : Int32)), .val (.int (1 : Int32))]) rfl q) ?_
          refine own_tp (.int (1 : Int32)) 66 (fun _ q => XS.iload X2.here hx rfl (hb hby at_64) rfl q) ?_
          refine own_d1 69 (fun _ q => XS.ifNo X2.here hx rfl (hb hby at_66) rfl ((if0 _ _).trans (feq (by decide : ¬ ((1 : Int32) = (0 : Int32)))).1) q) ?_
          refine own_tp (.int (1 : Int32)) 71 (fun _ q => XS.iload X2.here hx rfl (hb hby at_69) rfl q) ?_
          refine own_d1 74 (fun _ q => XS.ifNo X2.here hx rfl (hb hby at_71) rfl ((if0 _ _).trans (feq (by decide : ¬ ((1 : Int32) = (0 : Int32)))).1) q) ?_
          refine own_tp (.int (1 : Int32)) 75 (fun _ q => XS.iconst X2.here hx rfl (hb hby at_74) q) ?_
          refine own_d0 79 (fun _ q => XS.goto X2.here hx rfl (pc0 := 75) (pc' := 79) rfl (hb hby at_75) (by decide) (by decide) q) ?_
          exact own_retN (t := .boolean) X2 hx hrt (hb hby at_79) (by simp) hlk (by decide) (by decide) eq2 (⟨rfl, N2⟩)
        ·
          refine own_d1 46 (fun _ q => XS.ifNo X2.here hx rfl (hb hby at_43) rfl ((if0 _ _).trans (feq c7).1) q) ?_
          refine own_tp (.int (1 : Int32)) 47 (fun _ q => XS.iloadN X2.here hx rfl (hb hby at_46) rfl q) ?_
          refine own_tp (.int (2147483647 : Int32)) 49 (fun _ q => X2.ldcInt hx hown (mvT hZ (hw _ (List.mem_of_getElem? (i := 0) rfl))) (g := (mkF m 47 #[.val (.int p0), .val (.int (1 : Int32)), .val (.int (own_next (1 : Int32))), .val (.long (((own_next (1 : Int32)).toInt64) - ((1 : Int32).toInt64))), .second, .val (.int (1 : Int32)), .unset] [(.int (1 : Int32))])) rfl (hb hby at_47) _ q) ?_
          refine own_d2 61 (fun _ q => XS.icmpYes X2.here hx rfl (pc0 := 49) (pc' := 61) rfl (hb hby at_49) rfl (feq (by decide : ¬ ((1 : Int32) = (2147483647 : Int32)))).2 (by decide) (by decide) q) ?_
          refine own_tp (.int (0 : Int32)) 62 (fun _ q => XS.iconst X2.here hx rfl (hb hby at_61) q) ?_
          refine own_ls #[.val (.int p0), .val (.int (1 : Int32)), .val (.int (own_next (1 : Int32))), .val (.long (((own_next (1 : Int32)).toInt64) - ((1 : Int32).toInt64))), .second, .val (.int (1 : Int32)), .val (.int (0 : Int32))] 64 (fun _ q => XS.istore X2.here hx rfl (hb hby at_62) rfl (l' := #[.val (.int p0), .val (.int (1 : Int32)), .val (.int (own_next (1 : Int32))), .val (.long (((own_next (1 : Int32)).toInt64) - ((1 : Int32).toInt64))), .second, .val (.int (1 : Int32)), .val (.int (0 : Int32))]) rfl q) ?_
          refine own_tp (.int (1 : Int32)) 66 (fun _ q => XS.iload X2.here hx rfl (hb hby at_64) rfl q) ?_
          refine own_d1 69 (fun _ q => XS.ifNo X2.here hx rfl (hb hby at_66) rfl ((if0 _ _).trans (feq (by decide : ¬ ((1 : Int32) = (0 : Int32)))).1) q) ?_
          refine own_tp (.int (0 : Int32)) 71 (fun _ q => XS.iload X2.here hx rfl (hb hby at_69) rfl q) ?_
          refine own_d1 78 (fun _ q => XS.ifYes X2.here hx rfl (pc0 := 71) (pc' := 78) rfl (hb hby at_71) rfl ((if0 _ _).trans (teq (by decide : (0 : Int32) = (0 : Int32))).1) (by decide) (by decide) q) ?_
          refine own_tp (.int (0 : Int32)) 79 (fun _ q => XS.iconst X2.here hx rfl (hb hby at_78) q) ?_
          obtain ⟨u1, u2, u3⟩ := own_bad (1 : Int32) (by decide) (by have := rng32 (1 : Int32); omega)
          exact absurd (u3 c7).1 (by decide)
  ·
    refine own_d1 11 (fun _ q => XS.ifYes X0.here hx rfl (pc0 := 6) (pc' := 11) rfl (hb hby at_6) rfl ((if0 _ _).trans (feq c1).2) (by decide) (by decide) q) ?_
    refine own_tp (.int (p0 &&& (2147483647 : Int32))) 12 (fun _ q => XS.iloadN X0.here hx rfl (hb hby at_11) rfl q) ?_
    obtain ⟨_, _, ⟨T8, L8, k8, n8⟩, -, X8, ⟨Lc8, hQ8, l8, y8, z8⟩, st8⟩ := Jvm.LawKit.callS X0 hx (y := (⟨"com/example/euglena/euglena/SequenceNumber", "next", "(I)I"⟩ : MethodName)) hown (mvT hZ (hw _ (List.mem_of_getElem? (i := 1) rfl))) (mvT hZ (hw _ (List.mem_of_getElem? (i := 2) rfl))) (mvT hZ (hw _ (List.mem_of_getElem? (i := 3) rfl))) (mvT hZ (hw _ (List.mem_of_getElem? (i := 4) rfl))) (by decide) (backOf (W := 0) (rm1 l Z a0 hw [] (p0 &&& (2147483647 : Int32)) h0 n0 ) hZ (hw _ (List.mem_of_getElem? (i := 4) rfl)) (hw _ (List.mem_of_getElem? (i := 3) rfl)) (by decide) (by decide)) (g := (mkF m 12 #[.val (.int p0), .val (.int (p0 &&& (2147483647 : Int32))), .unset, .unset, .unset, .unset, .unset] [(.int (p0 &&& (2147483647 : Int32)))])) rfl (by rw [hml]; rfl) (argsL := [(.int (p0 &&& (2147483647 : Int32)))]) (rest := []) (lenOf pd0_0 rfl) rfl (by show 2 * 0 + _ ≤ _; exact Nat.le_of_eq rfl) (hb hby at_12) (fun _ _ => ⟨rfl, e0, (by decide : 0 + 0 ≤ _), (by decide : 0 + 0 ≤ _)⟩)
    dsimp only [Pt.U, Pt.locs, Pt.cells, Pt.slots] at X8 l8 y8 z8 st8 hQ8
    subst l8 y8 z8
    obtain ⟨rfl, Nq8, eq8⟩ := hQ8
    have N8 := Fr.app N0 Nq8
    refine own_t1 (.int (own_next (p0 &&& (2147483647 : Int32)))) 15 st8 ?_
    refine own_ls #[.val (.int p0), .val (.int (p0 &&& (2147483647 : Int32))), .val (.int (own_next (p0 &&& (2147483647 : Int32)))), .unset, .unset, .unset, .unset] 16 (fun _ q => XS.istoreN X8.here hx rfl (hb hby at_15) rfl (l' := #[.val (.int p0), .val (.int (p0 &&& (2147483647 : Int32))), .val (.int (own_next (p0 &&& (2147483647 : Int32)))), .unset, .unset, .unset, .unset]) rfl q) ?_
    refine own_tp (.int (own_next (p0 &&& (2147483647 : Int32)))) 17 (fun _ q => XS.iloadN X8.here hx rfl (hb hby at_16) rfl q) ?_
    refine own_t1 (.long ((own_next (p0 &&& (2147483647 : Int32))).toInt64)) 18 (fun _ q => XS.i2l X8.here hx rfl (hb hby at_17) rfl q) ?_
    refine own_tp (.int (p0 &&& (2147483647 : Int32))) 19 (fun _ q => XS.iloadN X8.here hx rfl (hb hby at_18) rfl q) ?_
    refine own_t1 (.long ((p0 &&& (2147483647 : Int32)).toInt64)) 20 (fun _ q => XS.i2l X8.here hx rfl (hb hby at_19) rfl q) ?_
    refine own_t2 (.long (((own_next (p0 &&& (2147483647 : Int32))).toInt64) - ((p0 &&& (2147483647 : Int32)).toInt64))) 21 (fun _ q => XS.lsub X8.here hx rfl (hb hby at_20) rfl q) ?_
    refine own_ls #[.val (.int p0), .val (.int (p0 &&& (2147483647 : Int32))), .val (.int (own_next (p0 &&& (2147483647 : Int32)))), .val (.long (((own_next (p0 &&& (2147483647 : Int32))).toInt64) - ((p0 &&& (2147483647 : Int32)).toInt64))), .second, .unset, .unset] 22 (fun _ q => XS.lstoreN X8.here hx rfl (hb hby at_21) rfl (l' := #[.val (.int p0), .val (.int (p0 &&& (2147483647 : Int32))), .val (.int (own_next (p0 &&& (2147483647 : Int32)))), .val (.long (((own_next (p0 &&& (2147483647 : Int32))).toInt64) - ((p0 &&& (2147483647 : Int32)).toInt64))), .second, .unset, .unset]) rfl q) ?_
    refine own_tp (.int (own_next (p0 &&& (2147483647 : Int32)))) 23 (fun _ q => XS.iloadN X8.here hx rfl (hb hby at_22) rfl q) ?_
    refine own_tp (.int (1 : Int32)) 24 (fun _ q => XS.iconst X8.here hx rfl (hb hby at_23) q) ?_
    by_cases c9 : (own_next (p0 &&& (2147483647 : Int32))) < (1 : Int32)
    ·
      refine own_d2 37 (fun _ q => XS.icmpYes X8.here hx rfl (pc0 := 24) (pc' := 37) rfl (hb hby at_24) rfl (tlt c9).1 (by decide) (by decide) q) ?_
      refine own_tp (.int (0 : Int32)) 38 (fun _ q => XS.iconst X8.here hx rfl (hb hby at_37) q) ?_
      refine own_ls #[.val (.int p0), .val (.int (p0 &&& (2147483647 : Int32))), .val (.int (own_next (p0 &&& (2147483647 : Int32)))), .val (.long (((own_next (p0 &&& (2147483647 : Int32))).toInt64) - ((p0 &&& (2147483647 : Int32)).toInt64))), .second, .val (.int (0 : Int32)), .unset] 40 (fun _ q => XS.istore X8.here hx rfl (hb hby at_38) rfl (l' := #[.val (.int p0), .val (.int (p0 &&& (2147483647 : Int32))), .val (.int (own_next (p0 &&& (2147483647 : Int32)))), .val (.long (((own_next (p0 &&& (2147483647 : Int32))).toInt64) - ((p0 &&& (2147483647 : Int32)).toInt64))), .second, .val (.int (0 : Int32)), .unset]) rfl q) ?_
      refine own_tp (.long (((own_next (p0 &&& (2147483647 : Int32))).toInt64) - ((p0 &&& (2147483647 : Int32)).toInt64))) 41 (fun _ q => XS.lloadN X8.here hx rfl (hb hby at_40) rfl q) ?_
      refine own_tp (.long (1 : Int64)) 42 (fun _ q => XS.lconst X8.here hx rfl (hb hby at_41) q) ?_
      refine own_t2 (.int (lcmpW (((own_next (p0 &&& (2147483647 : Int32))).toInt64) - ((p0 &&& (2147483647 : Int32)).toInt64)) (1 : Int64))) 43 (fun _ q => XS.lcmp X8.here hx rfl (hb hby at_42) rfl q) ?_
      by_cases c10 : (lcmpW (((own_next (p0 &&& (2147483647 : Int32))).toInt64) - ((p0 &&& (2147483647 : Int32)).toInt64)) (1 : Int64)) = (0 : Int32)
      ·
        refine own_d1 57 (fun _ q => XS.ifYes X8.here hx rfl (pc0 := 43) (pc' := 57) rfl (hb hby at_43) rfl ((if0 _ _).trans (teq c10).1) (by decide) (by decide) q) ?_
        refine own_tp (.int (1 : Int32)) 58 (fun _ q => XS.iconst X8.here hx rfl (hb hby at_57) q) ?_
        refine own_d0 62 (fun _ q => XS.goto X8.here hx rfl (pc0 := 58) (pc' := 62) rfl (hb hby at_58) (by decide) (by decide) q) ?_
        refine own_ls #[.val (.int p0), .val (.int (p0 &&& (2147483647 : Int32))), .val (.int (own_next (p0 &&& (2147483647 : Int32)))), .val (.long (((own_next (p0 &&& (2147483647 : Int32))).toInt64) - ((p0 &&& (2147483647 : Int32)).toInt64))), .second, .val (.int (0 : Int32)), .val (.int (1 : Int32))] 64 (fun _ q => XS.istore X8.here hx rfl (hb hby at_62) rfl (l' := #[.val (.int p0), .val (.int (p0 &&& (2147483647 : Int32))), .val (.int (own_next (p0 &&& (2147483647 : Int32)))), .val (.long (((own_next (p0 &&& (2147483647 : Int32))).toInt64) - ((p0 &&& (2147483647 : Int32)).toInt64))), .second, .val (.int (0 : Int32)), .val (.int (1 : Int32))]) rfl q) ?_
        refine own_tp (.int (0 : Int32)) 66 (fun _ q => XS.iload X8.here hx rfl (hb hby at_64) rfl q) ?_
        refine own_d1 78 (fun _ q => XS.ifYes X8.here hx rfl (pc0 := 66) (pc' := 78) rfl (hb hby at_66) rfl ((if0 _ _).trans (teq (by decide : (0 : Int32) = (0 : Int32))).1) (by decide) (by decide) q) ?_
        refine own_tp (.int (0 : Int32)) 79 (fun _ q => XS.iconst X8.here hx rfl (hb hby at_78) q) ?_
        obtain ⟨u1, u2, u3⟩ := own_bad (p0 &&& (2147483647 : Int32)) (own_pos p0 c1) (by have := rng32 (p0 &&& (2147483647 : Int32)); omega)
        exact absurd c9 u1
      ·
        refine own_d1 46 (fun _ q => XS.ifNo X8.here hx rfl (hb hby at_43) rfl ((if0 _ _).trans (feq c10).1) q) ?_
        refine own_tp (.int (p0 &&& (2147483647 : Int32))) 47 (fun _ q => XS.iloadN X8.here hx rfl (hb hby at_46) rfl q) ?_
        refine own_tp (.int (2147483647 : Int32)) 49 (fun _ q => X8.ldcInt hx hown (mvT hZ (hw _ (List.mem_of_getElem? (i := 0) rfl))) (g := (mkF m 47 #[.val (.int p0), .val (.int (p0 &&& (2147483647 : Int32))), .val (.int (own_next (p0 &&& (2147483647 : Int32)))), .val (.long (((own_next (p0 &&& (2147483647 : Int32))).toInt64) - ((p0 &&& (2147483647 : Int32)).toInt64))), .second, .val (.int (0 : Int32)), .unset] [(.int (p0 &&& (2147483647 : Int32)))])) rfl (hb hby at_47) _ q) ?_
        by_cases c11 : (p0 &&& (2147483647 : Int32)) = (2147483647 : Int32)
        ·
          refine own_d2 52 (fun _ q => XS.icmpNo X8.here hx rfl (hb hby at_49) rfl (teq c11).2 q) ?_
          refine own_tp (.int (own_next (p0 &&& (2147483647 : Int32)))) 53 (fun _ q => XS.iloadN X8.here hx rfl (hb hby at_52) rfl q) ?_
          refine own_tp (.int (1 : Int32)) 54 (fun _ q => XS.iconst X8.here hx rfl (hb hby at_53) q) ?_
          by_cases c12 : (own_next (p0 &&& (2147483647 : Int32))) = (1 : Int32)
          ·
            refine own_d2 57 (fun _ q => XS.icmpNo X8.here hx rfl (hb hby at_54) rfl (teq c12).2 q) ?_
            refine own_tp (.int (1 : Int32)) 58 (fun _ q => XS.iconst X8.here hx rfl (hb hby at_57) q) ?_
            refine own_d0 62 (fun _ q => XS.goto X8.here hx rfl (pc0 := 58) (pc' := 62) rfl (hb hby at_58) (by decide) (by decide) q) ?_
            refine own_ls #[.val (.int p0), .val (.int (p0 &&& (2147483647 : Int32))), .val (.int (own_next (p0 &&& (2147483647 : Int32)))), .val (.long (((own_next (p0 &&& (2147483647 : Int32))).toInt64) - ((p0 &&& (2147483647 : Int32)).toInt64))), .second, .val (.int (0 : Int32)), .val (.int (1 : Int32))] 64 (fun _ q => XS.istore X8.here hx rfl (hb hby at_62) rfl (l' := #[.val (.int p0), .val (.int (p0 &&& (2147483647 : Int32))), .val (.int (own_next (p0 &&& (2147483647 : Int32)))), .val (.long (((own_next (p0 &&& (2147483647 : Int32))).toInt64) - ((p0 &&& (2147483647 : Int32)).toInt64))), .second, .val (.int (0 : Int32)), .val (.int (1 : Int32))]) rfl q) ?_
            refine own_tp (.int (0 : Int32)) 66 (fun _ q => XS.iload X8.here hx rfl (hb hby at_64) rfl q) ?_
            refine own_d1 78 (fun _ q => XS.ifYes X8.here hx rfl (pc0 := 66) (pc' := 78) rfl (hb hby at_66) rfl ((if0 _ _).trans (teq (by decide : (0 : Int32) = (0 : Int32))).1) (by decide) (by decide) q) ?_
            refine own_tp (.int (0 : Int32)) 79 (fun _ q => XS.iconst X8.here hx rfl (hb hby at_78) q) ?_
            obtain ⟨u1, u2, u3⟩ := own_bad (p0 &&& (2147483647 : Int32)) (own_pos p0 c1) (by have := rng32 (p0 &&& (2147483647 : Int32)); omega)
            exact absurd c9 u1
          ·
            refine own_d2 61 (fun _ q => XS.icmpYes X8.here hx rfl (pc0 := 54) (pc' := 61) rfl (hb hby at_54) rfl (feq c12).2 (by decide) (by decide) q) ?_
            refine own_tp (.int (0 : Int32)) 62 (fun _ q => XS.iconst X8.here hx rfl (hb hby at_61) q) ?_
            refine own_ls #[.val (.int p0), .val (.int (p0 &&& (2147483647 : Int32))), .val (.int (own_next (p0 &&& (2147483647 : Int32)))), .val (.long (((own_next (p0 &&& (2147483647 : Int32))).toInt64) - ((p0 &&& (2147483647 : Int32)).toInt64))), .second, .val (.int (0 : Int32)), .val (.int (0 : Int32))] 64 (fun _ q => XS.istore X8.here hx rfl (hb hby at_62) rfl (l' := #[.val (.int p0), .val (.int (p0 &&& (2147483647 : Int32))), .val (.int (own_next (p0 &&& (2147483647 : Int32)))), .val (.long (((own_next (p0 &&& (2147483647 : Int32))).toInt64) - ((p0 &&& (2147483647 : Int32)).toInt64))), .second, .val (.int (0 : Int32)), .val (.int (0 : Int32))]) rfl q) ?_
            refine own_tp (.int (0 : Int32)) 66 (fun _ q => XS.iload X8.here hx rfl (hb hby at_64) rfl q) ?_
            refine own_d1 78 (fun _ q => XS.ifYes X8.here hx rfl (pc0 := 66) (pc' := 78) rfl (hb hby at_66) rfl ((if0 _ _).trans (teq (by decide : (0 : Int32) = (0 : Int32))).1) (by decide) (by decide) q) ?_
            refine own_tp (.int (0 : Int32)) 79 (fun _ q => XS.iconst X8.here hx rfl (hb hby at_78) q) ?_
            obtain ⟨u1, u2, u3⟩ := own_bad (p0 &&& (2147483647 : Int32)) (own_pos p0 c1) (by have := rng32 (p0 &&& (2147483647 : Int32)); omega)
            exact absurd c9 u1
        ·
          refine own_d2 61 (fun _ q => XS.icmpYes X8.here hx rfl (pc0 := 49) (pc' := 61) rfl (hb hby at_49) rfl (feq c11).2 (by decide) (by decide) q) ?_
          refine own_tp (.int (0 : Int32)) 62 (fun _ q => XS.iconst X8.here hx rfl (hb hby at_61) q) ?_
          refine own_ls #[.val (.int p0), .val (.int (p0 &&& (2147483647 : Int32))), .val (.int (own_next (p0 &&& (2147483647 : Int32)))), .val (.long (((own_next (p0 &&& (2147483647 : Int32))).toInt64) - ((p0 &&& (2147483647 : Int32)).toInt64))), .second, .val (.int (0 : Int32)), .val (.int (0 : Int32))] 64 (fun _ q => XS.istore X8.here hx rfl (hb hby at_62) rfl (l' := #[.val (.int p0), .val (.int (p0 &&& (2147483647 : Int32))), .val (.int (own_next (p0 &&& (2147483647 : Int32)))), .val (.long (((own_next (p0 &&& (2147483647 : Int32))).toInt64) - ((p0 &&& (2147483647 : Int32)).toInt64))), .second, .val (.int (0 : Int32)), .val (.int (0 : Int32))]) rfl q) ?_
          refine own_tp (.int (0 : Int32)) 66 (fun _ q => XS.iload X8.here hx rfl (hb hby at_64) rfl q) ?_
          refine own_d1 78 (fun _ q => XS.ifYes X8.here hx rfl (pc0 := 66) (pc' := 78) rfl (hb hby at_66) rfl ((if0 _ _).trans (teq (by decide : (0 : Int32) = (0 : Int32))).1) (by decide) (by decide) q) ?_
          refine own_tp (.int (0 : Int32)) 79 (fun _ q => XS.iconst X8.here hx rfl (hb hby at_78) q) ?_
          obtain ⟨u1, u2, u3⟩ := own_bad (p0 &&& (2147483647 : Int32)) (own_pos p0 c1) (by have := rng32 (p0 &&& (2147483647 : Int32)); omega)
          exact absurd c9 u1
    ·
      refine own_d2 27 (fun _ q => XS.icmpNo X8.here hx rfl (hb hby at_24) rfl (flt c9).1 q) ?_
      refine own_tp (.int (own_next (p0 &&& (2147483647 : Int32)))) 28 (fun _ q => XS.iloadN X8.here hx rfl (hb hby at_27) rfl q) ?_
      refine own_tp (.int (2147483647 : Int32)) 30 (fun _ q => X8.ldcInt hx hown (mvT hZ (hw _ (List.mem_of_getElem? (i := 0) rfl))) (g := (mkF m 28 #[.val (.int p0), .val (.int (p0 &&& (2147483647 : Int32))), .val (.int (own_next (p0 &&& (2147483647 : Int32)))), .val (.long (((own_next (p0 &&& (2147483647 : Int32))).toInt64) - ((p0 &&& (2147483647 : Int32)).toInt64))), .second, .unset, .unset] [(.int (own_next (p0 &&& (2147483647 : Int32))))])) rfl (hb hby at_28) _ q) ?_
      by_cases c13 : (2147483647 : Int32) < (own_next (p0 &&& (2147483647 : Int32)))
      ·
        refine own_d2 37 (fun _ q => XS.icmpYes X8.here hx rfl (pc0 := 30) (pc' := 37) rfl (hb hby at_30) rfl (tlt c13).2.2.1 (by decide) (by decide) q) ?_
        refine own_tp (.int (0 : Int32)) 38 (fun _ q => XS.iconst X8.here hx rfl (hb hby at_37) q) ?_
        refine own_ls #[.val (.int p0), .val (.int (p0 &&& (2147483647 : Int32))), .val (.int (own_next (p0 &&& (2147483647 : Int32)))), .val (.long (((own_next (p0 &&& (2147483647 : Int32))).toInt64) - ((p0 &&& (2147483647 : Int32)).toInt64))), .second, .val (.int (0 : Int32)), .unset] 40 (fun _ q => XS.istore X8.here hx rfl (hb hby at_38) rfl (l' := #[.val (.int p0), .val (.int (p0 &&& (2147483647 : Int32))), .val (.int (own_next (p0 &&& (2147483647 : Int32)))), .val (.long (((own_next (p0 &&& (2147483647 : Int32))).toInt64) - ((p0 &&& (2147483647 : Int32)).toInt64))), .second, .val (.int (0 : Int32)), .unset]) rfl q) ?_
        refine own_tp (.long (((own_next (p0 &&& (2147483647 : Int32))).toInt64) - ((p0 &&& (2147483647 : Int32)).toInt64))) 41 (fun _ q => XS.lloadN X8.here hx rfl (hb hby at_40) rfl q) ?_
        refine own_tp (.long (1 : Int64)) 42 (fun _ q => XS.lconst X8.here hx rfl (hb hby at_41) q) ?_
        refine own_t2 (.int (lcmpW (((own_next (p0 &&& (2147483647 : Int32))).toInt64) - ((p0 &&& (2147483647 : Int32)).toInt64)) (1 : Int64))) 43 (fun _ q => XS.lcmp X8.here hx rfl (hb hby at_42) rfl q) ?_
        by_cases c14 : (lcmpW (((own_next (p0 &&& (2147483647 : Int32))).toInt64) - ((p0 &&& (2147483647 : Int32)).toInt64)) (1 : Int64)) = (0 : Int32)
        ·
          refine own_d1 57 (fun _ q => XS.ifYes X8.here hx rfl (pc0 := 43) (pc' := 57) rfl (hb hby at_43) rfl ((if0 _ _).trans (teq c14).1) (by decide) (by decide) q) ?_
          refine own_tp (.int (1 : Int32)) 58 (fun _ q => XS.iconst X8.here hx rfl (hb hby at_57) q) ?_
          refine own_d0 62 (fun _ q => XS.goto X8.here hx rfl (pc0 := 58) (pc' := 62) rfl (hb hby at_58) (by decide) (by decide) q) ?_
          refine own_ls #[.val (.int p0), .val (.int (p0 &&& (2147483647 : Int32))), .val (.int (own_next (p0 &&& (2147483647 : Int32)))), .val (.long (((own_next (p0 &&& (2147483647 : Int32))).toInt64) - ((p0 &&& (2147483647 : Int32)).toInt64))), .second, .val (.int (0 : Int32)), .val (.int (1 : Int32))] 64 (fun _ q => XS.istore X8.here hx rfl (hb hby at_62) rfl (l' := #[.val (.int p0), .val (.int (p0 &&& (2147483647 : Int32))), .val (.int (own_next (p0 &&& (2147483647 : Int32)))), .val (.long (((own_next (p0 &&& (2147483647 : Int32))).toInt64) - ((p0 &&& (2147483647 : Int32)).toInt64))), .second, .val (.int (0 : Int32)), .val (.int (1 : Int32))]) rfl q) ?_
          refine own_tp (.int (0 : Int32)) 66 (fun _ q => XS.iload X8.here hx rfl (hb hby at_64) rfl q) ?_
          refine own_d1 78 (fun _ q => XS.ifYes X8.here hx rfl (pc0 := 66) (pc' := 78) rfl (hb hby at_66) rfl ((if0 _ _).trans (teq (by decide : (0 : Int32) = (0 : Int32))).1) (by decide) (by decide) q) ?_
          refine own_tp (.int (0 : Int32)) 79 (fun _ q => XS.iconst X8.here hx rfl (hb hby at_78) q) ?_
          obtain ⟨u1, u2, u3⟩ := own_bad (p0 &&& (2147483647 : Int32)) (own_pos p0 c1) (by have := rng32 (p0 &&& (2147483647 : Int32)); omega)
          exact absurd c13 u2
        ·
          refine own_d1 46 (fun _ q => XS.ifNo X8.here hx rfl (hb hby at_43) rfl ((if0 _ _).trans (feq c14).1) q) ?_
          refine own_tp (.int (p0 &&& (2147483647 : Int32))) 47 (fun _ q => XS.iloadN X8.here hx rfl (hb hby at_46) rfl q) ?_
          refine own_tp (.int (2147483647 : Int32)) 49 (fun _ q => X8.ldcInt hx hown (mvT hZ (hw _ (List.mem_of_getElem? (i := 0) rfl))) (g := (mkF m 47 #[.val (.int p0), .val (.int (p0 &&& (2147483647 : Int32))), .val (.int (own_next (p0 &&& (2147483647 : Int32)))), .val (.long (((own_next (p0 &&& (2147483647 : Int32))).toInt64) - ((p0 &&& (2147483647 : Int32)).toInt64))), .second, .val (.int (0 : Int32)), .unset] [(.int (p0 &&& (2147483647 : Int32)))])) rfl (hb hby at_47) _ q) ?_
          by_cases c15 : (p0 &&& (2147483647 : Int32)) = (2147483647 : Int32)
          ·
            refine own_d2 52 (fun _ q => XS.icmpNo X8.here hx rfl (hb hby at_49) rfl (teq c15).2 q) ?_
            refine own_tp (.int (own_next (p0 &&& (2147483647 : Int32)))) 53 (fun _ q => XS.iloadN X8.here hx rfl (hb hby at_52) rfl q) ?_
            refine own_tp (.int (1 : Int32)) 54 (fun _ q => XS.iconst X8.here hx rfl (hb hby at_53) q) ?_
            by_cases c16 : (own_next (p0 &&& (2147483647 : Int32))) = (1 : Int32)
            ·
              refine own_d2 57 (fun _ q => XS.icmpNo X8.here hx rfl (hb hby at_54) rfl (teq c16).2 q) ?_
              refine own_tp (.int (1 : Int32)) 58 (fun _ q => XS.iconst X8.here hx rfl (hb hby at_57) q) ?_
              refine own_d0 62 (fun _ q => XS.goto X8.here hx rfl (pc0 := 58) (pc' := 62) rfl (hb hby at_58) (by decide) (by decide) q) ?_
              refine own_ls #[.val (.int p0), .val (.int (p0 &&& (2147483647 : Int32))), .val (.int (own_next (p0 &&& (2147483647 : Int32)))), .val (.long (((own_next (p0 &&& (2147483647 : Int32))).toInt64) - ((p0 &&& (2147483647 : Int32)).toInt64))), .second, .val (.int (0 : Int32)), .val (.int (1 : Int32))] 64 (fun _ q => XS.istore X8.here hx rfl (hb hby at_62) rfl (l' := #[.val (.int p0), .val (.int (p0 &&& (2147483647 : Int32))), .val (.int (own_next (p0 &&& (2147483647 : Int32)))), .val (.long (((own_next (p0 &&& (2147483647 : Int32))).toInt64) - ((p0 &&& (2147483647 : Int32)).toInt64))), .second, .val (.int (0 : Int32)), .val (.int (1 : Int32))]) rfl q) ?_
              refine own_tp (.int (0 : Int32)) 66 (fun _ q => XS.iload X8.here hx rfl (hb hby at_64) rfl q) ?_
              refine own_d1 78 (fun _ q => XS.ifYes X8.here hx rfl (pc0 := 66) (pc' := 78) rfl (hb hby at_66) rfl ((if0 _ _).trans (teq (by decide : (0 : Int32) = (0 : Int32))).1) (by decide) (by decide) q) ?_
              refine own_tp (.int (0 : Int32)) 79 (fun _ q => XS.iconst X8.here hx rfl (hb hby at_78) q) ?_
              obtain ⟨u1, u2, u3⟩ := own_bad (p0 &&& (2147483647 : Int32)) (own_pos p0 c1) (by have := rng32 (p0 &&& (2147483647 : Int32)); omega)
              exact absurd c13 u2
            ·
              refine own_d2 61 (fun _ q => XS.icmpYes X8.here hx rfl (pc0 := 54) (pc' := 61) rfl (hb hby at_54) rfl (feq c16).2 (by decide) (by decide) q) ?_
              refine own_tp (.int (0 : Int32)) 62 (fun _ q => XS.iconst X8.here hx rfl (hb hby at_61) q) ?_
              refine own_ls #[.val (.int p0), .val (.int (p0 &&& (2147483647 : Int32))), .val (.int (own_next (p0 &&& (2147483647 : Int32)))), .val (.long (((own_next (p0 &&& (2147483647 : Int32))).toInt64) - ((p0 &&& (2147483647 : Int32)).toInt64))), .second, .val (.int (0 : Int32)), .val (.int (0 : Int32))] 64 (fun _ q => XS.istore X8.here hx rfl (hb hby at_62) rfl (l' := #[.val (.int p0), .val (.int (p0 &&& (2147483647 : Int32))), .val (.int (own_next (p0 &&& (2147483647 : Int32)))), .val (.long (((own_next (p0 &&& (2147483647 : Int32))).toInt64) - ((p0 &&& (2147483647 : Int32)).toInt64))), .second, .val (.int (0 : Int32)), .val (.int (0 : Int32))]) rfl q) ?_
              refine own_tp (.int (0 : Int32)) 66 (fun _ q => XS.iload X8.here hx rfl (hb hby at_64) rfl q) ?_
              refine own_d1 78 (fun _ q => XS.ifYes X8.here hx rfl (pc0 := 66) (pc' := 78) rfl (hb hby at_66) rfl ((if0 _ _).trans (teq (by decide : (0 : Int32) = (0 : Int32))).1) (by decide) (by decide) q) ?_
              refine own_tp (.int (0 : Int32)) 79 (fun _ q => XS.iconst X8.here hx rfl (hb hby at_78) q) ?_
              obtain ⟨u1, u2, u3⟩ := own_bad (p0 &&& (2147483647 : Int32)) (own_pos p0 c1) (by have := rng32 (p0 &&& (2147483647 : Int32)); omega)
              exact absurd c13 u2
          ·
            refine own_d2 61 (fun _ q => XS.icmpYes X8.here hx rfl (pc0 := 49) (pc' := 61) rfl (hb hby at_49) rfl (feq c15).2 (by decide) (by decide) q) ?_
            refine own_tp (.int (0 : Int32)) 62 (fun _ q => XS.iconst X8.here hx rfl (hb hby at_61) q) ?_
            refine own_ls #[.val (.int p0), .val (.int (p0 &&& (2147483647 : Int32))), .val (.int (own_next (p0 &&& (2147483647 : Int32)))), .val (.long (((own_next (p0 &&& (2147483647 : Int32))).toInt64) - ((p0 &&& (2147483647 : Int32)).toInt64))), .second, .val (.int (0 : Int32)), .val (.int (0 : Int32))] 64 (fun _ q => XS.istore X8.here hx rfl (hb hby at_62) rfl (l' := #[.val (.int p0), .val (.int (p0 &&& (2147483647 : Int32))), .val (.int (own_next (p0 &&& (2147483647 : Int32)))), .val (.long (((own_next (p0 &&& (2147483647 : Int32))).toInt64) - ((p0 &&& (2147483647 : Int32)).toInt64))), .second, .val (.int (0 : Int32)), .val (.int (0 : Int32))]) rfl q) ?_
            refine own_tp (.int (0 : Int32)) 66 (fun _ q => XS.iload X8.here hx rfl (hb hby at_64) rfl q) ?_
            refine own_d1 78 (fun _ q => XS.ifYes X8.here hx rfl (pc0 := 66) (pc' := 78) rfl (hb hby at_66) rfl ((if0 _ _).trans (teq (by decide : (0 : Int32) = (0 : Int32))).1) (by decide) (by decide) q) ?_
            refine own_tp (.int (0 : Int32)) 79 (fun _ q => XS.iconst X8.here hx rfl (hb hby at_78) q) ?_
            obtain ⟨u1, u2, u3⟩ := own_bad (p0 &&& (2147483647 : Int32)) (own_pos p0 c1) (by have := rng32 (p0 &&& (2147483647 : Int32)); omega)
            exact absurd c13 u2
      ·
        refine own_d2 33 (fun _ q => XS.icmpNo X8.here hx rfl (hb hby at_30) rfl (flt c13).2.2.1 q) ?_
        refine own_tp (.int (1 : Int32)) 34 (fun _ q => XS.iconst X8.here hx rfl (hb hby at_33) q) ?_
        refine own_d0 38 (fun _ q => XS.goto X8.here hx rfl (pc0 := 34) (pc' := 38) rfl (hb hby at_34) (by decide) (by decide) q) ?_
        refine own_ls #[.val (.int p0), .val (.int (p0 &&& (2147483647 : Int32))), .val (.int (own_next (p0 &&& (2147483647 : Int32)))), .val (.long (((own_next (p0 &&& (2147483647 : Int32))).toInt64) - ((p0 &&& (2147483647 : Int32)).toInt64))), .second, .val (.int (1 : Int32)), .unset] 40 (fun _ q => XS.istore X8.here hx rfl (hb hby at_38) rfl (l' := #[.val (.int p0), .val (.int (p0 &&& (2147483647 : Int32))), .val (.int (own_next (p0 &&& (2147483647 : Int32)))), .val (.long (((own_next (p0 &&& (2147483647 : Int32))).toInt64) - ((p0 &&& (2147483647 : Int32)).toInt64))), .second, .val (.int (1 : Int32)), .unset]) rfl q) ?_
        refine own_tp (.long (((own_next (p0 &&& (2147483647 : Int32))).toInt64) - ((p0 &&& (2147483647 : Int32)).toInt64))) 41 (fun _ q => XS.lloadN X8.here hx rfl (hb hby at_40) rfl q) ?_
        refine own_tp (.long (1 : Int64)) 42 (fun _ q => XS.lconst X8.here hx rfl (hb hby at_41) q) ?_
        refine own_t2 (.int (lcmpW (((own_next (p0 &&& (2147483647 : Int32))).toInt64) - ((p0 &&& (2147483647 : Int32)).toInt64)) (1 : Int64))) 43 (fun _ q => XS.lcmp X8.here hx rfl (hb hby at_42) rfl q) ?_
        by_cases c17 : (lcmpW (((own_next (p0 &&& (2147483647 : Int32))).toInt64) - ((p0 &&& (2147483647 : Int32)).toInt64)) (1 : Int64)) = (0 : Int32)
        ·
          refine own_d1 57 (fun _ q => XS.ifYes X8.here hx rfl (pc0 := 43) (pc' := 57) rfl (hb hby at_43) rfl ((if0 _ _).trans (teq c17).1) (by decide) (by decide) q) ?_
          refine own_tp (.int (1 : Int32)) 58 (fun _ q => XS.iconst X8.here hx rfl (hb hby at_57) q) ?_
          refine own_d0 62 (fun _ q => XS.goto X8.here hx rfl (pc0 := 58) (pc' := 62) rfl (hb hby at_58) (by decide) (by decide) q) ?_
          refine own_ls #[.val (.int p0), .val (.int (p0 &&& (2147483647 : Int32))), .val (.int (own_next (p0 &&& (2147483647 : Int32)))), .val (.long (((own_next (p0 &&& (2147483647 : Int32))).toInt64) - ((p0 &&& (2147483647 : Int32)).toInt64))), .second, .val (.int (1 : Int32)), .val (.int (1 : Int32))] 64 (fun _ q => XS.istore X8.here hx rfl (hb hby at_62) rfl (l' := #[.val (.int p0), .val (.int (p0 &&& (2147483647 : Int32))), .val (.int (own_next (p0 &&& (2147483647 : Int32)))), .val (.long (((own_next (p0 &&& (2147483647 : Int32))).toInt64) - ((p0 &&& (2147483647 : Int32)).toInt64))), .second, .val (.int (1 : Int32)), .val (.int (1 : Int32))]) rfl q) ?_
          refine own_tp (.int (1 : Int32)) 66 (fun _ q => XS.iload X8.here hx rfl (hb hby at_64) rfl q) ?_
          refine own_d1 69 (fun _ q => XS.ifNo X8.here hx rfl (hb hby at_66) rfl ((if0 _ _).trans (feq (by decide : ¬ ((1 : Int32) = (0 : Int32)))).1) q) ?_
          refine own_tp (.int (1 : Int32)) 71 (fun _ q => XS.iload X8.here hx rfl (hb hby at_69) rfl q) ?_
          refine own_d1 74 (fun _ q => XS.ifNo X8.here hx rfl (hb hby at_71) rfl ((if0 _ _).trans (feq (by decide : ¬ ((1 : Int32) = (0 : Int32)))).1) q) ?_
          refine own_tp (.int (1 : Int32)) 75 (fun _ q => XS.iconst X8.here hx rfl (hb hby at_74) q) ?_
          refine own_d0 79 (fun _ q => XS.goto X8.here hx rfl (pc0 := 75) (pc' := 79) rfl (hb hby at_75) (by decide) (by decide) q) ?_
          exact own_retN (t := .boolean) X8 hx hrt (hb hby at_79) (by simp) hlk (by decide) (by decide) eq8 (⟨rfl, N8⟩)
        ·
          refine own_d1 46 (fun _ q => XS.ifNo X8.here hx rfl (hb hby at_43) rfl ((if0 _ _).trans (feq c17).1) q) ?_
          refine own_tp (.int (p0 &&& (2147483647 : Int32))) 47 (fun _ q => XS.iloadN X8.here hx rfl (hb hby at_46) rfl q) ?_
          refine own_tp (.int (2147483647 : Int32)) 49 (fun _ q => X8.ldcInt hx hown (mvT hZ (hw _ (List.mem_of_getElem? (i := 0) rfl))) (g := (mkF m 47 #[.val (.int p0), .val (.int (p0 &&& (2147483647 : Int32))), .val (.int (own_next (p0 &&& (2147483647 : Int32)))), .val (.long (((own_next (p0 &&& (2147483647 : Int32))).toInt64) - ((p0 &&& (2147483647 : Int32)).toInt64))), .second, .val (.int (1 : Int32)), .unset] [(.int (p0 &&& (2147483647 : Int32)))])) rfl (hb hby at_47) _ q) ?_
          by_cases c18 : (p0 &&& (2147483647 : Int32)) = (2147483647 : Int32)
          ·
            refine own_d2 52 (fun _ q => XS.icmpNo X8.here hx rfl (hb hby at_49) rfl (teq c18).2 q) ?_
            refine own_tp (.int (own_next (p0 &&& (2147483647 : Int32)))) 53 (fun _ q => XS.iloadN X8.here hx rfl (hb hby at_52) rfl q) ?_
            refine own_tp (.int (1 : Int32)) 54 (fun _ q => XS.iconst X8.here hx rfl (hb hby at_53) q) ?_
            by_cases c19 : (own_next (p0 &&& (2147483647 : Int32))) = (1 : Int32)
            ·
              refine own_d2 57 (fun _ q => XS.icmpNo X8.here hx rfl (hb hby at_54) rfl (teq c19).2 q) ?_
              refine own_tp (.int (1 : Int32)) 58 (fun _ q => XS.iconst X8.here hx rfl (hb hby at_57) q) ?_
              refine own_d0 62 (fun _ q => XS.goto X8.here hx rfl (pc0 := 58) (pc' := 62) rfl (hb hby at_58) (by decide) (by decide) q) ?_
              refine own_ls #[.val (.int p0), .val (.int (p0 &&& (2147483647 : Int32))), .val (.int (own_next (p0 &&& (2147483647 : Int32)))), .val (.long (((own_next (p0 &&& (2147483647 : Int32))).toInt64) - ((p0 &&& (2147483647 : Int32)).toInt64))), .second, .val (.int (1 : Int32)), .val (.int (1 : Int32))] 64 (fun _ q => XS.istore X8.here hx rfl (hb hby at_62) rfl (l' := #[.val (.int p0), .val (.int (p0 &&& (2147483647 : Int32))), .val (.int (own_next (p0 &&& (2147483647 : Int32)))), .val (.long (((own_next (p0 &&& (2147483647 : Int32))).toInt64) - ((p0 &&& (2147483647 : Int32)).toInt64))), .second, .val (.int (1 : Int32)), .val (.int (1 : Int32))]) rfl q) ?_
              refine own_tp (.int (1 : Int32)) 66 (fun _ q => XS.iload X8.here hx rfl (hb hby at_64) rfl q) ?_
              refine own_d1 69 (fun _ q => XS.ifNo X8.here hx rfl (hb hby at_66) rfl ((if0 _ _).trans (feq (by decide : ¬ ((1 : Int32) = (0 : Int32)))).1) q) ?_
              refine own_tp (.int (1 : Int32)) 71 (fun _ q => XS.iload X8.here hx rfl (hb hby at_69) rfl q) ?_
              refine own_d1 74 (fun _ q => XS.ifNo X8.here hx rfl (hb hby at_71) rfl ((if0 _ _).trans (feq (by decide : ¬ ((1 : Int32) = (0 : Int32)))).1) q) ?_
              refine own_tp (.int (1 : Int32)) 75 (fun _ q => XS.iconst X8.here hx rfl (hb hby at_74) q) ?_
              refine own_d0 79 (fun _ q => XS.goto X8.here hx rfl (pc0 := 75) (pc' := 79) rfl (hb hby at_75) (by decide) (by decide) q) ?_
              exact own_retN (t := .boolean) X8 hx hrt (hb hby at_79) (by simp) hlk (by decide) (by decide) eq8 (⟨rfl, N8⟩)
            ·
              refine own_d2 61 (fun _ q => XS.icmpYes X8.here hx rfl (pc0 := 54) (pc' := 61) rfl (hb hby at_54) rfl (feq c19).2 (by decide) (by decide) q) ?_
              refine own_tp (.int (0 : Int32)) 62 (fun _ q => XS.iconst X8.here hx rfl (hb hby at_61) q) ?_
              refine own_ls #[.val (.int p0), .val (.int (p0 &&& (2147483647 : Int32))), .val (.int (own_next (p0 &&& (2147483647 : Int32)))), .val (.long (((own_next (p0 &&& (2147483647 : Int32))).toInt64) - ((p0 &&& (2147483647 : Int32)).toInt64))), .second, .val (.int (1 : Int32)), .val (.int (0 : Int32))] 64 (fun _ q => XS.istore X8.here hx rfl (hb hby at_62) rfl (l' := #[.val (.int p0), .val (.int (p0 &&& (2147483647 : Int32))), .val (.int (own_next (p0 &&& (2147483647 : Int32)))), .val (.long (((own_next (p0 &&& (2147483647 : Int32))).toInt64) - ((p0 &&& (2147483647 : Int32)).toInt64))), .second, .val (.int (1 : Int32)), .val (.int (0 : Int32))]) rfl q) ?_
              refine own_tp (.int (1 : Int32)) 66 (fun _ q => XS.iload X8.here hx rfl (hb hby at_64) rfl q) ?_
              refine own_d1 69 (fun _ q => XS.ifNo X8.here hx rfl (hb hby at_66) rfl ((if0 _ _).trans (feq (by decide : ¬ ((1 : Int32) = (0 : Int32)))).1) q) ?_
              refine own_tp (.int (0 : Int32)) 71 (fun _ q => XS.iload X8.here hx rfl (hb hby at_69) rfl q) ?_
              refine own_d1 78 (fun _ q => XS.ifYes X8.here hx rfl (pc0 := 71) (pc' := 78) rfl (hb hby at_71) rfl ((if0 _ _).trans (teq (by decide : (0 : Int32) = (0 : Int32))).1) (by decide) (by decide) q) ?_
              refine own_tp (.int (0 : Int32)) 79 (fun _ q => XS.iconst X8.here hx rfl (hb hby at_78) q) ?_
              obtain ⟨u1, u2, u3⟩ := own_bad (p0 &&& (2147483647 : Int32)) (own_pos p0 c1) (by have := rng32 (p0 &&& (2147483647 : Int32)); omega)
              exact absurd (u3 c17).2 c19
          ·
            refine own_d2 61 (fun _ q => XS.icmpYes X8.here hx rfl (pc0 := 49) (pc' := 61) rfl (hb hby at_49) rfl (feq c18).2 (by decide) (by decide) q) ?_
            refine own_tp (.int (0 : Int32)) 62 (fun _ q => XS.iconst X8.here hx rfl (hb hby at_61) q) ?_
            refine own_ls #[.val (.int p0), .val (.int (p0 &&& (2147483647 : Int32))), .val (.int (own_next (p0 &&& (2147483647 : Int32)))), .val (.long (((own_next (p0 &&& (2147483647 : Int32))).toInt64) - ((p0 &&& (2147483647 : Int32)).toInt64))), .second, .val (.int (1 : Int32)), .val (.int (0 : Int32))] 64 (fun _ q => XS.istore X8.here hx rfl (hb hby at_62) rfl (l' := #[.val (.int p0), .val (.int (p0 &&& (2147483647 : Int32))), .val (.int (own_next (p0 &&& (2147483647 : Int32)))), .val (.long (((own_next (p0 &&& (2147483647 : Int32))).toInt64) - ((p0 &&& (2147483647 : Int32)).toInt64))), .second, .val (.int (1 : Int32)), .val (.int (0 : Int32))]) rfl q) ?_
            refine own_tp (.int (1 : Int32)) 66 (fun _ q => XS.iload X8.here hx rfl (hb hby at_64) rfl q) ?_
            refine own_d1 69 (fun _ q => XS.ifNo X8.here hx rfl (hb hby at_66) rfl ((if0 _ _).trans (feq (by decide : ¬ ((1 : Int32) = (0 : Int32)))).1) q) ?_
            refine own_tp (.int (0 : Int32)) 71 (fun _ q => XS.iload X8.here hx rfl (hb hby at_69) rfl q) ?_
            refine own_d1 78 (fun _ q => XS.ifYes X8.here hx rfl (pc0 := 71) (pc' := 78) rfl (hb hby at_71) rfl ((if0 _ _).trans (teq (by decide : (0 : Int32) = (0 : Int32))).1) (by decide) (by decide) q) ?_
            refine own_tp (.int (0 : Int32)) 79 (fun _ q => XS.iconst X8.here hx rfl (hb hby at_78) q) ?_
            obtain ⟨u1, u2, u3⟩ := own_bad (p0 &&& (2147483647 : Int32)) (own_pos p0 c1) (by have := rng32 (p0 &&& (2147483647 : Int32)); omega)
            exact absurd (u3 c17).1 c18

set_option maxRecDepth 65536 in
set_option maxHeartbeats 40000000 in
theorem comes_1 {Post : Tables → Env → Array Value → State → Outcome → State → Prop} (hpost : ∀ tb e args s v u, (limb_1_1.after args s (.returned v) u = true ∧ limb_1_2.after args s (.returned v) u = true ∧ True) → FrameEnd s (.returned v) u (Jvm.fieldLocs frame_1_writes args s ++ Jvm.arrayLocs frame_1_arrays args s ++ Jvm.staticLocs frame_1_statics s) 0 0 → Post tb e args s (.returned v) u) :
    ArmFor flags0 classFile x code maxLocals ret World_1 tables_1 room_1 Calls_1 rest_1 Pre_1 Post := by
  intro l hfl _ _ p e ha hc hk s m args below hf hA hF happ hP
  obtain ⟨hcalls, hrest, hpre⟩ := hP
  obtain ⟨-, -, -, hnamed, -, -, -, hat⟩ := (Spec.applies_iff hf).mp happ
  obtain ⟨hg, hn⟩ := and_e (Cond.before_iff.mp (show (Jvm.Cond.and given_1 narrow_1).before args s = true from hpre))
  obtain ⟨hcount, hg0⟩ := and_e hg
  obtain ⟨w0, rfl⟩ : ∃ w0 : Value, args = #[w0] := by
    have hs : args.size = 1 := by simpa [Cond.value, given_1] using hcount
    obtain ⟨L⟩ := args
    match L, hs with
    | [w0], _ => exact ⟨w0, rfl⟩
  have hw := fun d (hd : d ∈ tables_1) => atoms_spec (ws := Jvm.Cond.code x code maxLocals ret :: tables_1) hat d (List.mem_cons_of_mem _ hd)
  have hfit : Fit s := fun {y c} hc i hi => by
    obtain ⟨ha, rfl⟩ := Array.getElem?_eq_some_iff.mp hc
    have q := List.all_eq_true.mp ((Array.all_eq_true_iff_forall_mem.mp hF) _ (Array.getElem_mem ha)) i (List.mem_range.mpr hi)
    simpa [Array.getElem?_eq_getElem hi] using q
  obtain ⟨i0, ei0⟩ := is_v hg0
  obtain rfl : w0 = (.int i0) := Option.some.inj ei0
  obtain ⟨n, o, h1, h2, h3, _, L, rfl, ⟨rfl, N⟩, hq⟩ := rm0 l s _ hw tables_1 i0 s.heap s.heap.size  p e ha hc hk s m _ below hf ((Spec.applies_iff_loose hf).mp happ).1 ⟨rfl, State.Warmed39.refl s, rfl⟩ trivial
  refine ⟨n, _, h1, h2, h3, hpost _ _ _ _ _ _ ⟨Cond.after_iff.mpr rfl, Cond.after_iff.mpr (eq_i res_at (Term.int_eval (1)) rfl), trivial⟩ ⟨hq.1, hq.2.1, (hq.2.2.sift fun y hy => Or.inr (N y hy)).mono (by decide) (by decide)⟩⟩
theorem main_1_1 : Claimed_1_1 := comes_1 fun _ _ _ _ _ _ h hF => ⟨h.1, hF⟩
theorem main_1_2 : Claimed_1_2 := comes_1 fun _ _ _ _ _ _ h hF => ⟨h.2.1, hF⟩
end Jvm.Pilot.@@N@@
namespace Jvm.Pilot.@@N@@
open Jvm Jvm.ClassFile Sem Op Lib Jvm.Free Jvm.Stand Jvm.Pilot.@@N@@.Jvm.D
/-! MADE BY PROGRAM (witnessworld.py) out of the Statement's table words and the real class files: 9 classes; the members and pool entries that the words name. The judged class is class 1, her method 1. -/
namespace start1
open Jvm.ClassFile
def u (s : String) : CpInfo := .utf8 (stringToUtf16 s)
/-- a pool by its gaps: so many unusable entries, then the entry; so many at the end -/
def gap : Nat → List CpInfo → List CpInfo
  | 0, r => r
  | n + 1, r => .unusable :: gap n r
def poolList (es : List (Nat × CpInfo)) (last : Nat) : List CpInfo := es.foldr (fun e r => gap e.1 (e.2 :: r)) (gap last [])
def pool (es : List (Nat × CpInfo)) (last : Nat) : Array CpInfo := ⟨poolList es last⟩
def fileOf (pool : Array CpInfo) (this : Nat) (attrs : Array Attribute := #[]) (ms : Array MethodInfo := #[]) (fl : Nat := 33) (sup : Nat := 0) (ifs : Array Nat := #[]) (fds : Array FieldInfo := #[]) : ClassFile where
  minorVersion := 0
  majorVersion := 65
  constantPool := pool
  accessFlags := fl
  thisClass := this
  superClass := sup
  interfaces := ifs
  fields := fds
  methods := ms
  attributes := attrs
def plain (name : String) (sup : Option ClassId) : Class where
  name := name
  kind := .ordinary
  loader := none
  accessFlags := 33
  super := sup
  interfaces := #[]
  cf := none
  fields := #[]
  methods := #[]
  instanceTypes := #[]
  staticTypes := #[]
  resolved := #[]
  callSites := []
  init := .initialized
  statics := none
  mirror := none

def pool0 : Array CpInfo := pool [(5, u "<init>"), (0, u "()V"), (1, .class_ 10), (1, u "java/lang/Object")] 113

def k0m0 : Method := { name := "<init>", desc := "()V", sig := { parameters := [], returnType := none }, accessFlags := 1, code := none }
/-- java/lang/Object -/
def k0 : Class := { plain "java/lang/Object" none with
  accessFlags := 33
  interfaces := #[]
  cf := some (fileOf pool0 8 #[] #[{ accessFlags := 1, nameIndex := 5, descriptorIndex := 6, attributes := #[] }] 33 0 #[] #[])
  fields := #[]
  methods := #[k0m0]
  instanceTypes := #[]
  staticTypes := #[]
  resolved := Array.replicate 124 none
  statics := none }

def pool1 : Array CpInfo := pool [(2, .class_ 4), (1, u "java/lang/Object"), (0, u "<init>"), (0, u "()V"), (0, .integer 2147483647), (0, .methodref 9 10), (0, .class_ 11), (0, .nameAndType 12 13), (0, u "com/example/euglena/euglena/SequenceNumber"), (0, u "next"), (0, u "(I)I"), (0, .class_ 15), (0, u "com/example/euglena/euglena/SequenceNumberNextPinLaw"), (2, u "law"), (0, u "(I)Z")] 3

def k1m0 : Method := { name := "<init>", desc := "()V", sig := { parameters := [], returnType := none }, accessFlags := 2, code := none }
def k1c1 : Code := { maxStack := 4, maxLocals := 7, code := code, exceptionTable := #[], attributes := #[] }
def k1m1 : Method := { name := "law", desc := "(I)Z", sig := { parameters := [.int], returnType := some .boolean }, accessFlags := 9, code := some k1c1 }
/-- com/example/euglena/euglena/SequenceNumberNextPinLaw -/
def k1 : Class := { plain "com/example/euglena/euglena/SequenceNumberNextPinLaw" (some 0) with
  accessFlags := 49
  interfaces := #[]
  cf := some (fileOf pool1 14 #[] #[{ accessFlags := 2, nameIndex := 5, descriptorIndex := 6, attributes := #[] }, { accessFlags := 9, nameIndex := 18, descriptorIndex := 19, attributes := #[] }] 49 2 #[] #[])
  fields := #[]
  methods := #[k1m0, k1m1]
  instanceTypes := #[]
  staticTypes := #[]
  resolved := Array.replicate 23 none
  statics := none }

def pool2 : Array CpInfo := pool [(3, .class_ 4), (0, u "com/example/euglena/euglena/SequenceNumber"), (1, .class_ 8), (1, u "java/lang/Object"), (0, u "<init>"), (0, u "()V"), (0, .integer 2147483647), (10, u "FIRST"), (0, u "I"), (2, u "LAST"), (0, u "COUNT"), (0, u "J"), (0, u "MOST_AHEAD"), (2, u "next"), (0, u "(I)I")] 5

def k2m0 : Method := { name := "<init>", desc := "()V", sig := { parameters := [], returnType := none }, accessFlags := 2, code := none }
def k2c1 : Code := { maxStack := 2, maxLocals := 1, code := prog_68_method_2_code, exceptionTable := #[], attributes := #[] }
def k2m1 : Method := { name := "next", desc := "(I)I", sig := { parameters := [.int], returnType := some .int }, accessFlags := 8, code := some k2c1 }
/-- com/example/euglena/euglena/SequenceNumber -/
def k2 : Class := { plain "com/example/euglena/euglena/SequenceNumber" (some 0) with
  accessFlags := 48
  interfaces := #[]
  cf := some (fileOf pool2 3 #[] #[{ accessFlags := 2, nameIndex := 9, descriptorIndex := 10, attributes := #[] }, { accessFlags := 8, nameIndex := 32, descriptorIndex := 33, attributes := #[] }] 48 6 #[] #[{ accessFlags := 24, nameIndex := 22, descriptorIndex := 23, attributes := #[] }, { accessFlags := 24, nameIndex := 26, descriptorIndex := 23, attributes := #[] }, { accessFlags := 26, nameIndex := 27, descriptorIndex := 28, attributes := #[] }, { accessFlags := 26, nameIndex := 29, descriptorIndex := 28, attributes := #[] }])
  fields := #[{ name := "FIRST", type := .int, accessFlags := 24, slot := 0, constantValue := 0 }, { name := "LAST", type := .int, accessFlags := 24, slot := 1, constantValue := 0 }, { name := "COUNT", type := .long, accessFlags := 26, slot := 2, constantValue := 0 }, { name := "MOST_AHEAD", type := .long, accessFlags := 26, slot := 3, constantValue := 0 }]
  methods := #[k2m0, k2m1]
  instanceTypes := #[]
  staticTypes := #[.int, .int, .long, .long]
  resolved := Array.replicate 39 none
  statics := none }

def pool3 : Array CpInfo := pool [(1, u "java/lang/Cloneable"), (0, .class_ 1), (0, u "java/lang/Object"), (0, .class_ 3)] 3

/-- java/lang/Cloneable -/
def k3 : Class := { plain "java/lang/Cloneable" (some 0) with
  accessFlags := 1537
  interfaces := #[]
  cf := some (fileOf pool3 2 #[] #[] 1537 4 #[] #[])
  fields := #[]
  methods := #[]
  instanceTypes := #[]
  staticTypes := #[]
  resolved := Array.replicate 8 none
  statics := none }

def pool4 : Array CpInfo := pool [(1, u "java/io/Serializable"), (0, .class_ 1), (0, u "java/lang/Object"), (0, .class_ 3)] 3

/-- java/io/Serializable -/
def k4 : Class := { plain "java/io/Serializable" (some 0) with
  accessFlags := 1537
  interfaces := #[]
  cf := some (fileOf pool4 2 #[] #[] 1537 4 #[] #[])
  fields := #[]
  methods := #[]
  instanceTypes := #[]
  staticTypes := #[]
  resolved := Array.replicate 8 none
  statics := none }

/-- the primitive byte -/
def k5 : Class := { plain "byte" none with kind := .primitive 'B', accessFlags := 0x411 }
/-- [B -/
def k6 : Class := { plain "[B" (some 0) with kind := .array 5 .byte, interfaces := #[3, 4], accessFlags := 1041 }

/-- the primitive int -/
def k7 : Class := { plain "int" none with kind := .primitive 'I', accessFlags := 0x411 }
/-- [I -/
def k8 : Class := { plain "[I" (some 0) with kind := .array 7 .int, interfaces := #[3, 4], accessFlags := 1041 }

def heap : Heap := #[]
def classes : Array Class := #[k0, k1, k2, k3, k4, k5, k6, k7, k8]
def interned : List (Array UInt16 × Addr) := []
def slotsUsed : Nat := 0
def theMethod : MethodId := ⟨1, 1⟩
def args0 : Array Value := #[.int 5]
def aboutOver (below : List Frame) : State where
  vm := { classes := classes, interned := interned.toArray }
  heap := heap
  slotsUsed := slotsUsed
  threads := #[{ frames := .invoking theMethod args0 :: below }]
def below0 : List Frame := [.native { method := ⟨0, 0⟩, args := #[] }]
def about1 : State := aboutOver below0
def p0 : Program := .bare "" "" ""
def e0 : Env := launch0.env 0 0 0
theorem w_frames : about1.frames = Frame.invoking theMethod args0 :: below0 := rfl
set_option maxRecDepth 65536 in
theorem w_args : argsFit about1.vm theMethod args0 = true := by decide +kernel
set_option maxRecDepth 65536 in
theorem w_heap : heapFits about1 = true := by decide +kernel
set_option maxRecDepth 65536 in
theorem w_runnable : about1.curStatus? = some .runnable := by decide +kernel
set_option maxRecDepth 65536 in
theorem w_alone : about1.alone = true := by decide +kernel
set_option maxRecDepth 65536 in
theorem w_named : about1.methodNamed? x = some theMethod := by decide +kernel
set_option maxRecDepth 65536 in
theorem w_hears : about1.hears theMethod below0 = true := by decide +kernel
set_option maxRecDepth 65536 in
theorem w_ripe : about1.ripe theMethod args0 below0 = true := by decide +kernel
theorem w_running : about1.status = .running := rfl
set_option maxRecDepth 65536 in
theorem w_room : about1.hasRoom e0.platform room_1 = true :=
  launch0.hasRoom_least _ room_1 (by decide +kernel) (by decide +kernel) (by decide +kernel) (by decide +kernel) (by decide +kernel) (by decide +kernel)
theorem allAtoms_all (ts : List Jvm.Cond) (a : Array Jvm.Value) (st : Jvm.State) : (allAtoms ts).before a st = ts.all (fun c => c.before a st) := by
  induction ts with
  | nil => rfl
  | cons c t ih =>
    show (Jvm.Cond.and c (allAtoms t)).before a st = _
    rw [Jvm.Cond.before_and, ih, List.all_cons]
def words1 : List Jvm.Cond := Jvm.Cond.code x code maxLocals ret :: tables_1
/-- a 'code' word, met by the world's own term for the bytes: nothing is compared byte by byte -/
theorem code_word {y : MethodName} {bytes : ByteArray} {mx : Nat} {rt : Option FieldType} {a : Array Value} {s : State} {m : MethodId} {meth : Method} {c : Code} (h1 : s.methodNamed? y = some m) (h2 : s.vm.method? m = some meth) (h3 : meth.code = some c) (h4 : c.code = bytes)
    (h5 : (c.maxLocals == mx && c.exceptionTable.isEmpty && decide (c.maxStack ≤ mostOperands) && decide (meth.sig.returnType = rt) && !meth.locks && decide (parseMethodDescriptor y.desc = some meth.sig)) = true) : (Jvm.Cond.code y bytes mx rt).before a s = true := by
  simp only [Bool.and_eq_true, beq_iff_eq, Bool.not_eq_true', decide_eq_true_eq] at h5
  obtain ⟨⟨⟨⟨⟨g1, g2⟩, g3⟩, g4⟩, g5⟩, g6⟩ := h5
  simp [Cond.before, Cond.holds, Cond.value, h1, h2, h3, h4, g1, g2, g3, g4, g5, g6]
def isCode : Jvm.Cond → Bool
  | .code _ _ _ _ => true
  | _ => false
theorem all_split {L : List Jvm.Cond} {P : Jvm.Cond → Bool} (h1 : L.all (fun c => isCode c || P c) = true) (h2 : ∀ c ∈ L.filter isCode, P c = true) : L.all P = true := by
  refine List.all_eq_true.mpr fun c hc => ?_
  have h := List.all_eq_true.mp h1 c hc
  rcases Bool.eq_false_or_eq_true (isCode c) with hi | hi
  · exact h2 c (List.mem_filter.mpr ⟨hc, hi⟩)
  · simpa [hi] using h
set_option maxRecDepth 65536 in
theorem w_c0 : (Jvm.Cond.code x code maxLocals ret).before args0 about1 = true := code_word (m := ⟨1, 1⟩) (meth := k1m1) (c := k1c1) (by decide +kernel) rfl rfl rfl (by decide +kernel)
set_option maxRecDepth 65536 in
theorem w_c1 : (Jvm.Cond.code ({ cls := "com/example/euglena/euglena/SequenceNumber", name := "next", desc := "(I)I" } : Jvm.MethodName) prog_68_method_2_code (1 : Nat) (Option.some Jvm.ClassFile.FieldType.int)).before args0 about1 = true := code_word (m := ⟨2, 1⟩) (meth := k2m1) (c := k2c1) (by decide +kernel) rfl rfl rfl (by decide +kernel)
def codes1 : List Jvm.Cond := [Jvm.Cond.code x code maxLocals ret, Jvm.Cond.code ({ cls := "com/example/euglena/euglena/SequenceNumber", name := "next", desc := "(I)I" } : Jvm.MethodName) prog_68_method_2_code (1 : Nat) (Option.some Jvm.ClassFile.FieldType.int)]
set_option maxRecDepth 65536 in
theorem codes_eq : words1.filter isCode = codes1 := rfl
theorem w_codes : ∀ c ∈ words1.filter isCode, c.before args0 about1 = true := by
  rw [codes_eq]
  intro c hc
  simp only [codes1, List.mem_cons, List.not_mem_nil, or_false] at hc
  rcases hc with rfl | rfl
  · exact w_c0
  · exact w_c1
set_option maxRecDepth 65536 in
theorem w_t1 : words1.all (fun c => isCode c || c.before args0 about1) = true := by decide +kernel
theorem w_tables : (allAtoms (Jvm.Cond.code x code maxLocals ret :: tables_1)).before args0 about1 = true := by
  rw [allAtoms_all]
  show words1.all (fun c => c.before args0 about1) = true
  refine all_split ?_ w_codes
  rw [w_t1]
set_option maxRecDepth 65536 in
theorem w_case : (Jvm.Cond.and given_1 narrow_1).before args0 about1 = true := by decide +kernel
theorem w_applies : (headSpec (Jvm.Cond.code x code maxLocals ret :: tables_1) room_1).applies x e0.platform about1 = true :=
  (Spec.applies_iff w_frames).mpr ⟨w_running, w_runnable, w_alone, w_named, w_hears, w_ripe, w_room, w_tables⟩
theorem atStart : AtStart classFile x code maxLocals ret World_1 tables_1 room_1 Calls_1 rest_1 Pre_1 launch0 p0 e0 about1 theMethod args0 below0 :=
  ⟨lists_1, trivial, launch0.admits_env _ _ _, launch0.least_env, fairChoices_fair.cas, fairChoices_fair.clock, w_frames, w_args, w_heap, w_applies, trivial, trivial, w_case⟩
end start1
theorem witness_1 : WitnessClaimed_1 := ⟨start1.p0, start1.e0, start1.about1, start1.theMethod, start1.args0, start1.below0, start1.atStart⟩
end Jvm.Pilot.@@N@@
