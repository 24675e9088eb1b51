import JvmDerived
import JvmDerived.Pilot.@@N@@Statement
import JvmDerived.Pilot.@@N@@Code
set_option linter.unusedVariables false
set_option linter.unusedSimpArgs false
namespace Jvm.Pilot.@@N@@
open Jvm Jvm.ClassFile Sem Op Lib Jvm.Free Jvm.Stand Jvm.LawKit Jvm.RoadKit Bundle Jvm.Pilot.@@N@@.Jvm.D
/-! from A on the run returns, and F holds of the end -/
def own_Goes (p : Program) (e : Env) (below : List Frame) (F : State → Outcome → Prop) (A : State) : Prop := ∃ s₂ o, Steps p.tables e below A s₂ ∧ s₂.status = .running ∧ Ended s₂ below o ∧ F s₂ o
/-- the narrow end: Q of what it returned, of the heap and of the places written; the frame -/
def own_FN (s : State) (Q : Option Value → Heap → List Loc → Prop) (k n : Nat) : State → Outcome → Prop := fun s₂ o => ∃ v L, o = .returned v ∧ Q v s₂.heap L ∧ FrameEnd s o s₂ L k n
section OwnGoes
variable {p : Program} {l : Launch} {e : Env} {R : Room} {s : State} {m : MethodId} {args : Array Value} {below : List Frame} {meth : Method} {c : Code} {T : State} {locs : List Loc} {cells slots : Nat} {Q : Option Value → Heap → List Loc → Prop} {k n : Nat} {F : State → Outcome → Prop}
theorem own_to {A B : State} (h : ∀ t, Steps p.tables e below B t → Steps p.tables e below A t) (g : own_Goes p e below F B) : own_Goes p e below F A := by
  obtain ⟨s₂, o, h1, r⟩ := g
  exact ⟨s₂, o, h _ h1, r⟩
theorem own_tr {A B : State} (h : Steps p.tables e below A B) (g : own_Goes p e below F B) : own_Goes p e below F A := own_to (fun t q => h.trans q) g
/-! the shapes of a step: what lies on the stack and in the locals behind it -/
theorem own_tp {T' : State} {pc : Nat} {L : Array Slot} {S : List Value} (w : Value) (pc' : Nat) (h : ∀ t, Steps p.tables e below (T'.setTop (mkF m pc' L (w :: S))) t → Steps p.tables e below (T.setTop (mkF m pc L S)) t) (g : own_Goes p e below F (T'.setTop (mkF m pc' L (w :: S)))) : own_Goes p e below F (T.setTop (mkF m pc L S)) := own_to h g
theorem own_t1 {T' : State} {pc : Nat} {L : Array Slot} {S : List Value} {x : Value} (w : Value) (pc' : Nat) (h : ∀ t, Steps p.tables e below (T'.setTop (mkF m pc' L (w :: S))) t → Steps p.tables e below (T.setTop (mkF m pc L (x :: S))) t) (g : own_Goes p e below F (T'.setTop (mkF m pc' L (w :: S)))) : own_Goes p e below F (T.setTop (mkF m pc L (x :: S))) := own_to h g
theorem own_t2 {T' : State} {pc : Nat} {L : Array Slot} {S : List Value} {x y : Value} (w : Value) (pc' : Nat) (h : ∀ t, Steps p.tables e below (T'.setTop (mkF m pc' L (w :: S))) t → Steps p.tables e below (T.setTop (mkF m pc L (x :: y :: S))) t) (g : own_Goes p e below F (T'.setTop (mkF m pc' L (w :: S)))) : own_Goes p e below F (T.setTop (mkF m pc L (x :: y :: S))) := own_to h g
theorem own_d0 {T' : State} {pc : Nat} {L : Array Slot} {S : List Value} (pc' : Nat) (h : ∀ t, Steps p.tables e below (T'.setTop (mkF m pc' L S)) t → Steps p.tables e below (T.setTop (mkF m pc L S)) t) (g : own_Goes p e below F (T'.setTop (mkF m pc' L S))) : own_Goes p e below F (T.setTop (mkF m pc L S)) := own_to h g
theorem own_d1 {T' : State} {pc : Nat} {L : Array Slot} {S : List Value} {x : Value} (pc' : Nat) (h : ∀ t, Steps p.tables e below (T'.setTop (mkF m pc' L S)) t → Steps p.tables e below (T.setTop (mkF m pc L (x :: S))) t) (g : own_Goes p e below F (T'.setTop (mkF m pc' L S))) : own_Goes p e below F (T.setTop (mkF m pc L (x :: S))) := own_to h g
theorem own_d2 {T' : State} {pc : Nat} {L : Array Slot} {S : List Value} {x y : Value} (pc' : Nat) (h : ∀ t, Steps p.tables e below (T'.setTop (mkF m pc' L S)) t → Steps p.tables e below (T.setTop (mkF m pc L (x :: y :: S))) t) (g : own_Goes p e below F (T'.setTop (mkF m pc' L S))) : own_Goes p e below F (T.setTop (mkF m pc L (x :: y :: S))) := own_to h g
theorem own_cs {T' : State} {pc : Nat} {L : Array Slot} {S : List Value} (S' : List Value) (pc' : Nat) (h : ∀ t, Steps p.tables e below (T'.setTop (mkF m pc' L S')) t → Steps p.tables e below (T.setTop (mkF m pc L S)) t) (g : own_Goes p e below F (T'.setTop (mkF m pc' L S'))) : own_Goes p e below F (T.setTop (mkF m pc L S)) := own_to h g
theorem own_csR {T' : State} {pc : Nat} {L : Array Slot} {S : List Value} (S' : List Value) (pc' : Nat) (h : Steps p.tables e below (T.setTop (mkF m pc L S)) (T'.setTop (mkF m pc' L S'))) (g : own_Goes p e below F (T'.setTop (mkF m pc' L S'))) : own_Goes p e below F (T.setTop (mkF m pc L S)) := own_tr h g
theorem own_ls {T' : State} {pc : Nat} {L : Array Slot} {S : List Value} {x : Value} (L' : Array Slot) (pc' : Nat) (h : ∀ t, Steps p.tables e below (T'.setTop (mkF m pc' L' S)) t → Steps p.tables e below (T.setTop (mkF m pc L (x :: S))) t) (g : own_Goes p e below F (T'.setTop (mkF m pc' L' S))) : own_Goes p e below F (T.setTop (mkF m pc L (x :: S))) := own_to h g
theorem own_li {T' : State} {pc : Nat} {L : Array Slot} {S : List Value} (L' : Array Slot) (pc' : Nat) (h : ∀ t, Steps p.tables e below (T'.setTop (mkF m pc' L' S)) t → Steps p.tables e below (T.setTop (mkF m pc L S)) t) (g : own_Goes p e below F (T'.setTop (mkF m pc' L' S))) : own_Goes p e below F (T.setTop (mkF m pc L S)) := own_to h g
theorem own_start {A B : State} (h : ∀ t, Steps p.tables e below B t → Steps p.tables e below A t) (g : own_Goes p e below (own_FN s Q k n) B) :
    ∃ s₂ o, Steps p.tables e below A s₂ ∧ s₂.status = .running ∧ Ended s₂ below o ∧ ∃ v L, o = .returned v ∧ Q v s₂.heap L ∧ FrameEnd s o s₂ L k n := own_to h g
theorem own_retN (X : Stand p l e R s m args below meth c T locs cells slots) (hx : p.tables.exec = Jvm.exec) {pc : Nat} {Ls : Array Slot} {z : Int32} {t : FieldType} {rest : List Value} (hret : meth.sig.returnType = some t)
    (hd : decode c.code pc = .ok (.ireturn, 1)) (ht : t = .boolean ∨ t = .byte ∨ t = .char ∨ t = .short) (hlk : meth.locks = false) (hk : cells ≤ k) (hn : slots ≤ n) {h : Heap} (eT : T.heap = h) (hQ : Q (some (.int (nar t z))) h locs) :
    own_Goes p e below (own_FN s Q k n) (T.setTop (mkF m pc Ls (.int z :: rest))) := by
  obtain ⟨fs, hr, hrun, hended, hW, hsame⟩ := X.leave (v := some (.int (nar t z))) (fun q => by rw [hret] at q; cases q) hlk
  subst eT
  exact ⟨_, _, retN X hx hret ht hd hr, hrun, hended, _, _, rfl, hQ, ⟨_, rfl⟩, hW, hsame.mono hk hn⟩
theorem own_retI (X : Stand p l e R s m args below meth c T locs cells slots) (hx : p.tables.exec = Jvm.exec) {pc : Nat} {Ls : Array Slot} {z : Int32} {rest : List Value} (hret : meth.sig.returnType = some .int)
    (hd : decode c.code pc = .ok (.ireturn, 1)) (hlk : meth.locks = false) (hk : cells ≤ k) (hn : slots ≤ n) {h : Heap} (eT : T.heap = h) (hQ : Q (some (.int z)) h locs) :
    own_Goes p e below (own_FN s Q k n) (T.setTop (mkF m pc Ls (.int z :: rest))) := by
  obtain ⟨fs, hr, hrun, hended, hW, hsame⟩ := X.leave (v := some (.int z)) (fun q => by rw [hret] at q; cases q) hlk
  subst eT
  exact ⟨_, _, retOut X hx hret rfl (Or.inl ⟨rfl, Or.inl rfl, z, rfl⟩) hd hr, hrun, hended, _, _, rfl, hQ, ⟨_, rfl⟩, hW, hsame.mono hk hn⟩
theorem own_retJ (X : Stand p l e R s m args below meth c T locs cells slots) (hx : p.tables.exec = Jvm.exec) {pc : Nat} {Ls : Array Slot} {z : Int64} {rest : List Value} (hret : meth.sig.returnType = some .long)
    (hd : decode c.code pc = .ok (.lreturn, 1)) (hlk : meth.locks = false) (hk : cells ≤ k) (hn : slots ≤ n) {h : Heap} (eT : T.heap = h) (hQ : Q (some (.long z)) h locs) :
    own_Goes p e below (own_FN s Q k n) (T.setTop (mkF m pc Ls (.long z :: rest))) := by
  obtain ⟨fs, hr, hrun, hended, hW, hsame⟩ := X.leave (v := some (.long z)) (fun q => by rw [hret] at q; cases q) hlk
  subst eT
  exact ⟨_, _, retOut X hx hret rfl (Or.inr (Or.inl ⟨rfl, rfl, z, rfl⟩)) hd hr, hrun, hended, _, _, rfl, hQ, ⟨_, rfl⟩, hW, hsame.mono hk hn⟩
theorem own_nref {t : FieldType} {w : Value} (ht : t.isReference = true) : narrow t w = w := by cases t <;> first | rfl | (exact Bool.noConfusion ht)
theorem own_fits {t : FieldType} {w : Value} (ht : t.isReference = true) (hw : w.isRef = true) : fits t w = true := by
  cases t <;> first | (exact Bool.noConfusion ht) | (cases w <;> first | rfl | (exact Bool.noConfusion hw))
theorem own_retR (X : Stand p l e R s m args below meth c T locs cells slots) (hx : p.tables.exec = Jvm.exec) {pc : Nat} {Ls : Array Slot} {w : Value} {t : FieldType} {rest : List Value} (hret : meth.sig.returnType = some t)
    (hd : decode c.code pc = .ok (.areturn, 1)) (ht : t.isReference = true) (hw : w.isRef = true) (hlk : meth.locks = false) (hk : cells ≤ k) (hn : slots ≤ n) {h : Heap} (eT : T.heap = h) (hQ : Q (some w) h locs) :
    own_Goes p e below (own_FN s Q k n) (T.setTop (mkF m pc Ls (w :: rest))) := by
  obtain ⟨fs, hr, hrun, hended, hW, hsame⟩ := X.leave (v := some w) (fun q => by rw [hret] at q; cases q) hlk
  subst eT
  exact ⟨_, _, retOut X hx hret (own_nref ht) (Or.inr (Or.inr (Or.inr (Or.inr ⟨rfl, ht, hw⟩)))) hd hr, hrun, hended, _, _, rfl, hQ, ⟨_, rfl⟩, hW, hsame.mono hk hn⟩
theorem own_retV (X : Stand p l e R s m args below meth c T locs cells slots) (hx : p.tables.exec = Jvm.exec) {pc : Nat} {Ls : Array Slot} (hret : meth.sig.returnType = none)
    (hd : decode c.code pc = .ok (.return_, 1)) (hlk : meth.locks = false) (hk : cells ≤ k) (hn : slots ≤ n) {h : Heap} (eT : T.heap = h) (hQ : Q none h locs) :
    own_Goes p e below (own_FN s Q k n) (T.setTop (mkF m pc Ls [])) := by
  obtain ⟨fs, hr, hrun, hended, hW, hsame⟩ := X.leave (v := none) (fun _ => rfl) hlk
  subst eT
  exact ⟨_, _, X.returnOut hx hret hd hr, hrun, hended, _, _, rfl, hQ, ⟨_, rfl⟩, hW, hsame.mono hk hn⟩
end OwnGoes

/-- a body's contract, in lawnew's form -/
abbrev own_Met (l : Launch) (y : MethodName) (bytes : ByteArray) (ml : Nat) (rt : Option FieldType) (ws : List Jvm.Cond) (rm : Room) (Z : State) (as' : Array Value) (h0 : Heap) (Q : Option Value → Heap → List Loc → Prop) : Prop :=
  MetFree l y (head1 (Jvm.Cond.code y bytes ml rt :: ws) rm) (fun a U => a = as' ∧ Z.Warmed39 U.vm ∧ U.heap = h0) (fun _ _ _ _ _ => True) (fun _ U o U' => ∃ v L, o = .returned v ∧ Q v U'.heap L ∧ FrameEnd U o U' L rm.cells rm.slots)
theorem own_enter {l : Launch} {y : MethodName} {bytes : ByteArray} {ml : Nat} {rt : Option FieldType} {ws : List Jvm.Cond} {rm : Room} {Z : State} {as' : Array Value} {h0 : Heap} {Q : Option Value → Heap → List Loc → Prop} (L0 : Array Slot) (hp : plainFor y = true) (ef : ∀ m, entryFrame m as' ml = mkF m 0 L0 [])
    (go : ∀ (p : Program) (e : Env) (s : State) (m : MethodId) (below : List Frame) (meth : Method) (c : Code) (s₁ : State), p.tables.exec = Jvm.exec → c.code = bytes → c.maxLocals = ml → s.vm.findClass y.cls = some m.cls → meth.name = y.name → Z.Warmed39 s.vm → meth.sig.returnType = rt → meth.locks = false → Stand p l e rm s m as' below meth c s₁ [] 0 0 → s₁.heap = h0 → own_Goes p e below (own_FN s Q rm.cells rm.slots) (s₁.setTop (mkF m 0 L0 []))) :
    own_Met l y bytes ml rt ws rm Z as' h0 Q := by
  refine MetFree.of_bodySF hp hisR ?_
  intro p e s m args below meth c s₁ Bd hml0 hP hK
  obtain ⟨rfl, hZ, hh⟩ := hP
  have g := go p e s m below meth c s₁ Bd.exec Bd.bytes hml0 (findClass_of_methodNamed Bd.named) (name_of_methodNamed Bd.named Bd.method).1 hZ Bd.returns Bd.notSynchronized (Stand.of_body Bd) (by rw [← hh, Bd.state]; rfl)
  exact own_start (fun t k => castTop (ef m) k) g
def Q0 (h0 : Heap) (n0 : Nat) (v : Option Value) (h : Heap) (L : List Loc) : Prop := v = some (.int 1) ∧ Fr n0 L

def own_f1 (c : Int32) : Int32 := if 32 < c then 0 else if c = 32 then 1 else if c = 9 then 1 else if c = 13 then 1 else if c = 10 then 1 else 0
theorem own_f1_spec (c : Int32) : own_f1 c = if c = 9 then 1 else if c = 10 then 1 else if c = 13 then 1 else if c = 32 then 1 else 0 := by
  have e9 : (9 : Int32).toInt = 9 := rfl
  have e10 : (10 : Int32).toInt = 10 := rfl
  have e13 : (13 : Int32).toInt = 13 := rfl
  have e32 : (32 : Int32).toInt = 32 := rfl
  simp only [own_f1, Int32.lt_iff_toInt_lt, ← Int32.toInt_inj, e9, e10, e13, e32]
  repeat' split
  all_goals first | rfl | (exfalso; omega)
def own_ed (j : Int32) : Int32 := if j = 0 then 32 else if j = 1 then 9 else if j = 2 then 13 else if j = 3 then 10 else if j = 4 then 11 else if j = 5 then 12 else if j = 6 then 160 else if j = 7 then 33 else 0
theorem own_edf : ∀ k, k < 8 → ([(.int (32 : Int32)), (.int (9 : Int32)), (.int (13 : Int32)), (.int (10 : Int32)), (.int (11 : Int32)), (.int (12 : Int32)), (.int (160 : Int32)), (.int (33 : Int32))] : List Value).getD k (.int (0 : Int32)) = .int (own_ed (Int32.ofNat k))
  | 0, _ => rfl
  | 1, _ => rfl
  | 2, _ => rfl
  | 3, _ => rfl
  | 4, _ => rfl
  | 5, _ => rfl
  | 6, _ => rfl
  | 7, _ => rfl
  | n + 8, h => absurd h (by omega)
theorem own_and7 (x : Int32) : 0 ≤ (x &&& 7).toInt ∧ (x &&& 7).toInt ≤ 7 := c_and x 7 (by decide)
theorem own_j (x : Int32) : ¬ (x &&& 7) < 0 ∧ (x &&& 7) < 8 := by
  have h := own_and7 x
  have e0 : (0 : Int32).toInt = 0 := rfl
  have e8 : (8 : Int32).toInt = 8 := rfl
  simp only [Int32.lt_iff_toInt_lt, e0, e8]
  omega
theorem own_edat (x : Int32) : ([(.int (32 : Int32)), (.int (9 : Int32)), (.int (13 : Int32)), (.int (10 : Int32)), (.int (11 : Int32)), (.int (12 : Int32)), (.int (160 : Int32)), (.int (33 : Int32))] : List Value).getD (x &&& 7).toNatClampNeg (.int (0 : Int32)) = .int (own_ed (x &&& 7)) := by
  have h := own_and7 x
  have hn : ((x &&& 7).toNatClampNeg : Int) = (x &&& 7).toInt := (nat_of (own_j x).1).symm
  have e : Int32.ofNat (x &&& 7).toNatClampNeg = x &&& 7 := by
    rw [← Int32.toInt_inj, Int32.toInt_ofNat_small (by omega)]; exact hn
  have q := own_edf (x &&& 7).toNatClampNeg (by omega)
  rw [e] at q
  exact q

def Q1 (p1 : Int32) (h0 : Heap) (n0 : Nat) (v : Option Value) (h : Heap) (L : List Loc) : Prop := v = some (.int (own_f1 p1)) ∧ Fr n0 L ∧ h = h0

theorem d1_0 : decode prog_7_method_25_code 0 = .ok (.iload_n 0, 1) := by decide +kernel
theorem d1_1 : decode prog_7_method_25_code 1 = .ok (.bipush 32, 2) := by decide +kernel
theorem d1_3 : decode prog_7_method_25_code 3 = .ok (.if_icmp .gt 31, 3) := by decide +kernel
theorem d1_6 : decode prog_7_method_25_code 6 = .ok (.iload_n 0, 1) := by decide +kernel
theorem d1_7 : decode prog_7_method_25_code 7 = .ok (.bipush 32, 2) := by decide +kernel
theorem d1_9 : decode prog_7_method_25_code 9 = .ok (.if_icmp .eq 21, 3) := by decide +kernel
theorem d1_12 : decode prog_7_method_25_code 12 = .ok (.iload_n 0, 1) := by decide +kernel
theorem d1_13 : decode prog_7_method_25_code 13 = .ok (.bipush 9, 2) := by decide +kernel
theorem d1_15 : decode prog_7_method_25_code 15 = .ok (.if_icmp .eq 15, 3) := by decide +kernel
theorem d1_18 : decode prog_7_method_25_code 18 = .ok (.iload_n 0, 1) := by decide +kernel
theorem d1_19 : decode prog_7_method_25_code 19 = .ok (.bipush 13, 2) := by decide +kernel
theorem d1_21 : decode prog_7_method_25_code 21 = .ok (.if_icmp .eq 9, 3) := by decide +kernel
theorem d1_24 : decode prog_7_method_25_code 24 = .ok (.iload_n 0, 1) := by decide +kernel
theorem d1_25 : decode prog_7_method_25_code 25 = .ok (.bipush 10, 2) := by decide +kernel
theorem d1_27 : decode prog_7_method_25_code 27 = .ok (.if_icmp .ne 7, 3) := by decide +kernel
theorem d1_30 : decode prog_7_method_25_code 30 = .ok (.iconst 1, 1) := by decide +kernel
theorem d1_31 : decode prog_7_method_25_code 31 = .ok (.goto 4, 3) := by decide +kernel
theorem d1_34 : decode prog_7_method_25_code 34 = .ok (.iconst 0, 1) := by decide +kernel
theorem d1_35 : decode prog_7_method_25_code 35 = .ok (.ireturn, 1) := by decide +kernel
theorem pn1 : plainName "com/example/unit_step/unitstep/DecimalNumeral" = true := by first | (simp [plainName, overriddenIn]; done) | decide +kernel
theorem ef1 (m : MethodId) (x0 : Int32) : entryFrame m #[(.int x0)] 1 = mkF m 0 #[.val (.int x0)] [] := by first | (simp [entryFrame, mkF, argsToLocals, Value.category]; done) | rfl
set_option maxRecDepth 65536 in
set_option maxHeartbeats 40000000 in
theorem rm1 (l : Launch) (Z : State) (a0 : Array Value) (hw : ∀ d ∈ tables_1, d.before a0 Z = true) (ws : List Jvm.Cond) (p1 : Int32) (h0 : Heap) (n0 : Nat)  :
    own_Met l (⟨"com/example/unit_step/unitstep/DecimalNumeral", "isBlank", "(C)Z"⟩ : MethodName) prog_7_method_25_code 1 (some .boolean) ws ({ frames := 0, cells := 0, slots := 0, locals := 0 } : Room) Z #[(.int p1)] h0 (Q1 p1 h0 n0) := by
  refine own_enter #[.val (.int p1)] (plainFor_of_name pn1) (fun m => ef1 m p1) ?_
  intro p e s m below meth c s₁ hx hby hml hown hnm hZ hrt hlk X0 e0
  have N0 := Fr.nil n0
  refine own_tp (.int p1) 1 (fun _ q => XS.iloadN X0.here hx rfl (hb hby d1_0) rfl q) ?_
  refine own_tp (.int (32 : Int32)) 3 (fun _ q => XS.bipush X0.here hx rfl (hb hby d1_1) q) ?_
  by_cases c1 : (32 : Int32) < p1
  ·
    refine own_d2 34 (fun _ q => XS.icmpYes X0.here hx rfl (pc0 := 3) (pc' := 34) rfl (hb hby d1_3) rfl (tlt c1).2.2.1 (by decide) (by decide) q) ?_
    refine own_tp (.int (0 : Int32)) 35 (fun _ q => XS.iconst X0.here hx rfl (hb hby d1_34) q) ?_
    exact own_retN (t := .boolean) X0 hx hrt (hb hby d1_35) (by simp) hlk (by decide) (by decide) e0 (⟨by have hv : own_f1 p1 = (0 : Int32) := (by first | (simp only [own_f1, c1, ↓reduceIte]; done) | (simp [own_f1, c1]; done)); rw [hv] <;> rfl, N0, rfl⟩)
  ·
    refine own_d2 6 (fun _ q => XS.icmpNo X0.here hx rfl (hb hby d1_3) rfl (flt c1).2.2.1 q) ?_
    refine own_tp (.int p1) 7 (fun _ q => XS.iloadN X0.here hx rfl (hb hby d1_6) rfl q) ?_
    refine own_tp (.int (32 : Int32)) 9 (fun _ q => XS.bipush X0.here hx rfl (hb hby d1_7) q) ?_
    by_cases c2 : p1 = (32 : Int32)
    ·
      refine own_d2 30 (fun _ q => XS.icmpYes X0.here hx rfl (pc0 := 9) (pc' := 30) rfl (hb hby d1_9) rfl (teq c2).1 (by decide) (by decide) q) ?_
      refine own_tp (.int (1 : Int32)) 31 (fun _ q => XS.iconst X0.here hx rfl (hb hby d1_30) q) ?_
      refine own_d0 35 (fun _ q => XS.goto X0.here hx rfl (pc0 := 31) (pc' := 35) rfl (hb hby d1_31) (by decide) (by decide) q) ?_
      exact own_retN (t := .boolean) X0 hx hrt (hb hby d1_35) (by simp) hlk (by decide) (by decide) e0 (⟨by have hv : own_f1 p1 = (1 : Int32) := (by first | (simp only [own_f1, c1, c2, ↓reduceIte]; done) | (simp [own_f1, c1, c2]; done)); rw [hv] <;> rfl, N0, rfl⟩)
    ·
      refine own_d2 12 (fun _ q => XS.icmpNo X0.here hx rfl (hb hby d1_9) rfl (feq c2).1 q) ?_
      refine own_tp (.int p1) 13 (fun _ q => XS.iloadN X0.here hx rfl (hb hby d1_12) rfl q) ?_
      refine own_tp (.int (9 : Int32)) 15 (fun _ q => XS.bipush X0.here hx rfl (hb hby d1_13) q) ?_
      by_cases c3 : p1 = (9 : Int32)
      ·
        refine own_d2 30 (fun _ q => XS.icmpYes X0.here hx rfl (pc0 := 15) (pc' := 30) rfl (hb hby d1_15) rfl (teq c3).1 (by decide) (by decide) q) ?_
        refine own_tp (.int (1 : Int32)) 31 (fun _ q => XS.iconst X0.here hx rfl (hb hby d1_30) q) ?_
        refine own_d0 35 (fun _ q => XS.goto X0.here hx rfl (pc0 := 31) (pc' := 35) rfl (hb hby d1_31) (by decide) (by decide) q) ?_
        exact own_retN (t := .boolean) X0 hx hrt (hb hby d1_35) (by simp) hlk (by decide) (by decide) e0 (⟨by have hv : own_f1 p1 = (1 : Int32) := (by first | (simp only [own_f1, c1, c2, c3, ↓reduceIte]; done) | (simp [own_f1, c1, c2, c3]; done)); rw [hv] <;> rfl, N0, rfl⟩)
      ·
        refine own_d2 18 (fun _ q => XS.icmpNo X0.here hx rfl (hb hby d1_15) rfl (feq c3).1 q) ?_
        refine own_tp (.int p1) 19 (fun _ q => XS.iloadN X0.here hx rfl (hb hby d1_18) rfl q) ?_
        refine own_tp (.int (13 : Int32)) 21 (fun _ q => XS.bipush X0.here hx rfl (hb hby d1_19) q) ?_
        by_cases c4 : p1 = (13 : Int32)
        ·
          refine own_d2 30 (fun _ q => XS.icmpYes X0.here hx rfl (pc0 := 21) (pc' := 30) rfl (hb hby d1_21) rfl (teq c4).1 (by decide) (by decide) q) ?_
          refine own_tp (.int (1 : Int32)) 31 (fun _ q => XS.iconst X0.here hx rfl (hb hby d1_30) q) ?_
          refine own_d0 35 (fun _ q => XS.goto X0.here hx rfl (pc0 := 31) (pc' := 35) rfl (hb hby d1_31) (by decide) (by decide) q) ?_
          exact own_retN (t := .boolean) X0 hx hrt (hb hby d1_35) (by simp) hlk (by decide) (by decide) e0 (⟨by have hv : own_f1 p1 = (1 : Int32) := (by first | (simp only [own_f1, c1, c2, c3, c4, ↓reduceIte]; done) | (simp [own_f1, c1, c2, c3, c4]; done)); rw [hv] <;> rfl, N0, rfl⟩)
        ·
          refine own_d2 24 (fun _ q => XS.icmpNo X0.here hx rfl (hb hby d1_21) rfl (feq c4).1 q) ?_
          refine own_tp (.int p1) 25 (fun _ q => XS.iloadN X0.here hx rfl (hb hby d1_24) rfl q) ?_
          refine own_tp (.int (10 : Int32)) 27 (fun _ q => XS.bipush X0.here hx rfl (hb hby d1_25) q) ?_
          by_cases c5 : p1 = (10 : Int32)
          ·
            refine own_d2 30 (fun _ q => XS.icmpNo X0.here hx rfl (hb hby d1_27) rfl (teq c5).2 q) ?_
            refine own_tp (.int (1 : Int32)) 31 (fun _ q => XS.iconst X0.here hx rfl (hb hby d1_30) q) ?_
            refine own_d0 35 (fun _ q => XS.goto X0.here hx rfl (pc0 := 31) (pc' := 35) rfl (hb hby d1_31) (by decide) (by decide) q) ?_
            exact own_retN (t := .boolean) X0 hx hrt (hb hby d1_35) (by simp) hlk (by decide) (by decide) e0 (⟨by have hv : own_f1 p1 = (1 : Int32) := (by first | (simp only [own_f1, c1, c2, c3, c4, c5, ↓reduceIte]; done) | (simp [own_f1, c1, c2, c3, c4, c5]; done)); rw [hv] <;> rfl, N0, rfl⟩)
          ·
            refine own_d2 34 (fun _ q => XS.icmpYes X0.here hx rfl (pc0 := 27) (pc' := 34) rfl (hb hby d1_27) rfl (feq c5).2 (by decide) (by decide) q) ?_
            refine own_tp (.int (0 : Int32)) 35 (fun _ q => XS.iconst X0.here hx rfl (hb hby d1_34) q) ?_
            exact own_retN (t := .boolean) X0 hx hrt (hb hby d1_35) (by simp) hlk (by decide) (by decide) e0 (⟨by have hv : own_f1 p1 = (0 : Int32) := (by first | (simp only [own_f1, c1, c2, c3, c4, c5, ↓reduceIte]; done) | (simp [own_f1, c1, c2, c3, c4, c5]; done)); rw [hv] <;> rfl, N0, rfl⟩)

theorem pn0 : plainName "com/example/unit_step/unitstep/DecimalNumeralIsBlankPinLaw" = true := by first | (simp [plainName, overriddenIn]; done) | decide +kernel
theorem pd0_0 : parseMethodDescriptor "(C)Z" = some ⟨[.char], some .boolean⟩ := by decide +kernel
theorem ef0 (m : MethodId) (x0 : Int32) (x1 : Int32) : entryFrame m #[(.int x0), (.int x1)] maxLocals = mkF m 0 #[.val (.int x0), .val (.int x1), .unset, .unset, .unset, .unset] [] := by first | (simp [entryFrame, mkF, argsToLocals, Value.category, maxLocals]; done) | rfl
set_option maxRecDepth 65536 in
set_option maxHeartbeats 40000000 in
theorem rm0 (l : Launch) (Z : State) (a0 : Array Value) (hw : ∀ d ∈ tables_1, d.before a0 Z = true) (ws : List Jvm.Cond) (p0 p1 : Int32) (h0 : Heap) (n0 : Nat) (Z0 : n0 ≤ h0.size) :
    own_Met l x code maxLocals ret ws room_1 Z #[(.int p0), (.int p1)] h0 (Q0 h0 n0) := by
  refine own_enter #[.val (.int p0), .val (.int p1), .unset, .unset, .unset, .unset] (plainFor_of_name pn0) (fun m => ef0 m p0 p1) ?_
  intro p e s m below meth c s₁ hx hby hml hown hnm hZ hrt hlk X0 e0
  have N0 := Fr.nil n0
  refine own_tp (.int (8 : Int32)) 2 (fun _ q => XS.bipush X0.here hx rfl (hb hby at_0) q) ?_
  obtain ⟨T1, h1, k1, X1, e1, E1, A1, st1⟩ := newP X0 hx hZ (hw _ (List.mem_of_getElem? (i := 0) rfl)) e0 (g := (mkF m 2 #[.val (.int p0), .val (.int p1), .unset, .unset, .unset, .unset] [(.int (8 : Int32))])) rfl (hb hby at_2) rfl (by decide) (cap := 8) (by decide) (by decide) (by decide) (by decide)
  obtain ⟨b1, g1⟩ : ∃ z, z = h0.size := ⟨_, rfl⟩
  rw [← g1] at A1 st1
  have V1 : Arv Z h1 b1 k1 .char (8 : Int32) [(.int (0 : Int32)), (.int (0 : Int32)), (.int (0 : Int32)), (.int (0 : Int32)), (.int (0 : Int32)), (.int (0 : Int32)), (.int (0 : Int32)), (.int (0 : Int32))] (.int (0 : Int32)) := (Arv.new A1 (by decide)).pad (pad_rep [] (.int (0 : Int32)) 8)
  have ge1 : n0 ≤ b1 := Nat.le_trans Z0 (Nat.le_of_eq g1.symm)
  have Z1 : n0 ≤ h1.size := Nat.le_trans Z0 E1.1
  refine own_t1 (.ref b1) 4 st1 ?_
  refine own_tp (.ref b1) 5 (fun _ q => XS.dup X1.here hx rfl (hb hby at_4) rfl rfl q) ?_
  refine own_tp (.int (0 : Int32)) 6 (fun _ q => XS.iconst X1.here hx rfl (hb hby at_5) q) ?_
  refine own_tp (.int (32 : Int32)) 8 (fun _ q => XS.bipush X1.here hx rfl (hb hby at_6) q) ?_
  obtain ⟨cl2, Ar2, q2, S2, Nn2, H2, G2⟩ := (id V1)
  have hin2 : ¬ ((0 : Int32) < 0 ∨ cl2.slots.size ≤ ((0 : Int32)).toNatClampNeg) := inb_of S2 ⟨by decide, by decide⟩
  obtain ⟨T3, h3, X3, e3, W3, st3⟩ := stC X1 hx hZ e1 Ar2 (j := (0 : Int32)) hin2 (g := (mkF m 8 #[.val (.int p0), .val (.int p1), .unset, .unset, .unset, .unset] [(.int (32 : Int32)), (.int (0 : Int32)), (.ref b1), (.ref b1)])) rfl rfl (hb hby at_8)
  have V3 := Arv.set Ar2 q2 S2 Nn2 H2 G2 (fits_nar_char _) W3 0 rfl (Nat.le_of_ble_eq_true rfl)
  have N3 := Fr.snoc X3 N0 ge1
  have Z3 : n0 ≤ h3.size := Nat.le_trans Z1 (Nat.le_of_eq W3.size.symm)
  have V3' : Arv Z h3 b1 k1 .char (8 : Int32) [(.int (32 : Int32)), (.int (0 : Int32)), (.int (0 : Int32)), (.int (0 : Int32)), (.int (0 : Int32)), (.int (0 : Int32)), (.int (0 : Int32)), (.int (0 : Int32))] (.int (0 : Int32)) := V3
  refine own_cs [(.ref b1)] 9 st3 ?_
  refine own_tp (.ref b1) 10 (fun _ q => XS.dup X3.here hx rfl (hb hby at_9) rfl rfl q) ?_
  refine own_tp (.int (1 : Int32)) 11 (fun _ q => XS.iconst X3.here hx rfl (hb hby at_10) q) ?_
  refine own_tp (.int (9 : Int32)) 13 (fun _ q => XS.bipush X3.here hx rfl (hb hby at_11) q) ?_
  obtain ⟨cl4, Ar4, q4, S4, Nn4, H4, G4⟩ := (id V3')
  have hin4 : ¬ ((1 : Int32) < 0 ∨ cl4.slots.size ≤ ((1 : Int32)).toNatClampNeg) := inb_of S4 ⟨by decide, by decide⟩
  obtain ⟨T5, h5, X5, e5, W5, st5⟩ := stC X3 hx hZ e3 Ar4 (j := (1 : Int32)) hin4 (g := (mkF m 13 #[.val (.int p0), .val (.int p1), .unset, .unset, .unset, .unset] [(.int (9 : Int32)), (.int (1 : Int32)), (.ref b1), (.ref b1)])) rfl rfl (hb hby at_13)
  have V5 := Arv.set Ar4 q4 S4 Nn4 H4 G4 (fits_nar_char _) W5 1 rfl (Nat.le_of_ble_eq_true rfl)
  have N5 := Fr.snoc X5 N3 ge1
  have Z5 : n0 ≤ h5.size := Nat.le_trans Z3 (Nat.le_of_eq W5.size.symm)
  have V5' : Arv Z h5 b1 k1 .char (8 : Int32) [(.int (32 : Int32)), (.int (9 : Int32)), (.int (0 : Int32)), (.int (0 : Int32)), (.int (0 : Int32)), (.int (0 : Int32)), (.int (0 : Int32)), (.int (0 : Int32))] (.int (0 : Int32)) := V5
  refine own_cs [(.ref b1)] 14 st5 ?_
  refine own_tp (.ref b1) 15 (fun _ q => XS.dup X5.here hx rfl (hb hby at_14) rfl rfl q) ?_
  refine own_tp (.int (2 : Int32)) 16 (fun _ q => XS.iconst X5.here hx rfl (hb hby at_15) q) ?_
  refine own_tp (.int (13 : Int32)) 18 (fun _ q => XS.bipush X5.here hx rfl (hb hby at_16) q) ?_
  obtain ⟨cl6, Ar6, q6, S6, Nn6, H6, G6⟩ := (id V5')
  have hin6 : ¬ ((2 : Int32) < 0 ∨ cl6.slots.size ≤ ((2 : Int32)).toNatClampNeg) := inb_of S6 ⟨by decide, by decide⟩
  obtain ⟨T7, h7, X7, e7, W7, st7⟩ := stC X5 hx hZ e5 Ar6 (j := (2 : Int32)) hin6 (g := (mkF m 18 #[.val (.int p0), .val (.int p1), .unset, .unset, .unset, .unset] [(.int (13 : Int32)), (.int (2 : Int32)), (.ref b1), (.ref b1)])) rfl rfl (hb hby at_18)
  have V7 := Arv.set Ar6 q6 S6 Nn6 H6 G6 (fits_nar_char _) W7 2 rfl (Nat.le_of_ble_eq_true rfl)
  have N7 := Fr.snoc X7 N5 ge1
  have Z7 : n0 ≤ h7.size := Nat.le_trans Z5 (Nat.le_of_eq W7.size.symm)
  have V7' : Arv Z h7 b1 k1 .char (8 : Int32) [(.int (32 : Int32)), (.int (9 : Int32)), (.int (13 : Int32)), (.int (0 : Int32)), (.int (0 : Int32)), (.int (0 : Int32)), (.int (0 : Int32)), (.int (0 : Int32))] (.int (0 : Int32)) := V7
  refine own_cs [(.ref b1)] 19 st7 ?_
  refine own_tp (.ref b1) 20 (fun _ q => XS.dup X7.here hx rfl (hb hby at_19) rfl rfl q) ?_
  refine own_tp (.int (3 : Int32)) 21 (fun _ q => XS.iconst X7.here hx rfl (hb hby at_20) q) ?_
  refine own_tp (.int (10 : Int32)) 23 (fun _ q => XS.bipush X7.here hx rfl (hb hby at_21) q) ?_
  obtain ⟨cl8, Ar8, q8, S8, Nn8, H8, G8⟩ := (id V7')
  have hin8 : ¬ ((3 : Int32) < 0 ∨ cl8.slots.size ≤ ((3 : Int32)).toNatClampNeg) := inb_of S8 ⟨by decide, by decide⟩
  obtain ⟨T9, h9, X9, e9, W9, st9⟩ := stC X7 hx hZ e7 Ar8 (j := (3 : Int32)) hin8 (g := (mkF m 23 #[.val (.int p0), .val (.int p1), .unset, .unset, .unset, .unset] [(.int (10 : Int32)), (.int (3 : Int32)), (.ref b1), (.ref b1)])) rfl rfl (hb hby at_23)
  have V9 := Arv.set Ar8 q8 S8 Nn8 H8 G8 (fits_nar_char _) W9 3 rfl (Nat.le_of_ble_eq_true rfl)
  have N9 := Fr.snoc X9 N7 ge1
  have Z9 : n0 ≤ h9.size := Nat.le_trans Z7 (Nat.le_of_eq W9.size.symm)
  have V9' : Arv Z h9 b1 k1 .char (8 : Int32) [(.int (32 : Int32)), (.int (9 : Int32)), (.int (13 : Int32)), (.int (10 : Int32)), (.int (0 : Int32)), (.int (0 : Int32)), (.int (0 : Int32)), (.int (0 : Int32))] (.int (0 : Int32)) := V9
  refine own_cs [(.ref b1)] 24 st9 ?_
  refine own_tp (.ref b1) 25 (fun _ q => XS.dup X9.here hx rfl (hb hby at_24) rfl rfl q) ?_
  refine own_tp (.int (4 : Int32)) 26 (fun _ q => XS.iconst X9.here hx rfl (hb hby at_25) q) ?_
  refine own_tp (.int (11 : Int32)) 28 (fun _ q => XS.bipush X9.here hx rfl (hb hby at_26) q) ?_
  obtain ⟨cl10, Ar10, q10, S10, Nn10, H10, G10⟩ := (id V9')
  have hin10 : ¬ ((4 : Int32) < 0 ∨ cl10.slots.size ≤ ((4 : Int32)).toNatClampNeg) := inb_of S10 ⟨by decide, by decide⟩
  obtain ⟨T11, h11, X11, e11, W11, st11⟩ := stC X9 hx hZ e9 Ar10 (j := (4 : Int32)) hin10 (g := (mkF m 28 #[.val (.int p0), .val (.int p1), .unset, .unset, .unset, .unset] [(.int (11 : Int32)), (.int (4 : Int32)), (.ref b1), (.ref b1)])) rfl rfl (hb hby at_28)
  have V11 := Arv.set Ar10 q10 S10 Nn10 H10 G10 (fits_nar_char _) W11 4 rfl (Nat.le_of_ble_eq_true rfl)
  have N11 := Fr.snoc X11 N9 ge1
  have Z11 : n0 ≤ h11.size := Nat.le_trans Z9 (Nat.le_of_eq W11.size.symm)
  have V11' : Arv Z h11 b1 k1 .char (8 : Int32) [(.int (32 : Int32)), (.int (9 : Int32)), (.int (13 : Int32)), (.int (10 : Int32)), (.int (11 : Int32)), (.int (0 : Int32)), (.int (0 : Int32)), (.int (0 : Int32))] (.int (0 : Int32)) := V11
  refine own_cs [(.ref b1)] 29 st11 ?_
  refine own_tp (.ref b1) 30 (fun _ q => XS.dup X11.here hx rfl (hb hby at_29) rfl rfl q) ?_
  refine own_tp (.int (5 : Int32)) 31 (fun _ q => XS.iconst X11.here hx rfl (hb hby at_30) q) ?_
  refine own_tp (.int (12 : Int32)) 33 (fun _ q => XS.bipush X11.here hx rfl (hb hby at_31) q) ?_
  obtain ⟨cl12, Ar12, q12, S12, Nn12, H12, G12⟩ := (id V11')
  have hin12 : ¬ ((5 : Int32) < 0 ∨ cl12.slots.size ≤ ((5 : Int32)).toNatClampNeg) := inb_of S12 ⟨by decide, by decide⟩
  obtain ⟨T13, h13, X13, e13, W13, st13⟩ := stC X11 hx hZ e11 Ar12 (j := (5 : Int32)) hin12 (g := (mkF m 33 #[.val (.int p0), .val (.int p1), .unset, .unset, .unset, .unset] [(.int (12 : Int32)), (.int (5 : Int32)), (.ref b1), (.ref b1)])) rfl rfl (hb hby at_33)
  have V13 := Arv.set Ar12 q12 S12 Nn12 H12 G12 (fits_nar_char _) W13 5 rfl (Nat.le_of_ble_eq_true rfl)
  have N13 := Fr.snoc X13 N11 ge1
  have Z13 : n0 ≤ h13.size := Nat.le_trans Z11 (Nat.le_of_eq W13.size.symm)
  have V13' : Arv Z h13 b1 k1 .char (8 : Int32) [(.int (32 : Int32)), (.int (9 : Int32)), (.int (13 : Int32)), (.int (10 : Int32)), (.int (11 : Int32)), (.int (12 : Int32)), (.int (0 : Int32)), (.int (0 : Int32))] (.int (0 : Int32)) := V13
  refine own_cs [(.ref b1)] 34 st13 ?_
  refine own_tp (.ref b1) 35 (fun _ q => XS.dup X13.here hx rfl (hb hby at_34) rfl rfl q) ?_
  refine own_tp (.int (6 : Int32)) 37 (fun _ q => XS.bipush X13.here hx rfl (hb hby at_35) q) ?_
  refine own_tp (.int (160 : Int32)) 40 (fun _ q => XS.sipush X13.here hx rfl (hb hby at_37) q) ?_
  obtain ⟨cl14, Ar14, q14, S14, Nn14, H14, G14⟩ := (id V13')
  have hin14 : ¬ ((6 : Int32) < 0 ∨ cl14.slots.size ≤ ((6 : Int32)).toNatClampNeg) := inb_of S14 ⟨by decide, by decide⟩
  obtain ⟨T15, h15, X15, e15, W15, st15⟩ := stC X13 hx hZ e13 Ar14 (j := (6 : Int32)) hin14 (g := (mkF m 40 #[.val (.int p0), .val (.int p1), .unset, .unset, .unset, .unset] [(.int (160 : Int32)), (.int (6 : Int32)), (.ref b1), (.ref b1)])) rfl rfl (hb hby at_40)
  have V15 := Arv.set Ar14 q14 S14 Nn14 H14 G14 (fits_nar_char _) W15 6 rfl (Nat.le_of_ble_eq_true rfl)
  have N15 := Fr.snoc X15 N13 ge1
  have Z15 : n0 ≤ h15.size := Nat.le_trans Z13 (Nat.le_of_eq W15.size.symm)
  have V15' : Arv Z h15 b1 k1 .char (8 : Int32) [(.int (32 : Int32)), (.int (9 : Int32)), (.int (13 : Int32)), (.int (10 : Int32)), (.int (11 : Int32)), (.int (12 : Int32)), (.int (160 : Int32)), (.int (0 : Int32))] (.int (0 : Int32)) := V15
  refine own_cs [(.ref b1)] 41 st15 ?_
  refine own_tp (.ref b1) 42 (fun _ q => XS.dup X15.here hx rfl (hb hby at_41) rfl rfl q) ?_
  refine own_tp (.int (7 : Int32)) 44 (fun _ q => XS.bipush X15.here hx rfl (hb hby at_42) q) ?_
  refine own_tp (.int (33 : Int32)) 46 (fun _ q => XS.bipush X15.here hx rfl (hb hby at_44) q) ?_
  obtain ⟨cl16, Ar16, q16, S16, Nn16, H16, G16⟩ := (id V15')
  have hin16 : ¬ ((7 : Int32) < 0 ∨ cl16.slots.size ≤ ((7 : Int32)).toNatClampNeg) := inb_of S16 ⟨by decide, by decide⟩
  obtain ⟨T17, h17, X17, e17, W17, st17⟩ := stC X15 hx hZ e15 Ar16 (j := (7 : Int32)) hin16 (g := (mkF m 46 #[.val (.int p0), .val (.int p1), .unset, .unset, .unset, .unset] [(.int (33 : Int32)), (.int (7 : Int32)), (.ref b1), (.ref b1)])) rfl rfl (hb hby at_46)
  have V17 := Arv.set Ar16 q16 S16 Nn16 H16 G16 (fits_nar_char _) W17 7 rfl (Nat.le_of_ble_eq_true rfl)
  have N17 := Fr.snoc X17 N15 ge1
  have Z17 : n0 ≤ h17.size := Nat.le_trans Z15 (Nat.le_of_eq W17.size.symm)
  have V17' : Arv Z h17 b1 k1 .char (8 : Int32) [(.int (32 : Int32)), (.int (9 : Int32)), (.int (13 : Int32)), (.int (10 : Int32)), (.int (11 : Int32)), (.int (12 : Int32)), (.int (160 : Int32)), (.int (33 : Int32))] (.int (0 : Int32)) := V17
  refine own_cs [(.ref b1)] 47 st17 ?_
  refine own_ls #[.val (.int p0), .val (.int p1), .val (.ref b1), .unset, .unset, .unset] 48 (fun _ q => XS.astoreN X17.here hx rfl (hb hby at_47) rfl rfl (l' := #[.val (.int p0), .val (.int p1), .val (.ref b1), .unset, .unset, .unset]) rfl q) ?_
  refine own_tp (.int p1) 49 (fun _ q => XS.iloadN X17.here hx rfl (hb hby at_48) rfl q) ?_
  refine own_tp (.int (1 : Int32)) 50 (fun _ q => XS.iconst X17.here hx rfl (hb hby at_49) q) ?_
  refine own_t2 (.int (p1 &&& (1 : Int32))) 51 (fun _ q => XS.iand X17.here hx rfl (hb hby at_50) rfl q) ?_
  by_cases c18 : (p1 &&& (1 : Int32)) = (0 : Int32)
  ·
    refine own_d1 63 (fun _ q => XS.ifYes X17.here hx rfl (pc0 := 51) (pc' := 63) rfl (hb hby at_51) rfl ((if0 _ _).trans (teq c18).1) (by decide) (by decide) q) ?_
    refine own_tp (.int p0) 64 (fun _ q => XS.iloadN X17.here hx rfl (hb hby at_63) rfl q) ?_
    refine own_tp (.int (65535 : Int32)) 66 (fun _ q => X17.ldcInt hx hown (mvT hZ (hw _ (List.mem_of_getElem? (i := 5) rfl))) (g := (mkF m 64 #[.val (.int p0), .val (.int p1), .val (.ref b1), .unset, .unset, .unset] [(.int p0)])) rfl (hb hby at_64) _ q) ?_
    refine own_t2 (.int (p0 &&& (65535 : Int32))) 67 (fun _ q => XS.iand X17.here hx rfl (hb hby at_66) rfl q) ?_
    refine own_t1 (.int ((p0 &&& (65535 : Int32)).toUInt32.toUInt16.toUInt32.toInt32)) 68 (fun _ q => XS.i2c X17.here hx rfl (hb hby at_67) rfl q) ?_
    refine own_ls #[.val (.int p0), .val (.int p1), .val (.ref b1), .val (.int ((p0 &&& (65535 : Int32)).toUInt32.toUInt16.toUInt32.toInt32)), .unset, .unset] 69 (fun _ q => XS.istoreN X17.here hx rfl (hb hby at_68) rfl (l' := #[.val (.int p0), .val (.int p1), .val (.ref b1), .val (.int ((p0 &&& (65535 : Int32)).toUInt32.toUInt16.toUInt32.toInt32)), .unset, .unset]) rfl q) ?_
    refine own_tp (.int ((p0 &&& (65535 : Int32)).toUInt32.toUInt16.toUInt32.toInt32)) 70 (fun _ q => XS.iloadN X17.here hx rfl (hb hby at_69) rfl q) ?_
    refine own_ls #[.val (.int p0), .val (.int p1), .val (.ref b1), .val (.int ((p0 &&& (65535 : Int32)).toUInt32.toUInt16.toUInt32.toInt32)), .val (.int ((p0 &&& (65535 : Int32)).toUInt32.toUInt16.toUInt32.toInt32)), .unset] 72 (fun _ q => XS.istore X17.here hx rfl (hb hby at_70) rfl (l' := #[.val (.int p0), .val (.int p1), .val (.ref b1), .val (.int ((p0 &&& (65535 : Int32)).toUInt32.toUInt16.toUInt32.toInt32)), .val (.int ((p0 &&& (65535 : Int32)).toUInt32.toUInt16.toUInt32.toInt32)), .unset]) rfl q) ?_
    refine own_tp (.int ((p0 &&& (65535 : Int32)).toUInt32.toUInt16.toUInt32.toInt32)) 74 (fun _ q => XS.iload X17.here hx rfl (hb hby at_72) rfl q) ?_
    refine own_tp (.int (9 : Int32)) 76 (fun _ q => XS.bipush X17.here hx rfl (hb hby at_74) q) ?_
    by_cases c19 : ((p0 &&& (65535 : Int32)).toUInt32.toUInt16.toUInt32.toInt32) = (9 : Int32)
    ·
      refine own_d2 100 (fun _ q => XS.icmpYes X17.here hx rfl (pc0 := 76) (pc' := 100) rfl (hb hby at_76) rfl (teq c19).1 (by decide) (by decide) q) ?_
      refine own_tp (.int (1 : Int32)) 101 (fun _ q => XS.iconst X17.here hx rfl (hb hby at_100) q) ?_
      refine own_d0 105 (fun _ q => XS.goto X17.here hx rfl (pc0 := 101) (pc' := 105) rfl (hb hby at_101) (by decide) (by decide) q) ?_
      refine own_ls #[.val (.int p0), .val (.int p1), .val (.ref b1), .val (.int ((p0 &&& (65535 : Int32)).toUInt32.toUInt16.toUInt32.toInt32)), .val (.int ((p0 &&& (65535 : Int32)).toUInt32.toUInt16.toUInt32.toInt32)), .val (.int (1 : Int32))] 107 (fun _ q => XS.istore X17.here hx rfl (hb hby at_105) rfl (l' := #[.val (.int p0), .val (.int p1), .val (.ref b1), .val (.int ((p0 &&& (65535 : Int32)).toUInt32.toUInt16.toUInt32.toInt32)), .val (.int ((p0 &&& (65535 : Int32)).toUInt32.toUInt16.toUInt32.toInt32)), .val (.int (1 : Int32))]) rfl q) ?_
      refine own_tp (.int ((p0 &&& (65535 : Int32)).toUInt32.toUInt16.toUInt32.toInt32)) 108 (fun _ q => XS.iloadN X17.here hx rfl (hb hby at_107) rfl q) ?_
      obtain ⟨_, _, ⟨T20, L20, k20, n20⟩, -, X20, ⟨Lc20, hQ20, l20, y20, z20⟩, st20⟩ := Jvm.LawKit.callS X17 hx (y := (⟨"com/example/unit_step/unitstep/DecimalNumeral", "isBlank", "(C)Z"⟩ : MethodName)) hown (mvT hZ (hw _ (List.mem_of_getElem? (i := 1) rfl))) (mvT hZ (hw _ (List.mem_of_getElem? (i := 2) rfl))) (mvT hZ (hw _ (List.mem_of_getElem? (i := 3) rfl))) (mvT hZ (hw _ (List.mem_of_getElem? (i := 4) rfl))) (by decide) (backOf (W := 0) (rm1 l Z a0 hw [] ((p0 &&& (65535 : Int32)).toUInt32.toUInt16.toUInt32.toInt32) h17 n0 ) hZ (hw _ (List.mem_of_getElem? (i := 4) rfl)) (hw _ (List.mem_of_getElem? (i := 3) rfl)) (by decide) (by decide)) (g := (mkF m 108 #[.val (.int p0), .val (.int p1), .val (.ref b1), .val (.int ((p0 &&& (65535 : Int32)).toUInt32.toUInt16.toUInt32.toInt32)), .val (.int ((p0 &&& (65535 : Int32)).toUInt32.toUInt16.toUInt32.toInt32)), .val (.int (1 : Int32))] [(.int ((p0 &&& (65535 : Int32)).toUInt32.toUInt16.toUInt32.toInt32))])) rfl (by rw [hml]; rfl) (argsL := [(.int ((p0 &&& (65535 : Int32)).toUInt32.toUInt16.toUInt32.toInt32))]) (rest := []) (lenOf pd0_0 rfl) rfl (by show 2 * 0 + _ ≤ _; exact Nat.le_of_eq rfl) (hb hby at_108) (fun _ _ => ⟨rfl, e17, (by decide : 1 + 0 ≤ _), (by decide : 8 + 0 ≤ _)⟩)
      dsimp only [Pt.U, Pt.locs, Pt.cells, Pt.slots] at X20 l20 y20 z20 st20 hQ20
      subst l20 y20 z20
      obtain ⟨rfl, Nq20, eq20⟩ := hQ20
      have N20 := Fr.app N17 Nq20
      refine own_t1 (.int (own_f1 ((p0 &&& (65535 : Int32)).toUInt32.toUInt16.toUInt32.toInt32))) 111 st20 ?_
      refine own_tp (.int (1 : Int32)) 113 (fun _ q => XS.iload X20.here hx rfl (hb hby at_111) rfl q) ?_
      refine own_d2 116 (fun _ q => XS.icmpNo X20.here hx rfl (hb hby at_113) rfl (teq (by rw [own_f1_spec]; first | (simp only [c18, c19, ↓reduceIte]; done) | (simp only [c18, c19, ↓reduceIte]; rfl))).2 q) ?_
      refine own_tp (.int (1 : Int32)) 117 (fun _ q => XS.iconst X20.here hx rfl (hb hby at_116) q) ?_
      refine own_d0 121 (fun _ q => XS.goto X20.here hx rfl (pc0 := 117) (pc' := 121) rfl (hb hby at_117) (by decide) (by decide) q) ?_
      exact own_retN (t := .boolean) X20 hx hrt (hb hby at_121) (by simp) hlk (by decide) (by decide) eq20 (⟨rfl, N20⟩)
    ·
      refine own_d2 79 (fun _ q => XS.icmpNo X17.here hx rfl (hb hby at_76) rfl (feq c19).1 q) ?_
      refine own_tp (.int ((p0 &&& (65535 : Int32)).toUInt32.toUInt16.toUInt32.toInt32)) 81 (fun _ q => XS.iload X17.here hx rfl (hb hby at_79) rfl q) ?_
      refine own_tp (.int (10 : Int32)) 83 (fun _ q => XS.bipush X17.here hx rfl (hb hby at_81) q) ?_
      by_cases c21 : ((p0 &&& (65535 : Int32)).toUInt32.toUInt16.toUInt32.toInt32) = (10 : Int32)
      ·
        refine own_d2 100 (fun _ q => XS.icmpYes X17.here hx rfl (pc0 := 83) (pc' := 100) rfl (hb hby at_83) rfl (teq c21).1 (by decide) (by decide) q) ?_
        refine own_tp (.int (1 : Int32)) 101 (fun _ q => XS.iconst X17.here hx rfl (hb hby at_100) q) ?_
        refine own_d0 105 (fun _ q => XS.goto X17.here hx rfl (pc0 := 101) (pc' := 105) rfl (hb hby at_101) (by decide) (by decide) q) ?_
        refine own_ls #[.val (.int p0), .val (.int p1), .val (.ref b1), .val (.int ((p0 &&& (65535 : Int32)).toUInt32.toUInt16.toUInt32.toInt32)), .val (.int ((p0 &&& (65535 : Int32)).toUInt32.toUInt16.toUInt32.toInt32)), .val (.int (1 : Int32))] 107 (fun _ q => XS.istore X17.here hx rfl (hb hby at_105) rfl (l' := #[.val (.int p0), .val (.int p1), .val (.ref b1), .val (.int ((p0 &&& (65535 : Int32)).toUInt32.toUInt16.toUInt32.toInt32)), .val (.int ((p0 &&& (65535 : Int32)).toUInt32.toUInt16.toUInt32.toInt32)), .val (.int (1 : Int32))]) rfl q) ?_
        refine own_tp (.int ((p0 &&& (65535 : Int32)).toUInt32.toUInt16.toUInt32.toInt32)) 108 (fun _ q => XS.iloadN X17.here hx rfl (hb hby at_107) rfl q) ?_
        obtain ⟨_, _, ⟨T22, L22, k22, n22⟩, -, X22, ⟨Lc22, hQ22, l22, y22, z22⟩, st22⟩ := Jvm.LawKit.callS X17 hx (y := (⟨"com/example/unit_step/unitstep/DecimalNumeral", "isBlank", "(C)Z"⟩ : MethodName)) hown (mvT hZ (hw _ (List.mem_of_getElem? (i := 1) rfl))) (mvT hZ (hw _ (List.mem_of_getElem? (i := 2) rfl))) (mvT hZ (hw _ (List.mem_of_getElem? (i := 3) rfl))) (mvT hZ (hw _ (List.mem_of_getElem? (i := 4) rfl))) (by decide) (backOf (W := 0) (rm1 l Z a0 hw [] ((p0 &&& (65535 : Int32)).toUInt32.toUInt16.toUInt32.toInt32) h17 n0 ) hZ (hw _ (List.mem_of_getElem? (i := 4) rfl)) (hw _ (List.mem_of_getElem? (i := 3) rfl)) (by decide) (by decide)) (g := (mkF m 108 #[.val (.int p0), .val (.int p1), .val (.ref b1), .val (.int ((p0 &&& (65535 : Int32)).toUInt32.toUInt16.toUInt32.toInt32)), .val (.int ((p0 &&& (65535 : Int32)).toUInt32.toUInt16.toUInt32.toInt32)), .val (.int (1 : Int32))] [(.int ((p0 &&& (65535 : Int32)).toUInt32.toUInt16.toUInt32.toInt32))])) rfl (by rw [hml]; rfl) (argsL := [(.int ((p0 &&& (65535 : Int32)).toUInt32.toUInt16.toUInt32.toInt32))]) (rest := []) (lenOf pd0_0 rfl) rfl (by show 2 * 0 + _ ≤ _; exact Nat.le_of_eq rfl) (hb hby at_108) (fun _ _ => ⟨rfl, e17, (by decide : 1 + 0 ≤ _), (by decide : 8 + 0 ≤ _)⟩)
        dsimp only [Pt.U, Pt.locs, Pt.cells, Pt.slots] at X22 l22 y22 z22 st22 hQ22
        subst l22 y22 z22
        obtain ⟨rfl, Nq22, eq22⟩ := hQ22
        have N22 := Fr.app N17 Nq22
        refine own_t1 (.int (own_f1 ((p0 &&& (65535 : Int32)).toUInt32.toUInt16.toUInt32.toInt32))) 111 st22 ?_
        refine own_tp (.int (1 : Int32)) 113 (fun _ q => XS.iload X22.here hx rfl (hb hby at_111) rfl q) ?_
        refine own_d2 116 (fun _ q => XS.icmpNo X22.here hx rfl (hb hby at_113) rfl (teq (by rw [own_f1_spec]; first | (simp only [c18, c19, c21, ↓reduceIte]; done) | (simp only [c18, c19, c21, ↓reduceIte]; rfl))).2 q) ?_
        refine own_tp (.int (1 : Int32)) 117 (fun _ q => XS.iconst X22.here hx rfl (hb hby at_116) q) ?_
        refine own_d0 121 (fun _ q => XS.goto X22.here hx rfl (pc0 := 117) (pc' := 121) rfl (hb hby at_117) (by decide) (by decide) q) ?_
        exact own_retN (t := .boolean) X22 hx hrt (hb hby at_121) (by simp) hlk (by decide) (by decide) eq22 (⟨rfl, N22⟩)
      ·
        refine own_d2 86 (fun _ q => XS.icmpNo X17.here hx rfl (hb hby at_83) rfl (feq c21).1 q) ?_
        refine own_tp (.int ((p0 &&& (65535 : Int32)).toUInt32.toUInt16.toUInt32.toInt32)) 88 (fun _ q => XS.iload X17.here hx rfl (hb hby at_86) rfl q) ?_
        refine own_tp (.int (13 : Int32)) 90 (fun _ q => XS.bipush X17.here hx rfl (hb hby at_88) q) ?_
        by_cases c23 : ((p0 &&& (65535 : Int32)).toUInt32.toUInt16.toUInt32.toInt32) = (13 : Int32)
        ·
          refine own_d2 100 (fun _ q => XS.icmpYes X17.here hx rfl (pc0 := 90) (pc' := 100) rfl (hb hby at_90) rfl (teq c23).1 (by decide) (by decide) q) ?_
          refine own_tp (.int (1 : Int32)) 101 (fun _ q => XS.iconst X17.here hx rfl (hb hby at_100) q) ?_
          refine own_d0 105 (fun _ q => XS.goto X17.here hx rfl (pc0 := 101) (pc' := 105) rfl (hb hby at_101) (by decide) (by decide) q) ?_
          refine own_ls #[.val (.int p0), .val (.int p1), .val (.ref b1), .val (.int ((p0 &&& (65535 : Int32)).toUInt32.toUInt16.toUInt32.toInt32)), .val (.int ((p0 &&& (65535 : Int32)).toUInt32.toUInt16.toUInt32.toInt32)), .val (.int (1 : Int32))] 107 (fun _ q => XS.istore X17.here hx rfl (hb hby at_105) rfl (l' := #[.val (.int p0), .val (.int p1), .val (.ref b1), .val (.int ((p0 &&& (65535 : Int32)).toUInt32.toUInt16.toUInt32.toInt32)), .val (.int ((p0 &&& (65535 : Int32)).toUInt32.toUInt16.toUInt32.toInt32)), .val (.int (1 : Int32))]) rfl q) ?_
          refine own_tp (.int ((p0 &&& (65535 : Int32)).toUInt32.toUInt16.toUInt32.toInt32)) 108 (fun _ q => XS.iloadN X17.here hx rfl (hb hby at_107) rfl q) ?_
          obtain ⟨_, _, ⟨T24, L24, k24, n24⟩, -, X24, ⟨Lc24, hQ24, l24, y24, z24⟩, st24⟩ := Jvm.LawKit.callS X17 hx (y := (⟨"com/example/unit_step/unitstep/DecimalNumeral", "isBlank", "(C)Z"⟩ : MethodName)) hown (mvT hZ (hw _ (List.mem_of_getElem? (i := 1) rfl))) (mvT hZ (hw _ (List.mem_of_getElem? (i := 2) rfl))) (mvT hZ (hw _ (List.mem_of_getElem? (i := 3) rfl))) (mvT hZ (hw _ (List.mem_of_getElem? (i := 4) rfl))) (by decide) (backOf (W := 0) (rm1 l Z a0 hw [] ((p0 &&& (65535 : Int32)).toUInt32.toUInt16.toUInt32.toInt32) h17 n0 ) hZ (hw _ (List.mem_of_getElem? (i := 4) rfl)) (hw _ (List.mem_of_getElem? (i := 3) rfl)) (by decide) (by decide)) (g := (mkF m 108 #[.val (.int p0), .val (.int p1), .val (.ref b1), .val (.int ((p0 &&& (65535 : Int32)).toUInt32.toUInt16.toUInt32.toInt32)), .val (.int ((p0 &&& (65535 : Int32)).toUInt32.toUInt16.toUInt32.toInt32)), .val (.int (1 : Int32))] [(.int ((p0 &&& (65535 : Int32)).toUInt32.toUInt16.toUInt32.toInt32))])) rfl (by rw [hml]; rfl) (argsL := [(.int ((p0 &&& (65535 : Int32)).toUInt32.toUInt16.toUInt32.toInt32))]) (rest := []) (lenOf pd0_0 rfl) rfl (by show 2 * 0 + _ ≤ _; exact Nat.le_of_eq rfl) (hb hby at_108) (fun _ _ => ⟨rfl, e17, (by decide : 1 + 0 ≤ _), (by decide : 8 + 0 ≤ _)⟩)
          dsimp only [Pt.U, Pt.locs, Pt.cells, Pt.slots] at X24 l24 y24 z24 st24 hQ24
          subst l24 y24 z24
          obtain ⟨rfl, Nq24, eq24⟩ := hQ24
          have N24 := Fr.app N17 Nq24
          refine own_t1 (.int (own_f1 ((p0 &&& (65535 : Int32)).toUInt32.toUInt16.toUInt32.toInt32))) 111 st24 ?_
          refine own_tp (.int (1 : Int32)) 113 (fun _ q => XS.iload X24.here hx rfl (hb hby at_111) rfl q) ?_
          refine own_d2 116 (fun _ q => XS.icmpNo X24.here hx rfl (hb hby at_113) rfl (teq (by rw [own_f1_spec]; first | (simp only [c18, c19, c21, c23, ↓reduceIte]; done) | (simp only [c18, c19, c21, c23, ↓reduceIte]; rfl))).2 q) ?_
          refine own_tp (.int (1 : Int32)) 117 (fun _ q => XS.iconst X24.here hx rfl (hb hby at_116) q) ?_
          refine own_d0 121 (fun _ q => XS.goto X24.here hx rfl (pc0 := 117) (pc' := 121) rfl (hb hby at_117) (by decide) (by decide) q) ?_
          exact own_retN (t := .boolean) X24 hx hrt (hb hby at_121) (by simp) hlk (by decide) (by decide) eq24 (⟨rfl, N24⟩)
        ·
          refine own_d2 93 (fun _ q => XS.icmpNo X17.here hx rfl (hb hby at_90) rfl (feq c23).1 q) ?_
          refine own_tp (.int ((p0 &&& (65535 : Int32)).toUInt32.toUInt16.toUInt32.toInt32)) 95 (fun _ q => XS.iload X17.here hx rfl (hb hby at_93) rfl q) ?_
          refine own_tp (.int (32 : Int32)) 97 (fun _ q => XS.bipush X17.here hx rfl (hb hby at_95) q) ?_
          by_cases c25 : ((p0 &&& (65535 : Int32)).toUInt32.toUInt16.toUInt32.toInt32) = (32 : Int32)
          ·
            refine own_d2 100 (fun _ q => XS.icmpNo X17.here hx rfl (hb hby at_97) rfl (teq c25).2 q) ?_
            refine own_tp (.int (1 : Int32)) 101 (fun _ q => XS.iconst X17.here hx rfl (hb hby at_100) q) ?_
            refine own_d0 105 (fun _ q => XS.goto X17.here hx rfl (pc0 := 101) (pc' := 105) rfl (hb hby at_101) (by decide) (by decide) q) ?_
            refine own_ls #[.val (.int p0), .val (.int p1), .val (.ref b1), .val (.int ((p0 &&& (65535 : Int32)).toUInt32.toUInt16.toUInt32.toInt32)), .val (.int ((p0 &&& (65535 : Int32)).toUInt32.toUInt16.toUInt32.toInt32)), .val (.int (1 : Int32))] 107 (fun _ q => XS.istore X17.here hx rfl (hb hby at_105) rfl (l' := #[.val (.int p0), .val (.int p1), .val (.ref b1), .val (.int ((p0 &&& (65535 : Int32)).toUInt32.toUInt16.toUInt32.toInt32)), .val (.int ((p0 &&& (65535 : Int32)).toUInt32.toUInt16.toUInt32.toInt32)), .val (.int (1 : Int32))]) rfl q) ?_
            refine own_tp (.int ((p0 &&& (65535 : Int32)).toUInt32.toUInt16.toUInt32.toInt32)) 108 (fun _ q => XS.iloadN X17.here hx rfl (hb hby at_107) rfl q) ?_
            obtain ⟨_, _, ⟨T26, L26, k26, n26⟩, -, X26, ⟨Lc26, hQ26, l26, y26, z26⟩, st26⟩ := Jvm.LawKit.callS X17 hx (y := (⟨"com/example/unit_step/unitstep/DecimalNumeral", "isBlank", "(C)Z"⟩ : MethodName)) hown (mvT hZ (hw _ (List.mem_of_getElem? (i := 1) rfl))) (mvT hZ (hw _ (List.mem_of_getElem? (i := 2) rfl))) (mvT hZ (hw _ (List.mem_of_getElem? (i := 3) rfl))) (mvT hZ (hw _ (List.mem_of_getElem? (i := 4) rfl))) (by decide) (backOf (W := 0) (rm1 l Z a0 hw [] ((p0 &&& (65535 : Int32)).toUInt32.toUInt16.toUInt32.toInt32) h17 n0 ) hZ (hw _ (List.mem_of_getElem? (i := 4) rfl)) (hw _ (List.mem_of_getElem? (i := 3) rfl)) (by decide) (by decide)) (g := (mkF m 108 #[.val (.int p0), .val (.int p1), .val (.ref b1), .val (.int ((p0 &&& (65535 : Int32)).toUInt32.toUInt16.toUInt32.toInt32)), .val (.int ((p0 &&& (65535 : Int32)).toUInt32.toUInt16.toUInt32.toInt32)), .val (.int (1 : Int32))] [(.int ((p0 &&& (65535 : Int32)).toUInt32.toUInt16.toUInt32.toInt32))])) rfl (by rw [hml]; rfl) (argsL := [(.int ((p0 &&& (65535 : Int32)).toUInt32.toUInt16.toUInt32.toInt32))]) (rest := []) (lenOf pd0_0 rfl) rfl (by show 2 * 0 + _ ≤ _; exact Nat.le_of_eq rfl) (hb hby at_108) (fun _ _ => ⟨rfl, e17, (by decide : 1 + 0 ≤ _), (by decide : 8 + 0 ≤ _)⟩)
            dsimp only [Pt.U, Pt.locs, Pt.cells, Pt.slots] at X26 l26 y26 z26 st26 hQ26
            subst l26 y26 z26
            obtain ⟨rfl, Nq26, eq26⟩ := hQ26
            have N26 := Fr.app N17 Nq26
            refine own_t1 (.int (own_f1 ((p0 &&& (65535 : Int32)).toUInt32.toUInt16.toUInt32.toInt32))) 111 st26 ?_
            refine own_tp (.int (1 : Int32)) 113 (fun _ q => XS.iload X26.here hx rfl (hb hby at_111) rfl q) ?_
            refine own_d2 116 (fun _ q => XS.icmpNo X26.here hx rfl (hb hby at_113) rfl (teq (by rw [own_f1_spec]; first | (simp only [c18, c19, c21, c23, c25, ↓reduceIte]; done) | (simp only [c18, c19, c21, c23, c25, ↓reduceIte]; rfl))).2 q) ?_
            refine own_tp (.int (1 : Int32)) 117 (fun _ q => XS.iconst X26.here hx rfl (hb hby at_116) q) ?_
            refine own_d0 121 (fun _ q => XS.goto X26.here hx rfl (pc0 := 117) (pc' := 121) rfl (hb hby at_117) (by decide) (by decide) q) ?_
            exact own_retN (t := .boolean) X26 hx hrt (hb hby at_121) (by simp) hlk (by decide) (by decide) eq26 (⟨rfl, N26⟩)
          ·
            refine own_d2 104 (fun _ q => XS.icmpYes X17.here hx rfl (pc0 := 97) (pc' := 104) rfl (hb hby at_97) rfl (feq c25).2 (by decide) (by decide) q) ?_
            refine own_tp (.int (0 : Int32)) 105 (fun _ q => XS.iconst X17.here hx rfl (hb hby at_104) q) ?_
            refine own_ls #[.val (.int p0), .val (.int p1), .val (.ref b1), .val (.int ((p0 &&& (65535 : Int32)).toUInt32.toUInt16.toUInt32.toInt32)), .val (.int ((p0 &&& (65535 : Int32)).toUInt32.toUInt16.toUInt32.toInt32)), .val (.int (0 : Int32))] 107 (fun _ q => XS.istore X17.here hx rfl (hb hby at_105) rfl (l' := #[.val (.int p0), .val (.int p1), .val (.ref b1), .val (.int ((p0 &&& (65535 : Int32)).toUInt32.toUInt16.toUInt32.toInt32)), .val (.int ((p0 &&& (65535 : Int32)).toUInt32.toUInt16.toUInt32.toInt32)), .val (.int (0 : Int32))]) rfl q) ?_
            refine own_tp (.int ((p0 &&& (65535 : Int32)).toUInt32.toUInt16.toUInt32.toInt32)) 108 (fun _ q => XS.iloadN X17.here hx rfl (hb hby at_107) rfl q) ?_
            obtain ⟨_, _, ⟨T27, L27, k27, n27⟩, -, X27, ⟨Lc27, hQ27, l27, y27, z27⟩, st27⟩ := Jvm.LawKit.callS X17 hx (y := (⟨"com/example/unit_step/unitstep/DecimalNumeral", "isBlank", "(C)Z"⟩ : MethodName)) hown (mvT hZ (hw _ (List.mem_of_getElem? (i := 1) rfl))) (mvT hZ (hw _ (List.mem_of_getElem? (i := 2) rfl))) (mvT hZ (hw _ (List.mem_of_getElem? (i := 3) rfl))) (mvT hZ (hw _ (List.mem_of_getElem? (i := 4) rfl))) (by decide) (backOf (W := 0) (rm1 l Z a0 hw [] ((p0 &&& (65535 : Int32)).toUInt32.toUInt16.toUInt32.toInt32) h17 n0 ) hZ (hw _ (List.mem_of_getElem? (i := 4) rfl)) (hw _ (List.mem_of_getElem? (i := 3) rfl)) (by decide) (by decide)) (g := (mkF m 108 #[.val (.int p0), .val (.int p1), .val (.ref b1), .val (.int ((p0 &&& (65535 : Int32)).toUInt32.toUInt16.toUInt32.toInt32)), .val (.int ((p0 &&& (65535 : Int32)).toUInt32.toUInt16.toUInt32.toInt32)), .val (.int (0 : Int32))] [(.int ((p0 &&& (65535 : Int32)).toUInt32.toUInt16.toUInt32.toInt32))])) rfl (by rw [hml]; rfl) (argsL := [(.int ((p0 &&& (65535 : Int32)).toUInt32.toUInt16.toUInt32.toInt32))]) (rest := []) (lenOf pd0_0 rfl) rfl (by show 2 * 0 + _ ≤ _; exact Nat.le_of_eq rfl) (hb hby at_108) (fun _ _ => ⟨rfl, e17, (by decide : 1 + 0 ≤ _), (by decide : 8 + 0 ≤ _)⟩)
            dsimp only [Pt.U, Pt.locs, Pt.cells, Pt.slots] at X27 l27 y27 z27 st27 hQ27
            subst l27 y27 z27
            obtain ⟨rfl, Nq27, eq27⟩ := hQ27
            have N27 := Fr.app N17 Nq27
            refine own_t1 (.int (own_f1 ((p0 &&& (65535 : Int32)).toUInt32.toUInt16.toUInt32.toInt32))) 111 st27 ?_
            refine own_tp (.int (0 : Int32)) 113 (fun _ q => XS.iload X27.here hx rfl (hb hby at_111) rfl q) ?_
            refine own_d2 116 (fun _ q => XS.icmpNo X27.here hx rfl (hb hby at_113) rfl (teq (by rw [own_f1_spec]; first | (simp only [c18, c19, c21, c23, c25, ↓reduceIte]; done) | (simp only [c18, c19, c21, c23, c25, ↓reduceIte]; rfl))).2 q) ?_
            refine own_tp (.int (1 : Int32)) 117 (fun _ q => XS.iconst X27.here hx rfl (hb hby at_116) q) ?_
            refine own_d0 121 (fun _ q => XS.goto X27.here hx rfl (pc0 := 117) (pc' := 121) rfl (hb hby at_117) (by decide) (by decide) q) ?_
            exact own_retN (t := .boolean) X27 hx hrt (hb hby at_121) (by simp) hlk (by decide) (by decide) eq27 (⟨rfl, N27⟩)
  ·
    refine own_d1 54 (fun _ q => XS.ifNo X17.here hx rfl (hb hby at_51) rfl ((if0 _ _).trans (feq c18).1) q) ?_
    refine own_tp (.ref b1) 55 (fun _ q => XS.aloadN X17.here hx rfl (hb hby at_54) rfl rfl q) ?_
    refine own_tp (.int p0) 56 (fun _ q => XS.iloadN X17.here hx rfl (hb hby at_55) rfl q) ?_
    refine own_tp (.int (7 : Int32)) 58 (fun _ q => XS.bipush X17.here hx rfl (hb hby at_56) q) ?_
    refine own_t2 (.int (p0 &&& (7 : Int32))) 59 (fun _ q => XS.iand X17.here hx rfl (hb hby at_58) rfl q) ?_
    obtain ⟨cl28, Ar28, q28, S28, Nn28, H28, G28⟩ := (id V17')
    have hin28 : ¬ ((p0 &&& (7 : Int32)) < 0 ∨ cl28.slots.size ≤ ((p0 &&& (7 : Int32))).toNatClampNeg) := inb_of S28 (own_j p0)
    have hat28 : cl28.slots[((p0 &&& (7 : Int32))).toNatClampNeg]? = some (.int (own_ed (p0 &&& (7 : Int32)))) := H28.at hin28 (by exact own_edat p0)
    refine own_t2 (.int (own_ed (p0 &&& (7 : Int32)))) 60 (fun _ q => X17.caload hx (j := (p0 &&& (7 : Int32))) (v := (.int (own_ed (p0 &&& (7 : Int32))))) (by rw [e17]; exact Ar28.1) (State.isArrayOf_alike hZ.alike Ar28.2.1) Ar28.2.2 hin28 hat28 (g := (mkF m 59 #[.val (.int p0), .val (.int p1), .val (.ref b1), .unset, .unset, .unset] [(.int (p0 &&& (7 : Int32))), (.ref b1)])) rfl rfl (hb hby at_59) _ q) ?_
    refine own_d0 68 (fun _ q => XS.goto X17.here hx rfl (pc0 := 60) (pc' := 68) rfl (hb hby at_60) (by decide) (by decide) q) ?_
    refine own_ls #[.val (.int p0), .val (.int p1), .val (.ref b1), .val (.int (own_ed (p0 &&& (7 : Int32)))), .unset, .unset] 69 (fun _ q => XS.istoreN X17.here hx rfl (hb hby at_68) rfl (l' := #[.val (.int p0), .val (.int p1), .val (.ref b1), .val (.int (own_ed (p0 &&& (7 : Int32)))), .unset, .unset]) rfl q) ?_
    refine own_tp (.int (own_ed (p0 &&& (7 : Int32)))) 70 (fun _ q => XS.iloadN X17.here hx rfl (hb hby at_69) rfl q) ?_
    refine own_ls #[.val (.int p0), .val (.int p1), .val (.ref b1), .val (.int (own_ed (p0 &&& (7 : Int32)))), .val (.int (own_ed (p0 &&& (7 : Int32)))), .unset] 72 (fun _ q => XS.istore X17.here hx rfl (hb hby at_70) rfl (l' := #[.val (.int p0), .val (.int p1), .val (.ref b1), .val (.int (own_ed (p0 &&& (7 : Int32)))), .val (.int (own_ed (p0 &&& (7 : Int32)))), .unset]) rfl q) ?_
    refine own_tp (.int (own_ed (p0 &&& (7 : Int32)))) 74 (fun _ q => XS.iload X17.here hx rfl (hb hby at_72) rfl q) ?_
    refine own_tp (.int (9 : Int32)) 76 (fun _ q => XS.bipush X17.here hx rfl (hb hby at_74) q) ?_
    by_cases c29 : (own_ed (p0 &&& (7 : Int32))) = (9 : Int32)
    ·
      refine own_d2 100 (fun _ q => XS.icmpYes X17.here hx rfl (pc0 := 76) (pc' := 100) rfl (hb hby at_76) rfl (teq c29).1 (by decide) (by decide) q) ?_
      refine own_tp (.int (1 : Int32)) 101 (fun _ q => XS.iconst X17.here hx rfl (hb hby at_100) q) ?_
      refine own_d0 105 (fun _ q => XS.goto X17.here hx rfl (pc0 := 101) (pc' := 105) rfl (hb hby at_101) (by decide) (by decide) q) ?_
      refine own_ls #[.val (.int p0), .val (.int p1), .val (.ref b1), .val (.int (own_ed (p0 &&& (7 : Int32)))), .val (.int (own_ed (p0 &&& (7 : Int32)))), .val (.int (1 : Int32))] 107 (fun _ q => XS.istore X17.here hx rfl (hb hby at_105) rfl (l' := #[.val (.int p0), .val (.int p1), .val (.ref b1), .val (.int (own_ed (p0 &&& (7 : Int32)))), .val (.int (own_ed (p0 &&& (7 : Int32)))), .val (.int (1 : Int32))]) rfl q) ?_
      refine own_tp (.int (own_ed (p0 &&& (7 : Int32)))) 108 (fun _ q => XS.iloadN X17.here hx rfl (hb hby at_107) rfl q) ?_
      obtain ⟨_, _, ⟨T30, L30, k30, n30⟩, -, X30, ⟨Lc30, hQ30, l30, y30, z30⟩, st30⟩ := Jvm.LawKit.callS X17 hx (y := (⟨"com/example/unit_step/unitstep/DecimalNumeral", "isBlank", "(C)Z"⟩ : MethodName)) hown (mvT hZ (hw _ (List.mem_of_getElem? (i := 1) rfl))) (mvT hZ (hw _ (List.mem_of_getElem? (i := 2) rfl))) (mvT hZ (hw _ (List.mem_of_getElem? (i := 3) rfl))) (mvT hZ (hw _ (List.mem_of_getElem? (i := 4) rfl))) (by decide) (backOf (W := 0) (rm1 l Z a0 hw [] (own_ed (p0 &&& (7 : Int32))) h17 n0 ) hZ (hw _ (List.mem_of_getElem? (i := 4) rfl)) (hw _ (List.mem_of_getElem? (i := 3) rfl)) (by decide) (by decide)) (g := (mkF m 108 #[.val (.int p0), .val (.int p1), .val (.ref b1), .val (.int (own_ed (p0 &&& (7 : Int32)))), .val (.int (own_ed (p0 &&& (7 : Int32)))), .val (.int (1 : Int32))] [(.int (own_ed (p0 &&& (7 : Int32))))])) rfl (by rw [hml]; rfl) (argsL := [(.int (own_ed (p0 &&& (7 : Int32))))]) (rest := []) (lenOf pd0_0 rfl) rfl (by show 2 * 0 + _ ≤ _; exact Nat.le_of_eq rfl) (hb hby at_108) (fun _ _ => ⟨rfl, e17, (by decide : 1 + 0 ≤ _), (by decide : 8 + 0 ≤ _)⟩)
      dsimp only [Pt.U, Pt.locs, Pt.cells, Pt.slots] at X30 l30 y30 z30 st30 hQ30
      subst l30 y30 z30
      obtain ⟨rfl, Nq30, eq30⟩ := hQ30
      have N30 := Fr.app N17 Nq30
      refine own_t1 (.int (own_f1 (own_ed (p0 &&& (7 : Int32))))) 111 st30 ?_
      refine own_tp (.int (1 : Int32)) 113 (fun _ q => XS.iload X30.here hx rfl (hb hby at_111) rfl q) ?_
      refine own_d2 116 (fun _ q => XS.icmpNo X30.here hx rfl (hb hby at_113) rfl (teq (by rw [own_f1_spec]; first | (simp only [c18, c29, ↓reduceIte]; done) | (simp only [c18, c29, ↓reduceIte]; rfl))).2 q) ?_
      refine own_tp (.int (1 : Int32)) 117 (fun _ q => XS.iconst X30.here hx rfl (hb hby at_116) q) ?_
      refine own_d0 121 (fun _ q => XS.goto X30.here hx rfl (pc0 := 117) (pc' := 121) rfl (hb hby at_117) (by decide) (by decide) q) ?_
      exact own_retN (t := .boolean) X30 hx hrt (hb hby at_121) (by simp) hlk (by decide) (by decide) eq30 (⟨rfl, N30⟩)
    ·
      refine own_d2 79 (fun _ q => XS.icmpNo X17.here hx rfl (hb hby at_76) rfl (feq c29).1 q) ?_
      refine own_tp (.int (own_ed (p0 &&& (7 : Int32)))) 81 (fun _ q => XS.iload X17.here hx rfl (hb hby at_79) rfl q) ?_
      refine own_tp (.int (10 : Int32)) 83 (fun _ q => XS.bipush X17.here hx rfl (hb hby at_81) q) ?_
      by_cases c31 : (own_ed (p0 &&& (7 : Int32))) = (10 : Int32)
      ·
        refine own_d2 100 (fun _ q => XS.icmpYes X17.here hx rfl (pc0 := 83) (pc' := 100) rfl (hb hby at_83) rfl (teq c31).1 (by decide) (by decide) q) ?_
        refine own_tp (.int (1 : Int32)) 101 (fun _ q => XS.iconst X17.here hx rfl (hb hby at_100) q) ?_
        refine own_d0 105 (fun _ q => XS.goto X17.here hx rfl (pc0 := 101) (pc' := 105) rfl (hb hby at_101) (by decide) (by decide) q) ?_
        refine own_ls #[.val (.int p0), .val (.int p1), .val (.ref b1), .val (.int (own_ed (p0 &&& (7 : Int32)))), .val (.int (own_ed (p0 &&& (7 : Int32)))), .val (.int (1 : Int32))] 107 (fun _ q => XS.istore X17.here hx rfl (hb hby at_105) rfl (l' := #[.val (.int p0), .val (.int p1), .val (.ref b1), .val (.int (own_ed (p0 &&& (7 : Int32)))), .val (.int (own_ed (p0 &&& (7 : Int32)))), .val (.int (1 : Int32))]) rfl q) ?_
        refine own_tp (.int (own_ed (p0 &&& (7 : Int32)))) 108 (fun _ q => XS.iloadN X17.here hx rfl (hb hby at_107) rfl q) ?_
        obtain ⟨_, _, ⟨T32, L32, k32, n32⟩, -, X32, ⟨Lc32, hQ32, l32, y32, z32⟩, st32⟩ := Jvm.LawKit.callS X17 hx (y := (⟨"com/example/unit_step/unitstep/DecimalNumeral", "isBlank", "(C)Z"⟩ : MethodName)) hown (mvT hZ (hw _ (List.mem_of_getElem? (i := 1) rfl))) (mvT hZ (hw _ (List.mem_of_getElem? (i := 2) rfl))) (mvT hZ (hw _ (List.mem_of_getElem? (i := 3) rfl))) (mvT hZ (hw _ (List.mem_of_getElem? (i := 4) rfl))) (by decide) (backOf (W := 0) (rm1 l Z a0 hw [] (own_ed (p0 &&& (7 : Int32))) h17 n0 ) hZ (hw _ (List.mem_of_getElem? (i := 4) rfl)) (hw _ (List.mem_of_getElem? (i := 3) rfl)) (by decide) (by decide)) (g := (mkF m 108 #[.val (.int p0), .val (.int p1), .val (.ref b1), .val (.int (own_ed (p0 &&& (7 : Int32)))), .val (.int (own_ed (p0 &&& (7 : Int32)))), .val (.int (1 : Int32))] [(.int (own_ed (p0 &&& (7 : Int32))))])) rfl (by rw [hml]; rfl) (argsL := [(.int (own_ed (p0 &&& (7 : Int32))))]) (rest := []) (lenOf pd0_0 rfl) rfl (by show 2 * 0 + _ ≤ _; exact Nat.le_of_eq rfl) (hb hby at_108) (fun _ _ => ⟨rfl, e17, (by decide : 1 + 0 ≤ _), (by decide : 8 + 0 ≤ _)⟩)
        dsimp only [Pt.U, Pt.locs, Pt.cells, Pt.slots] at X32 l32 y32 z32 st32 hQ32
        subst l32 y32 z32
        obtain ⟨rfl, Nq32, eq32⟩ := hQ32
        have N32 := Fr.app N17 Nq32
        refine own_t1 (.int (own_f1 (own_ed (p0 &&& (7 : Int32))))) 111 st32 ?_
        refine own_tp (.int (1 : Int32)) 113 (fun _ q => XS.iload X32.here hx rfl (hb hby at_111) rfl q) ?_
        refine own_d2 116 (fun _ q => XS.icmpNo X32.here hx rfl (hb hby at_113) rfl (teq (by rw [own_f1_spec]; first | (simp only [c18, c29, c31, ↓reduceIte]; done) | (simp only [c18, c29, c31, ↓reduceIte]; rfl))).2 q) ?_
        refine own_tp (.int (1 : Int32)) 117 (fun _ q => XS.iconst X32.here hx rfl (hb hby at_116) q) ?_
        refine own_d0 121 (fun _ q => XS.goto X32.here hx rfl (pc0 := 117) (pc' := 121) rfl (hb hby at_117) (by decide) (by decide) q) ?_
        exact own_retN (t := .boolean) X32 hx hrt (hb hby at_121) (by simp) hlk (by decide) (by decide) eq32 (⟨rfl, N32⟩)
      ·
        refine own_d2 86 (fun _ q => XS.icmpNo X17.here hx rfl (hb hby at_83) rfl (feq c31).1 q) ?_
        refine own_tp (.int (own_ed (p0 &&& (7 : Int32)))) 88 (fun _ q => XS.iload X17.here hx rfl (hb hby at_86) rfl q) ?_
        refine own_tp (.int (13 : Int32)) 90 (fun _ q => XS.bipush X17.here hx rfl (hb hby at_88) q) ?_
        by_cases c33 : (own_ed (p0 &&& (7 : Int32))) = (13 : Int32)
        ·
          refine own_d2 100 (fun _ q => XS.icmpYes X17.here hx rfl (pc0 := 90) (pc' := 100) rfl (hb hby at_90) rfl (teq c33).1 (by decide) (by decide) q) ?_
          refine own_tp (.int (1 : Int32)) 101 (fun _ q => XS.iconst X17.here hx rfl (hb hby at_100) q) ?_
          refine own_d0 105 (fun _ q => XS.goto X17.here hx rfl (pc0 := 101) (pc' := 105) rfl (hb hby at_101) (by decide) (by decide) q) ?_
          refine own_ls #[.val (.int p0), .val (.int p1), .val (.ref b1), .val (.int (own_ed (p0 &&& (7 : Int32)))), .val (.int (own_ed (p0 &&& (7 : Int32)))), .val (.int (1 : Int32))] 107 (fun _ q => XS.istore X17.here hx rfl (hb hby at_105) rfl (l' := #[.val (.int p0), .val (.int p1), .val (.ref b1), .val (.int (own_ed (p0 &&& (7 : Int32)))), .val (.int (own_ed (p0 &&& (7 : Int32)))), .val (.int (1 : Int32))]) rfl q) ?_
          refine own_tp (.int (own_ed (p0 &&& (7 : Int32)))) 108 (fun _ q => XS.iloadN X17.here hx rfl (hb hby at_107) rfl q) ?_
          obtain ⟨_, _, ⟨T34, L34, k34, n34⟩, -, X34, ⟨Lc34, hQ34, l34, y34, z34⟩, st34⟩ := Jvm.LawKit.callS X17 hx (y := (⟨"com/example/unit_step/unitstep/DecimalNumeral", "isBlank", "(C)Z"⟩ : MethodName)) hown (mvT hZ (hw _ (List.mem_of_getElem? (i := 1) rfl))) (mvT hZ (hw _ (List.mem_of_getElem? (i := 2) rfl))) (mvT hZ (hw _ (List.mem_of_getElem? (i := 3) rfl))) (mvT hZ (hw _ (List.mem_of_getElem? (i := 4) rfl))) (by decide) (backOf (W := 0) (rm1 l Z a0 hw [] (own_ed (p0 &&& (7 : Int32))) h17 n0 ) hZ (hw _ (List.mem_of_getElem? (i := 4) rfl)) (hw _ (List.mem_of_getElem? (i := 3) rfl)) (by decide) (by decide)) (g := (mkF m 108 #[.val (.int p0), .val (.int p1), .val (.ref b1), .val (.int (own_ed (p0 &&& (7 : Int32)))), .val (.int (own_ed (p0 &&& (7 : Int32)))), .val (.int (1 : Int32))] [(.int (own_ed (p0 &&& (7 : Int32))))])) rfl (by rw [hml]; rfl) (argsL := [(.int (own_ed (p0 &&& (7 : Int32))))]) (rest := []) (lenOf pd0_0 rfl) rfl (by show 2 * 0 + _ ≤ _; exact Nat.le_of_eq rfl) (hb hby at_108) (fun _ _ => ⟨rfl, e17, (by decide : 1 + 0 ≤ _), (by decide : 8 + 0 ≤ _)⟩)
          dsimp only [Pt.U, Pt.locs, Pt.cells, Pt.slots] at X34 l34 y34 z34 st34 hQ34
          subst l34 y34 z34
          obtain ⟨rfl, Nq34, eq34⟩ := hQ34
          have N34 := Fr.app N17 Nq34
          refine own_t1 (.int (own_f1 (own_ed (p0 &&& (7 : Int32))))) 111 st34 ?_
          refine own_tp (.int (1 : Int32)) 113 (fun _ q => XS.iload X34.here hx rfl (hb hby at_111) rfl q) ?_
          refine own_d2 116 (fun _ q => XS.icmpNo X34.here hx rfl (hb hby at_113) rfl (teq (by rw [own_f1_spec]; first | (simp only [c18, c29, c31, c33, ↓reduceIte]; done) | (simp only [c18, c29, c31, c33, ↓reduceIte]; rfl))).2 q) ?_
          refine own_tp (.int (1 : Int32)) 117 (fun _ q => XS.iconst X34.here hx rfl (hb hby at_116) q) ?_
          refine own_d0 121 (fun _ q => XS.goto X34.here hx rfl (pc0 := 117) (pc' := 121) rfl (hb hby at_117) (by decide) (by decide) q) ?_
          exact own_retN (t := .boolean) X34 hx hrt (hb hby at_121) (by simp) hlk (by decide) (by decide) eq34 (⟨rfl, N34⟩)
        ·
          refine own_d2 93 (fun _ q => XS.icmpNo X17.here hx rfl (hb hby at_90) rfl (feq c33).1 q) ?_
          refine own_tp (.int (own_ed (p0 &&& (7 : Int32)))) 95 (fun _ q => XS.iload X17.here hx rfl (hb hby at_93) rfl q) ?_
          refine own_tp (.int (32 : Int32)) 97 (fun _ q => XS.bipush X17.here hx rfl (hb hby at_95) q) ?_
          by_cases c35 : (own_ed (p0 &&& (7 : Int32))) = (32 : Int32)
          ·
            refine own_d2 100 (fun _ q => XS.icmpNo X17.here hx rfl (hb hby at_97) rfl (teq c35).2 q) ?_
            refine own_tp (.int (1 : Int32)) 101 (fun _ q => XS.iconst X17.here hx rfl (hb hby at_100) q) ?_
            refine own_d0 105 (fun _ q => XS.goto X17.here hx rfl (pc0 := 101) (pc' := 105) rfl (hb hby at_101) (by decide) (by decide) q) ?_
            refine own_ls #[.val (.int p0), .val (.int p1), .val (.ref b1), .val (.int (own_ed (p0 &&& (7 : Int32)))), .val (.int (own_ed (p0 &&& (7 : Int32)))), .val (.int (1 : Int32))] 107 (fun _ q => XS.istore X17.here hx rfl (hb hby at_105) rfl (l' := #[.val (.int p0), .val (.int p1), .val (.ref b1), .val (.int (own_ed (p0 &&& (7 : Int32)))), .val (.int (own_ed (p0 &&& (7 : Int32)))), .val (.int (1 : Int32))]) rfl q) ?_
            refine own_tp (.int (own_ed (p0 &&& (7 : Int32)))) 108 (fun _ q => XS.iloadN X17.here hx rfl (hb hby at_107) rfl q) ?_
            obtain ⟨_, _, ⟨T36, L36, k36, n36⟩, -, X36, ⟨Lc36, hQ36, l36, y36, z36⟩, st36⟩ := Jvm.LawKit.callS X17 hx (y := (⟨"com/example/unit_step/unitstep/DecimalNumeral", "isBlank", "(C)Z"⟩ : MethodName)) hown (mvT hZ (hw _ (List.mem_of_getElem? (i := 1) rfl))) (mvT hZ (hw _ (List.mem_of_getElem? (i := 2) rfl))) (mvT hZ (hw _ (List.mem_of_getElem? (i := 3) rfl))) (mvT hZ (hw _ (List.mem_of_getElem? (i := 4) rfl))) (by decide) (backOf (W := 0) (rm1 l Z a0 hw [] (own_ed (p0 &&& (7 : Int32))) h17 n0 ) hZ (hw _ (List.mem_of_getElem? (i := 4) rfl)) (hw _ (List.mem_of_getElem? (i := 3) rfl)) (by decide) (by decide)) (g := (mkF m 108 #[.val (.int p0), .val (.int p1), .val (.ref b1), .val (.int (own_ed (p0 &&& (7 : Int32)))), .val (.int (own_ed (p0 &&& (7 : Int32)))), .val (.int (1 : Int32))] [(.int (own_ed (p0 &&& (7 : Int32))))])) rfl (by rw [hml]; rfl) (argsL := [(.int (own_ed (p0 &&& (7 : Int32))))]) (rest := []) (lenOf pd0_0 rfl) rfl (by show 2 * 0 + _ ≤ _; exact Nat.le_of_eq rfl) (hb hby at_108) (fun _ _ => ⟨rfl, e17, (by decide : 1 + 0 ≤ _), (by decide : 8 + 0 ≤ _)⟩)
            dsimp only [Pt.U, Pt.locs, Pt.cells, Pt.slots] at X36 l36 y36 z36 st36 hQ36
            subst l36 y36 z36
            obtain ⟨rfl, Nq36, eq36⟩ := hQ36
            have N36 := Fr.app N17 Nq36
            refine own_t1 (.int (own_f1 (own_ed (p0 &&& (7 : Int32))))) 111 st36 ?_
            refine own_tp (.int (1 : Int32)) 113 (fun _ q => XS.iload X36.here hx rfl (hb hby at_111) rfl q) ?_
            refine own_d2 116 (fun _ q => XS.icmpNo X36.here hx rfl (hb hby at_113) rfl (teq (by rw [own_f1_spec]; first | (simp only [c18, c29, c31, c33, c35, ↓reduceIte]; done) | (simp only [c18, c29, c31, c33, c35, ↓reduceIte]; rfl))).2 q) ?_
            refine own_tp (.int (1 : Int32)) 117 (fun _ q => XS.iconst X36.here hx rfl (hb hby at_116) q) ?_
            refine own_d0 121 (fun _ q => XS.goto X36.here hx rfl (pc0 := 117) (pc' := 121) rfl (hb hby at_117) (by decide) (by decide) q) ?_
            exact own_retN (t := .boolean) X36 hx hrt (hb hby at_121) (by simp) hlk (by decide) (by decide) eq36 (⟨rfl, N36⟩)
          ·
            refine own_d2 104 (fun _ q => XS.icmpYes X17.here hx rfl (pc0 := 97) (pc' := 104) rfl (hb hby at_97) rfl (feq c35).2 (by decide) (by decide) q) ?_
            refine own_tp (.int (0 : Int32)) 105 (fun _ q => XS.iconst X17.here hx rfl (hb hby at_104) q) ?_
            refine own_ls #[.val (.int p0), .val (.int p1), .val (.ref b1), .val (.int (own_ed (p0 &&& (7 : Int32)))), .val (.int (own_ed (p0 &&& (7 : Int32)))), .val (.int (0 : Int32))] 107 (fun _ q => XS.istore X17.here hx rfl (hb hby at_105) rfl (l' := #[.val (.int p0), .val (.int p1), .val (.ref b1), .val (.int (own_ed (p0 &&& (7 : Int32)))), .val (.int (own_ed (p0 &&& (7 : Int32)))), .val (.int (0 : Int32))]) rfl q) ?_
            refine own_tp (.int (own_ed (p0 &&& (7 : Int32)))) 108 (fun _ q => XS.iloadN X17.here hx rfl (hb hby at_107) rfl q) ?_
            obtain ⟨_, _, ⟨T37, L37, k37, n37⟩, -, X37, ⟨Lc37, hQ37, l37, y37, z37⟩, st37⟩ := Jvm.LawKit.callS X17 hx (y := (⟨"com/example/unit_step/unitstep/DecimalNumeral", "isBlank", "(C)Z"⟩ : MethodName)) hown (mvT hZ (hw _ (List.mem_of_getElem? (i := 1) rfl))) (mvT hZ (hw _ (List.mem_of_getElem? (i := 2) rfl))) (mvT hZ (hw _ (List.mem_of_getElem? (i := 3) rfl))) (mvT hZ (hw _ (List.mem_of_getElem? (i := 4) rfl))) (by decide) (backOf (W := 0) (rm1 l Z a0 hw [] (own_ed (p0 &&& (7 : Int32))) h17 n0 ) hZ (hw _ (List.mem_of_getElem? (i := 4) rfl)) (hw _ (List.mem_of_getElem? (i := 3) rfl)) (by decide) (by decide)) (g := (mkF m 108 #[.val (.int p0), .val (.int p1), .val (.ref b1), .val (.int (own_ed (p0 &&& (7 : Int32)))), .val (.int (own_ed (p0 &&& (7 : Int32)))), .val (.int (0 : Int32))] [(.int (own_ed (p0 &&& (7 : Int32))))])) rfl (by rw [hml]; rfl) (argsL := [(.int (own_ed (p0 &&& (7 : Int32))))]) (rest := []) (lenOf pd0_0 rfl) rfl (by show 2 * 0 + _ ≤ _; exact Nat.le_of_eq rfl) (hb hby at_108) (fun _ _ => ⟨rfl, e17, (by decide : 1 + 0 ≤ _), (by decide : 8 + 0 ≤ _)⟩)
            dsimp only [Pt.U, Pt.locs, Pt.cells, Pt.slots] at X37 l37 y37 z37 st37 hQ37
            subst l37 y37 z37
            obtain ⟨rfl, Nq37, eq37⟩ := hQ37
            have N37 := Fr.app N17 Nq37
            refine own_t1 (.int (own_f1 (own_ed (p0 &&& (7 : Int32))))) 111 st37 ?_
            refine own_tp (.int (0 : Int32)) 113 (fun _ q => XS.iload X37.here hx rfl (hb hby at_111) rfl q) ?_
            refine own_d2 116 (fun _ q => XS.icmpNo X37.here hx rfl (hb hby at_113) rfl (teq (by rw [own_f1_spec]; first | (simp only [c18, c29, c31, c33, c35, ↓reduceIte]; done) | (simp only [c18, c29, c31, c33, c35, ↓reduceIte]; rfl))).2 q) ?_
            refine own_tp (.int (1 : Int32)) 117 (fun _ q => XS.iconst X37.here hx rfl (hb hby at_116) q) ?_
            refine own_d0 121 (fun _ q => XS.goto X37.here hx rfl (pc0 := 117) (pc' := 121) rfl (hb hby at_117) (by decide) (by decide) q) ?_
            exact own_retN (t := .boolean) X37 hx hrt (hb hby at_121) (by simp) hlk (by decide) (by decide) eq37 (⟨rfl, N37⟩)

set_option maxRecDepth 65536 in
set_option maxHeartbeats 40000000 in
theorem comes_1 {Post : Tables → Env → Array Value → State → Outcome → State → Prop} (hpost : ∀ tb e args s v u, (limb_1_1.after args s (.returned v) u = true ∧ limb_1_2.after args s (.returned v) u = true ∧ True) → FrameEnd s (.returned v) u (Jvm.fieldLocs frame_1_writes args s ++ Jvm.arrayLocs frame_1_arrays args s ++ Jvm.staticLocs frame_1_statics s) 16 128 → Post tb e args s (.returned v) u) :
    ArmFor flags0 classFile x code maxLocals ret World_1 tables_1 room_1 Calls_1 rest_1 Pre_1 Post := by
  intro l hfl _ _ p e ha hc hk s m args below hf hA hF happ hP
  obtain ⟨hcalls, hrest, hpre⟩ := hP
  obtain ⟨-, -, -, hnamed, -, -, -, hat⟩ := (Spec.applies_iff hf).mp happ
  obtain ⟨hg, hn⟩ := and_e (Cond.before_iff.mp (show (Jvm.Cond.and given_1 narrow_1).before args s = true from hpre))
  obtain ⟨hcount, hg0⟩ := and_e hg
  obtain ⟨hv0, hg1⟩ := and_e hg0
  obtain ⟨w0, w1, rfl⟩ : ∃ w0 w1 : Value, args = #[w0, w1] := by
    have hs : args.size = 2 := by simpa [Cond.value, given_1] using hcount
    obtain ⟨L⟩ := args
    match L, hs with
    | [w0, w1], _ => exact ⟨w0, w1, rfl⟩
  have hw := fun d (hd : d ∈ tables_1) => atoms_spec (ws := Jvm.Cond.code x code maxLocals ret :: tables_1) hat d (List.mem_cons_of_mem _ hd)
  have hfit : Fit s := fun {y c} hc i hi => by
    obtain ⟨ha, rfl⟩ := Array.getElem?_eq_some_iff.mp hc
    have q := List.all_eq_true.mp ((Array.all_eq_true_iff_forall_mem.mp hF) _ (Array.getElem_mem ha)) i (List.mem_range.mpr hi)
    simpa [Array.getElem?_eq_getElem hi] using q
  obtain ⟨i0, ei0⟩ := is_v hv0
  obtain rfl : w0 = (.int i0) := Option.some.inj ei0
  obtain ⟨i1, ei1⟩ := is_v hg1
  obtain rfl : w1 = (.int i1) := Option.some.inj ei1
  obtain ⟨n, o, h1, h2, h3, _, L, rfl, ⟨rfl, N⟩, hq⟩ := rm0 l s _ hw tables_1 i0 i1 s.heap s.heap.size (Nat.le_refl _) p e ha hc hk s m _ below hf ((Spec.applies_iff_loose hf).mp happ).1 ⟨rfl, State.Warmed39.refl s, rfl⟩ trivial
  refine ⟨n, _, h1, h2, h3, hpost _ _ _ _ _ _ ⟨Cond.after_iff.mpr rfl, Cond.after_iff.mpr (eq_i res_at (Term.int_eval (1)) rfl), trivial⟩ ⟨hq.1, hq.2.1, (hq.2.2.sift fun y hy => Or.inr (N y hy)).mono (by decide) (by decide)⟩⟩
theorem main_1_1 : Claimed_1_1 := comes_1 fun _ _ _ _ _ _ h hF => ⟨h.1, hF⟩
theorem main_1_2 : Claimed_1_2 := comes_1 fun _ _ _ _ _ _ h hF => ⟨h.2.1, hF⟩
end Jvm.Pilot.@@N@@
namespace Jvm.Pilot.@@N@@
open Jvm Jvm.ClassFile Sem Op Lib Jvm.Free Jvm.Stand Jvm.Pilot.@@N@@.Jvm.D
/-! MADE BY PROGRAM (witnessworld.py) out of the Statement's table words and the real class files: 11 classes; the members and pool entries that the words name. The judged class is class 1, her method 1. -/
namespace start1
open Jvm.ClassFile
def u (s : String) : CpInfo := .utf8 (stringToUtf16 s)
/-- a pool by its gaps: so many unusable entries, then the entry; so many at the end -/
def gap : Nat → List CpInfo → List CpInfo
  | 0, r => r
  | n + 1, r => .unusable :: gap n r
def poolList (es : List (Nat × CpInfo)) (last : Nat) : List CpInfo := es.foldr (fun e r => gap e.1 (e.2 :: r)) (gap last [])
def pool (es : List (Nat × CpInfo)) (last : Nat) : Array CpInfo := ⟨poolList es last⟩
def fileOf (pool : Array CpInfo) (this : Nat) (attrs : Array Attribute := #[]) (ms : Array MethodInfo := #[]) (fl : Nat := 33) (sup : Nat := 0) (ifs : Array Nat := #[]) (fds : Array FieldInfo := #[]) : ClassFile where
  minorVersion := 0
  majorVersion := 65
  constantPool := pool
  accessFlags := fl
  thisClass := this
  superClass := sup
  interfaces := ifs
  fields := fds
  methods := ms
  attributes := attrs
def plain (name : String) (sup : Option ClassId) : Class where
  name := name
  kind := .ordinary
  loader := none
  accessFlags := 33
  super := sup
  interfaces := #[]
  cf := none
  fields := #[]
  methods := #[]
  instanceTypes := #[]
  staticTypes := #[]
  resolved := #[]
  callSites := []
  init := .initialized
  statics := none
  mirror := none

def pool0 : Array CpInfo := pool [(5, u "<init>"), (0, u "()V"), (1, .class_ 10), (1, u "java/lang/Object")] 113

def k0m0 : Method := { name := "<init>", desc := "()V", sig := { parameters := [], returnType := none }, accessFlags := 1, code := none }
/-- java/lang/Object -/
def k0 : Class := { plain "java/lang/Object" none with
  accessFlags := 33
  interfaces := #[]
  cf := some (fileOf pool0 8 #[] #[{ accessFlags := 1, nameIndex := 5, descriptorIndex := 6, attributes := #[] }] 33 0 #[] #[])
  fields := #[]
  methods := #[k0m0]
  instanceTypes := #[]
  staticTypes := #[]
  resolved := Array.replicate 124 none
  statics := none }

def pool1 : Array CpInfo := pool [(2, .class_ 4), (1, u "java/lang/Object"), (0, u "<init>"), (0, u "()V"), (0, .integer 65535), (0, .methodref 9 10), (0, .class_ 11), (0, .nameAndType 12 13), (0, u "com/example/unit_step/unitstep/DecimalNumeral"), (0, u "isBlank"), (0, u "(C)Z"), (0, .class_ 15), (0, u "com/example/unit_step/unitstep/DecimalNumeralIsBlankPinLaw"), (2, u "law"), (0, u "(II)Z")] 5

def k1m0 : Method := { name := "<init>", desc := "()V", sig := { parameters := [], returnType := none }, accessFlags := 1, code := none }
def k1c1 : Code := { maxStack := 4, maxLocals := 6, code := code, exceptionTable := #[], attributes := #[] }
def k1m1 : Method := { name := "law", desc := "(II)Z", sig := { parameters := [.int, .int], returnType := some .boolean }, accessFlags := 9, code := some k1c1 }
/-- com/example/unit_step/unitstep/DecimalNumeralIsBlankPinLaw -/
def k1 : Class := { plain "com/example/unit_step/unitstep/DecimalNumeralIsBlankPinLaw" (some 0) with
  accessFlags := 49
  interfaces := #[]
  cf := some (fileOf pool1 14 #[] #[{ accessFlags := 1, nameIndex := 5, descriptorIndex := 6, attributes := #[] }, { accessFlags := 9, nameIndex := 18, descriptorIndex := 19, attributes := #[] }] 49 2 #[] #[])
  fields := #[]
  methods := #[k1m0, k1m1]
  instanceTypes := #[]
  staticTypes := #[]
  resolved := Array.replicate 25 none
  statics := none }

def pool2 : Array CpInfo := pool [(1, .class_ 2), (0, u "com/example/unit_step/unitstep/DecimalNumeral"), (1, .class_ 6), (1, u "java/lang/Object"), (6, u "highDigits"), (0, u "J"), (2, u "form"), (0, u "Ljava/lang/String;"), (2, u "lexical"), (2, u "typeName"), (2, u "negative"), (0, u "Z"), (2, u "digitsBegin"), (0, u "I"), (2, u "point"), (2, u "end"), (2, u "allDigits"), (6, u "last"), (8, u "first"), (11, u "isBlank"), (0, u "(C)Z"), (120, u "MAX_SIGNIFICANT_DIGITS"), (1, u "LONG_DIGITS"), (1, u "LIMB"), (0, u "SHORT_DIGITS")] 33

def k2c0 : Code := { maxStack := 2, maxLocals := 1, code := prog_7_method_25_code, exceptionTable := #[], attributes := #[] }
def k2m0 : Method := { name := "isBlank", desc := "(C)Z", sig := { parameters := [.char], returnType := some .boolean }, accessFlags := 8, code := some k2c0 }
/-- com/example/unit_step/unitstep/DecimalNumeral -/
def k2 : Class := { plain "com/example/unit_step/unitstep/DecimalNumeral" (some 0) with
  accessFlags := 48
  interfaces := #[]
  cf := some (fileOf pool2 1 #[] #[{ accessFlags := 8, nameIndex := 69, descriptorIndex := 70, attributes := #[] }] 48 4 #[] #[{ accessFlags := 26, nameIndex := 191, descriptorIndex := 32, attributes := #[] }, { accessFlags := 24, nameIndex := 193, descriptorIndex := 32, attributes := #[] }, { accessFlags := 24, nameIndex := 195, descriptorIndex := 14, attributes := #[] }, { accessFlags := 24, nameIndex := 196, descriptorIndex := 32, attributes := #[] }, { accessFlags := 18, nameIndex := 17, descriptorIndex := 18, attributes := #[] }, { accessFlags := 18, nameIndex := 21, descriptorIndex := 18, attributes := #[] }, { accessFlags := 18, nameIndex := 24, descriptorIndex := 18, attributes := #[] }, { accessFlags := 18, nameIndex := 27, descriptorIndex := 28, attributes := #[] }, { accessFlags := 18, nameIndex := 31, descriptorIndex := 32, attributes := #[] }, { accessFlags := 18, nameIndex := 35, descriptorIndex := 32, attributes := #[] }, { accessFlags := 18, nameIndex := 38, descriptorIndex := 32, attributes := #[] }, { accessFlags := 18, nameIndex := 48, descriptorIndex := 32, attributes := #[] }, { accessFlags := 18, nameIndex := 57, descriptorIndex := 32, attributes := #[] }, { accessFlags := 18, nameIndex := 41, descriptorIndex := 14, attributes := #[] }, { accessFlags := 2, nameIndex := 13, descriptorIndex := 14, attributes := #[] }])
  fields := #[{ name := "MAX_SIGNIFICANT_DIGITS", type := .int, accessFlags := 26, slot := 0, constantValue := 0 }, { name := "LONG_DIGITS", type := .int, accessFlags := 24, slot := 1, constantValue := 0 }, { name := "LIMB", type := .long, accessFlags := 24, slot := 2, constantValue := 0 }, { name := "SHORT_DIGITS", type := .int, accessFlags := 24, slot := 3, constantValue := 0 }, { name := "form", type := (.object "java/lang/String"), accessFlags := 18, slot := 0, constantValue := 0 }, { name := "lexical", type := (.object "java/lang/String"), accessFlags := 18, slot := 1, constantValue := 0 }, { name := "typeName", type := (.object "java/lang/String"), accessFlags := 18, slot := 2, constantValue := 0 }, { name := "negative", type := .boolean, accessFlags := 18, slot := 3, constantValue := 0 }, { name := "digitsBegin", type := .int, accessFlags := 18, slot := 4, constantValue := 0 }, { name := "point", type := .int, accessFlags := 18, slot := 5, constantValue := 0 }, { name := "end", type := .int, accessFlags := 18, slot := 6, constantValue := 0 }, { name := "last", type := .int, accessFlags := 18, slot := 7, constantValue := 0 }, { name := "first", type := .int, accessFlags := 18, slot := 8, constantValue := 0 }, { name := "allDigits", type := .long, accessFlags := 18, slot := 9, constantValue := 0 }, { name := "highDigits", type := .long, accessFlags := 2, slot := 10, constantValue := 0 }]
  methods := #[k2m0]
  instanceTypes := #[(.object "java/lang/String"), (.object "java/lang/String"), (.object "java/lang/String"), .boolean, .int, .int, .int, .int, .int, .long, .long]
  staticTypes := #[.int, .int, .long, .int]
  resolved := Array.replicate 230 none
  statics := none }

def pool3 : Array CpInfo := pool [(1, u "java/lang/Cloneable"), (0, .class_ 1), (0, u "java/lang/Object"), (0, .class_ 3)] 3

/-- java/lang/Cloneable -/
def k3 : Class := { plain "java/lang/Cloneable" (some 0) with
  accessFlags := 1537
  interfaces := #[]
  cf := some (fileOf pool3 2 #[] #[] 1537 4 #[] #[])
  fields := #[]
  methods := #[]
  instanceTypes := #[]
  staticTypes := #[]
  resolved := Array.replicate 8 none
  statics := none }

def pool4 : Array CpInfo := pool [(1, u "java/io/Serializable"), (0, .class_ 1), (0, u "java/lang/Object"), (0, .class_ 3)] 3

/-- java/io/Serializable -/
def k4 : Class := { plain "java/io/Serializable" (some 0) with
  accessFlags := 1537
  interfaces := #[]
  cf := some (fileOf pool4 2 #[] #[] 1537 4 #[] #[])
  fields := #[]
  methods := #[]
  instanceTypes := #[]
  staticTypes := #[]
  resolved := Array.replicate 8 none
  statics := none }

/-- the primitive byte -/
def k5 : Class := { plain "byte" none with kind := .primitive 'B', accessFlags := 0x411 }
/-- [B -/
def k6 : Class := { plain "[B" (some 0) with kind := .array 5 .byte, interfaces := #[3, 4], accessFlags := 1041 }

/-- the primitive char -/
def k7 : Class := { plain "char" none with kind := .primitive 'C', accessFlags := 0x411 }
/-- [C -/
def k8 : Class := { plain "[C" (some 0) with kind := .array 7 .char, interfaces := #[3, 4], accessFlags := 1041 }

/-- the primitive int -/
def k9 : Class := { plain "int" none with kind := .primitive 'I', accessFlags := 0x411 }
/-- [I -/
def k10 : Class := { plain "[I" (some 0) with kind := .array 9 .int, interfaces := #[3, 4], accessFlags := 1041 }

def heap : Heap := #[]
def classes : Array Class := #[k0, k1, k2, k3, k4, k5, k6, k7, k8, k9, k10]
def interned : List (Array UInt16 × Addr) := []
def slotsUsed : Nat := 0
def theMethod : MethodId := ⟨1, 1⟩
def args0 : Array Value := #[.int 5, .int 7]
def aboutOver (below : List Frame) : State where
  vm := { classes := classes, interned := interned.toArray }
  heap := heap
  slotsUsed := slotsUsed
  threads := #[{ frames := .invoking theMethod args0 :: below }]
def below0 : List Frame := [.native { method := ⟨0, 0⟩, args := #[] }]
def about1 : State := aboutOver below0
def p0 : Program := .bare "" "" ""
def e0 : Env := launch0.env 0 0 0
theorem w_frames : about1.frames = Frame.invoking theMethod args0 :: below0 := rfl
set_option maxRecDepth 65536 in
theorem w_args : argsFit about1.vm theMethod args0 = true := by decide +kernel
set_option maxRecDepth 65536 in
theorem w_heap : heapFits about1 = true := by decide +kernel
set_option maxRecDepth 65536 in
theorem w_runnable : about1.curStatus? = some .runnable := by decide +kernel
set_option maxRecDepth 65536 in
theorem w_alone : about1.alone = true := by decide +kernel
set_option maxRecDepth 65536 in
theorem w_named : about1.methodNamed? x = some theMethod := by decide +kernel
set_option maxRecDepth 65536 in
theorem w_hears : about1.hears theMethod below0 = true := by decide +kernel
set_option maxRecDepth 65536 in
theorem w_ripe : about1.ripe theMethod args0 below0 = true := by decide +kernel
theorem w_running : about1.status = .running := rfl
set_option maxRecDepth 65536 in
theorem w_room : about1.hasRoom e0.platform room_1 = true :=
  launch0.hasRoom_least _ room_1 (by decide +kernel) (by decide +kernel) (by decide +kernel) (by decide +kernel) (by decide +kernel) (by decide +kernel)
theorem allAtoms_all (ts : List Jvm.Cond) (a : Array Jvm.Value) (st : Jvm.State) : (allAtoms ts).before a st = ts.all (fun c => c.before a st) := by
  induction ts with
  | nil => rfl
  | cons c t ih =>
    show (Jvm.Cond.and c (allAtoms t)).before a st = _
    rw [Jvm.Cond.before_and, ih, List.all_cons]
def words1 : List Jvm.Cond := Jvm.Cond.code x code maxLocals ret :: tables_1
/-- a 'code' word, met by the world's own term for the bytes: nothing is compared byte by byte -/
theorem code_word {y : MethodName} {bytes : ByteArray} {mx : Nat} {rt : Option FieldType} {a : Array Value} {s : State} {m : MethodId} {meth : Method} {c : Code} (h1 : s.methodNamed? y = some m) (h2 : s.vm.method? m = some meth) (h3 : meth.code = some c) (h4 : c.code = bytes)
    (h5 : (c.maxLocals == mx && c.exceptionTable.isEmpty && decide (c.maxStack ≤ mostOperands) && decide (meth.sig.returnType = rt) && !meth.locks && decide (parseMethodDescriptor y.desc = some meth.sig)) = true) : (Jvm.Cond.code y bytes mx rt).before a s = true := by
  simp only [Bool.and_eq_true, beq_iff_eq, Bool.not_eq_true', decide_eq_true_eq] at h5
  obtain ⟨⟨⟨⟨⟨g1, g2⟩, g3⟩, g4⟩, g5⟩, g6⟩ := h5
  simp [Cond.before, Cond.holds, Cond.value, h1, h2, h3, h4, g1, g2, g3, g4, g5, g6]
def isCode : Jvm.Cond → Bool
  | .code _ _ _ _ => true
  | _ => false
theorem all_split {L : List Jvm.Cond} {P : Jvm.Cond → Bool} (h1 : L.all (fun c => isCode c || P c) = true) (h2 : ∀ c ∈ L.filter isCode, P c = true) : L.all P = true := by
  refine List.all_eq_true.mpr fun c hc => ?_
  have h := List.all_eq_true.mp h1 c hc
  rcases Bool.eq_false_or_eq_true (isCode c) with hi | hi
  · exact h2 c (List.mem_filter.mpr ⟨hc, hi⟩)
  · simpa [hi] using h
set_option maxRecDepth 65536 in
theorem w_c0 : (Jvm.Cond.code x code maxLocals ret).before args0 about1 = true := code_word (m := ⟨1, 1⟩) (meth := k1m1) (c := k1c1) (by decide +kernel) rfl rfl rfl (by decide +kernel)
set_option maxRecDepth 65536 in
theorem w_c1 : (Jvm.Cond.code ({ cls := "com/example/unit_step/unitstep/DecimalNumeral", name := "isBlank", desc := "(C)Z" } : Jvm.MethodName) prog_7_method_25_code (1 : Nat) (Option.some Jvm.ClassFile.FieldType.boolean)).before args0 about1 = true := code_word (m := ⟨2, 0⟩) (meth := k2m0) (c := k2c0) (by decide +kernel) rfl rfl rfl (by decide +kernel)
def codes1 : List Jvm.Cond := [Jvm.Cond.code x code maxLocals ret, Jvm.Cond.code ({ cls := "com/example/unit_step/unitstep/DecimalNumeral", name := "isBlank", desc := "(C)Z" } : Jvm.MethodName) prog_7_method_25_code (1 : Nat) (Option.some Jvm.ClassFile.FieldType.boolean)]
set_option maxRecDepth 65536 in
theorem codes_eq : words1.filter isCode = codes1 := rfl
theorem w_codes : ∀ c ∈ words1.filter isCode, c.before args0 about1 = true := by
  rw [codes_eq]
  intro c hc
  simp only [codes1, List.mem_cons, List.not_mem_nil, or_false] at hc
  rcases hc with rfl | rfl
  · exact w_c0
  · exact w_c1
set_option maxRecDepth 65536 in
theorem w_t1 : words1.all (fun c => isCode c || c.before args0 about1) = true := by decide +kernel
theorem w_tables : (allAtoms (Jvm.Cond.code x code maxLocals ret :: tables_1)).before args0 about1 = true := by
  rw [allAtoms_all]
  show words1.all (fun c => c.before args0 about1) = true
  refine all_split ?_ w_codes
  rw [w_t1]
set_option maxRecDepth 65536 in
theorem w_case : (Jvm.Cond.and given_1 narrow_1).before args0 about1 = true := by decide +kernel
theorem w_applies : (headSpec (Jvm.Cond.code x code maxLocals ret :: tables_1) room_1).applies x e0.platform about1 = true :=
  (Spec.applies_iff w_frames).mpr ⟨w_running, w_runnable, w_alone, w_named, w_hears, w_ripe, w_room, w_tables⟩
theorem atStart : AtStart classFile x code maxLocals ret World_1 tables_1 room_1 Calls_1 rest_1 Pre_1 launch0 p0 e0 about1 theMethod args0 below0 :=
  ⟨lists_1, trivial, launch0.admits_env _ _ _, launch0.least_env, fairChoices_fair.cas, fairChoices_fair.clock, w_frames, w_args, w_heap, w_applies, trivial, trivial, w_case⟩
end start1
theorem witness_1 : WitnessClaimed_1 := ⟨start1.p0, start1.e0, start1.about1, start1.theMethod, start1.args0, start1.below0, start1.atStart⟩
end Jvm.Pilot.@@N@@
