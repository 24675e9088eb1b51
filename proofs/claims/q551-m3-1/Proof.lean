import JvmDerived
import JvmDerived.Pilot.@@N@@Statement
import JvmDerived.Pilot.@@N@@Code
set_option linter.unusedVariables false
set_option linter.unusedSimpArgs false
namespace Jvm.Pilot.@@N@@
open Jvm Jvm.ClassFile Sem Op Lib Jvm.Free Jvm.Stand Jvm.LawKit Jvm.RoadKit Bundle Jvm.Pilot.@@N@@.Jvm.D
/-! from A on the run returns, and F holds of the end -/
def own_Goes (p : Program) (e : Env) (below : List Frame) (F : State → Outcome → Prop) (A : State) : Prop := ∃ s₂ o, Steps p.tables e below A s₂ ∧ s₂.status = .running ∧ Ended s₂ below o ∧ F s₂ o
/-- the narrow end: Q of what it returned, of the heap and of the places written; the frame -/
def own_FN (s : State) (Q : Option Value → Heap → List Loc → Prop) (k n : Nat) : State → Outcome → Prop := fun s₂ o => ∃ v L, o = .returned v ∧ Q v s₂.heap L ∧ FrameEnd s o s₂ L k n
section OwnGoes
variable {p : Program} {l : Launch} {e : Env} {R : Room} {s : State} {m : MethodId} {args : Array Value} {below : List Frame} {meth : Method} {c : Code} {T : State} {locs : List Loc} {cells slots : Nat} {Q : Option Value → Heap → List Loc → Prop} {k n : Nat} {F : State → Outcome → Prop}
theorem own_to {A B : State} (h : ∀ t, Steps p.tables e below B t → Steps p.tables e below A t) (g : own_Goes p e below F B) : own_Goes p e below F A := by
  obtain ⟨s₂, o, h1, r⟩ := g
  exact ⟨s₂, o, h _ h1, r⟩
theorem own_tr {A B : State} (h : Steps p.tables e below A B) (g : own_Goes p e below F B) : own_Goes p e below F A := own_to (fun t q => h.trans q) g
/-! the shapes of a step: what lies on the stack and in the locals behind it -/
theorem own_tp {T' : State} {pc : Nat} {L : Array Slot} {S : List Value} (w : Value) (pc' : Nat) (h : ∀ t, Steps p.tables e below (T'.setTop (mkF m pc' L (w :: S))) t → Steps p.tables e below (T.setTop (mkF m pc L S)) t) (g : own_Goes p e below F (T'.setTop (mkF m pc' L (w :: S)))) : own_Goes p e below F (T.setTop (mkF m pc L S)) := own_to h g
theorem own_t1 {T' : State} {pc : Nat} {L : Array Slot} {S : List Value} {x : Value} (w : Value) (pc' : Nat) (h : ∀ t, Steps p.tables e below (T'.setTop (mkF m pc' L (w :: S))) t → Steps p.tables e below (T.setTop (mkF m pc L (x :: S))) t) (g : own_Goes p e below F (T'.setTop (mkF m pc' L (w :: S)))) : own_Goes p e below F (T.setTop (mkF m pc L (x :: S))) := own_to h g
theorem own_t2 {T' : State} {pc : Nat} {L : Array Slot} {S : List Value} {x y : Value} (w : Value) (pc' : Nat) (h : ∀ t, Steps p.tables e below (T'.setTop (mkF m pc' L (w :: S))) t → Steps p.tables e below (T.setTop (mkF m pc L (x :: y :: S))) t) (g : own_Goes p e below F (T'.setTop (mkF m pc' L (w :: S)))) : own_Goes p e below F (T.setTop (mkF m pc L (x :: y :: S))) := own_to h g
theorem own_d0 {T' : State} {pc : Nat} {L : Array Slot} {S : List Value} (pc' : Nat) (h : ∀ t, Steps p.tables e below (T'.setTop (mkF m pc' L S)) t → Steps p.tables e below (T.setTop (mkF m pc L S)) t) (g : own_Goes p e below F (T'.setTop (mkF m pc' L S))) : own_Goes p e below F (T.setTop (mkF m pc L S)) := own_to h g
theorem own_d1 {T' : State} {pc : Nat} {L : Array Slot} {S : List Value} {x : Value} (pc' : Nat) (h : ∀ t, Steps p.tables e below (T'.setTop (mkF m pc' L S)) t → Steps p.tables e below (T.setTop (mkF m pc L (x :: S))) t) (g : own_Goes p e below F (T'.setTop (mkF m pc' L S))) : own_Goes p e below F (T.setTop (mkF m pc L (x :: S))) := own_to h g
theorem own_d2 {T' : State} {pc : Nat} {L : Array Slot} {S : List Value} {x y : Value} (pc' : Nat) (h : ∀ t, Steps p.tables e below (T'.setTop (mkF m pc' L S)) t → Steps p.tables e below (T.setTop (mkF m pc L (x :: y :: S))) t) (g : own_Goes p e below F (T'.setTop (mkF m pc' L S))) : own_Goes p e below F (T.setTop (mkF m pc L (x :: y :: S))) := own_to h g
theorem own_cs {T' : State} {pc : Nat} {L : Array Slot} {S : List Value} (S' : List Value) (pc' : Nat) (h : ∀ t, Steps p.tables e below (T'.setTop (mkF m pc' L S')) t → Steps p.tables e below (T.setTop (mkF m pc L S)) t) (g : own_Goes p e below F (T'.setTop (mkF m pc' L S'))) : own_Goes p e below F (T.setTop (mkF m pc L S)) := own_to h g
theorem own_csR {T' : State} {pc : Nat} {L : Array Slot} {S : List Value} (S' : List Value) (pc' : Nat) (h : Steps p.tables e below (T.setTop (mkF m pc L S)) (T'.setTop (mkF m pc' L S'))) (g : own_Goes p e below F (T'.setTop (mkF m pc' L S'))) : own_Goes p e below F (T.setTop (mkF m pc L S)) := own_tr h g
theorem own_ls {T' : State} {pc : Nat} {L : Array Slot} {S : List Value} {x : Value} (L' : Array Slot) (pc' : Nat) (h : ∀ t, Steps p.tables e below (T'.setTop (mkF m pc' L' S)) t → Steps p.tables e below (T.setTop (mkF m pc L (x :: S))) t) (g : own_Goes p e below F (T'.setTop (mkF m pc' L' S))) : own_Goes p e below F (T.setTop (mkF m pc L (x :: S))) := own_to h g
theorem own_li {T' : State} {pc : Nat} {L : Array Slot} {S : List Value} (L' : Array Slot) (pc' : Nat) (h : ∀ t, Steps p.tables e below (T'.setTop (mkF m pc' L' S)) t → Steps p.tables e below (T.setTop (mkF m pc L S)) t) (g : own_Goes p e below F (T'.setTop (mkF m pc' L' S))) : own_Goes p e below F (T.setTop (mkF m pc L S)) := own_to h g
theorem own_start {A B : State} (h : ∀ t, Steps p.tables e below B t → Steps p.tables e below A t) (g : own_Goes p e below (own_FN s Q k n) B) :
    ∃ s₂ o, Steps p.tables e below A s₂ ∧ s₂.status = .running ∧ Ended s₂ below o ∧ ∃ v L, o = .returned v ∧ Q v s₂.heap L ∧ FrameEnd s o s₂ L k n := own_to h g
theorem own_retN (X : Stand p l e R s m args below meth c T locs cells slots) (hx : p.tables.exec = Jvm.exec) {pc : Nat} {Ls : Array Slot} {z : Int32} {t : FieldType} {rest : List Value} (hret : meth.sig.returnType = some t)
    (hd : decode c.code pc = .ok (.ireturn, 1)) (ht : t = .boolean ∨ t = .byte ∨ t = .char ∨ t = .short) (hlk : meth.locks = false) (hk : cells ≤ k) (hn : slots ≤ n) {h : Heap} (eT : T.heap = h) (hQ : Q (some (.int (nar t z))) h locs) :
    own_Goes p e below (own_FN s Q k n) (T.setTop (mkF m pc Ls (.int z :: rest))) := by
  obtain ⟨fs, hr, hrun, hended, hW, hsame⟩ := X.leave (v := some (.int (nar t z))) (fun q => by rw [hret] at q; cases q) hlk
  subst eT
  exact ⟨_, _, retN X hx hret ht hd hr, hrun, hended, _, _, rfl, hQ, ⟨_, rfl⟩, hW, hsame.mono hk hn⟩
theorem own_retI (X : Stand p l e R s m args below meth c T locs cells slots) (hx : p.tables.exec = Jvm.exec) {pc : Nat} {Ls : Array Slot} {z : Int32} {rest : List Value} (hret : meth.sig.returnType = some .int)
    (hd : decode c.code pc = .ok (.ireturn, 1)) (hlk : meth.locks = false) (hk : cells ≤ k) (hn : slots ≤ n) {h : Heap} (eT : T.heap = h) (hQ : Q (some (.int z)) h locs) :
    own_Goes p e below (own_FN s Q k n) (T.setTop (mkF m pc Ls (.int z :: rest))) := by
  obtain ⟨fs, hr, hrun, hended, hW, hsame⟩ := X.leave (v := some (.int z)) (fun q => by rw [hret] at q; cases q) hlk
  subst eT
  exact ⟨_, _, retOut X hx hret rfl (Or.inl ⟨rfl, Or.inl rfl, z, rfl⟩) hd hr, hrun, hended, _, _, rfl, hQ, ⟨_, rfl⟩, hW, hsame.mono hk hn⟩
theorem own_retJ (X : Stand p l e R s m args below meth c T locs cells slots) (hx : p.tables.exec = Jvm.exec) {pc : Nat} {Ls : Array Slot} {z : Int64} {rest : List Value} (hret : meth.sig.returnType = some .long)
    (hd : decode c.code pc = .ok (.lreturn, 1)) (hlk : meth.locks = false) (hk : cells ≤ k) (hn : slots ≤ n) {h : Heap} (eT : T.heap = h) (hQ : Q (some (.long z)) h locs) :
    own_Goes p e below (own_FN s Q k n) (T.setTop (mkF m pc Ls (.long z :: rest))) := by
  obtain ⟨fs, hr, hrun, hended, hW, hsame⟩ := X.leave (v := some (.long z)) (fun q => by rw [hret] at q; cases q) hlk
  subst eT
  exact ⟨_, _, retOut X hx hret rfl (Or.inr (Or.inl ⟨rfl, rfl, z, rfl⟩)) hd hr, hrun, hended, _, _, rfl, hQ, ⟨_, rfl⟩, hW, hsame.mono hk hn⟩
theorem own_nref {t : FieldType} {w : Value} (ht : t.isReference = true) : narrow t w = w := by cases t <;> first | rfl | (exact Bool.noConfusion ht)
theorem own_fits {t : FieldType} {w : Value} (ht : t.isReference = true) (hw : w.isRef = true) : fits t w = true := by
  cases t <;> first | (exact Bool.noConfusion ht) | (cases w <;> first | rfl | (exact Bool.noConfusion hw))
theorem own_retR (X : Stand p l e R s m args below meth c T locs cells slots) (hx : p.tables.exec = Jvm.exec) {pc : Nat} {Ls : Array Slot} {w : Value} {t : FieldType} {rest : List Value} (hret : meth.sig.returnType = some t)
    (hd : decode c.code pc = .ok (.areturn, 1)) (ht : t.isReference = true) (hw : w.isRef = true) (hlk : meth.locks = false) (hk : cells ≤ k) (hn : slots ≤ n) {h : Heap} (eT : T.heap = h) (hQ : Q (some w) h locs) :
    own_Goes p e below (own_FN s Q k n) (T.setTop (mkF m pc Ls (w :: rest))) := by
  obtain ⟨fs, hr, hrun, hended, hW, hsame⟩ := X.leave (v := some w) (fun q => by rw [hret] at q; cases q) hlk
  subst eT
  exact ⟨_, _, retOut X hx hret (own_nref ht) (Or.inr (Or.inr (Or.inr (Or.inr ⟨rfl, ht, hw⟩)))) hd hr, hrun, hended, _, _, rfl, hQ, ⟨_, rfl⟩, hW, hsame.mono hk hn⟩
theorem own_retV (X : Stand p l e R s m args below meth c T locs cells slots) (hx : p.tables.exec = Jvm.exec) {pc : Nat} {Ls : Array Slot} (hret : meth.sig.returnType = none)
    (hd : decode c.code pc = .ok (.return_, 1)) (hlk : meth.locks = false) (hk : cells ≤ k) (hn : slots ≤ n) {h : Heap} (eT : T.heap = h) (hQ : Q none h locs) :
    own_Goes p e below (own_FN s Q k n) (T.setTop (mkF m pc Ls [])) := by
  obtain ⟨fs, hr, hrun, hended, hW, hsame⟩ := X.leave (v := none) (fun _ => rfl) hlk
  subst eT
  exact ⟨_, _, X.returnOut hx hret hd hr, hrun, hended, _, _, rfl, hQ, ⟨_, rfl⟩, hW, hsame.mono hk hn⟩
end OwnGoes

/-- a body's contract, in lawnew's form -/
abbrev own_Met (l : Launch) (y : MethodName) (bytes : ByteArray) (ml : Nat) (rt : Option FieldType) (ws : List Jvm.Cond) (rm : Room) (Z : State) (as' : Array Value) (h0 : Heap) (Q : Option Value → Heap → List Loc → Prop) : Prop :=
  MetFree l y (head1 (Jvm.Cond.code y bytes ml rt :: ws) rm) (fun a U => a = as' ∧ Z.Warmed39 U.vm ∧ U.heap = h0) (fun _ _ _ _ _ => True) (fun _ U o U' => ∃ v L, o = .returned v ∧ Q v U'.heap L ∧ FrameEnd U o U' L rm.cells rm.slots)
theorem own_enter {l : Launch} {y : MethodName} {bytes : ByteArray} {ml : Nat} {rt : Option FieldType} {ws : List Jvm.Cond} {rm : Room} {Z : State} {as' : Array Value} {h0 : Heap} {Q : Option Value → Heap → List Loc → Prop} (L0 : Array Slot) (hp : plainFor y = true) (ef : ∀ m, entryFrame m as' ml = mkF m 0 L0 [])
    (go : ∀ (p : Program) (e : Env) (s : State) (m : MethodId) (below : List Frame) (meth : Method) (c : Code) (s₁ : State), p.tables.exec = Jvm.exec → c.code = bytes → c.maxLocals = ml → s.vm.findClass y.cls = some m.cls → meth.name = y.name → Z.Warmed39 s.vm → meth.sig.returnType = rt → meth.locks = false → Stand p l e rm s m as' below meth c s₁ [] 0 0 → s₁.heap = h0 → own_Goes p e below (own_FN s Q rm.cells rm.slots) (s₁.setTop (mkF m 0 L0 []))) :
    own_Met l y bytes ml rt ws rm Z as' h0 Q := by
  refine MetFree.of_bodySF hp hisR ?_
  intro p e s m args below meth c s₁ Bd hml0 hP hK
  obtain ⟨rfl, hZ, hh⟩ := hP
  have g := go p e s m below meth c s₁ Bd.exec Bd.bytes hml0 (findClass_of_methodNamed Bd.named) (name_of_methodNamed Bd.named Bd.method).1 hZ Bd.returns Bd.notSynchronized (Stand.of_body Bd) (by rw [← hh, Bd.state]; rfl)
  exact own_start (fun t k => castTop (ef m) k) g

theorem own_cat1 {x : Value} (h : x.isRef = true) : x.category = 1 := by cases x <;> first | rfl | exact Bool.noConfusion h
theorem own_catI (z : Int32) : (Value.int z).category = 1 := rfl
theorem own_catJ (z : Int64) : (Value.long z).category = 2 := rfl
theorem own_catR (z : Addr) : (Value.ref z).category = 1 := rfl
def Q0 (h0 : Heap) (n0 : Nat) (v : Option Value) (h : Heap) (L : List Loc) : Prop := v = some (.int 1) ∧ Fr n0 L

theorem own_sta {s : State} {args : Array Value} {C n d K : String} (hi : (Cond.initialized C).before args s = true) (hl : (Cond.laysStatic C n d).before args s = true) (hx : (Cond.exactly (.static C n d) K).value args s none s [] = some true) : ∃ a, (Term.static C n d).eval args s none [] s = some (.ref a) ∧ Sta s s.heap C n d (.ref a) ∧ Exa s s.heap a K := by
  obtain ⟨a, ev⟩ := exa_v hx
  exact ⟨a, ev, Sta.start ev (Or.inr ⟨hi, hl⟩), Exa.start ev hx⟩
theorem own_fld {s : State} {args : Array Value} {t : Term} {a : Addr} {C n d : String} {z : Int32} (ev : t.eval args s none [] s = some (.ref a)) (h : (Cond.eq (.field t C n d) (.int z)).value args s none s [] = some true) : Fld s s.heap a C n d (.int z) := by
  obtain ⟨x, y, e1, e2, -, k⟩ := cmp_v (Or.inl h)
  obtain rfl : y = .int z := (Option.some.inj ((Term.int_eval z).symm.trans e2)).symm
  obtain ⟨w, rfl⟩ : ∃ w, x = .int w := k
  have hz : w = z := gotT (Cond.eq_ints e1 (Term.int_eval z)) h
  subst hz
  rw [fld_at ev] at e1
  exact Fld.start e1

def own_md (z a b : Int32) : Int32 := (a &&& (-(if z = 0 then 0 else 1 : Int32))) ||| (b &&& ((if z = 0 then 0 else 1 : Int32) - 1))
def own_K (Z : State) (n : String) (a : Addr) (x y : Int32) : Prop := Sta Z Z.heap "com/example/unit_step/unitstep/IntegerType" n "Lcom/example/unit_step/unitstep/IntegerType;" (.ref a) ∧ Exa Z Z.heap a "com/example/unit_step/unitstep/IntegerType" ∧ Fld Z Z.heap a "com/example/unit_step/unitstep/IntegerType" "minLength" "I" (.int x) ∧ Fld Z Z.heap a "com/example/unit_step/unitstep/IntegerType" "maxLength" "I" (.int y)
theorem own_13 (x : Int32) : (x &&& (2147483647 : Int32)) % (13 : Int32) = 0 ∨ (x &&& (2147483647 : Int32)) % (13 : Int32) = 1 ∨ (x &&& (2147483647 : Int32)) % (13 : Int32) = 2 ∨ (x &&& (2147483647 : Int32)) % (13 : Int32) = 3 ∨ (x &&& (2147483647 : Int32)) % (13 : Int32) = 4 ∨ (x &&& (2147483647 : Int32)) % (13 : Int32) = 5 ∨ (x &&& (2147483647 : Int32)) % (13 : Int32) = 6 ∨ (x &&& (2147483647 : Int32)) % (13 : Int32) = 7 ∨ (x &&& (2147483647 : Int32)) % (13 : Int32) = 8 ∨ (x &&& (2147483647 : Int32)) % (13 : Int32) = 9 ∨ (x &&& (2147483647 : Int32)) % (13 : Int32) = 10 ∨ (x &&& (2147483647 : Int32)) % (13 : Int32) = 11 ∨ (x &&& (2147483647 : Int32)) % (13 : Int32) = 12 := by
  have h := c_and x 2147483647 (by decide)
  have q := (c_irem (x &&& 2147483647) 13 13 rfl).1 h.1
  have l0 : (0 : Int32).toInt = 0 := rfl
  have l1 : (1 : Int32).toInt = 1 := rfl
  have l2 : (2 : Int32).toInt = 2 := rfl
  have l3 : (3 : Int32).toInt = 3 := rfl
  have l4 : (4 : Int32).toInt = 4 := rfl
  have l5 : (5 : Int32).toInt = 5 := rfl
  have l6 : (6 : Int32).toInt = 6 := rfl
  have l7 : (7 : Int32).toInt = 7 := rfl
  have l8 : (8 : Int32).toInt = 8 := rfl
  have l9 : (9 : Int32).toInt = 9 := rfl
  have l10 : (10 : Int32).toInt = 10 := rfl
  have l11 : (11 : Int32).toInt = 11 := rfl
  have l12 : (12 : Int32).toInt = 12 := rfl
  simp only [← Int32.toInt_inj, l0, l1, l2, l3, l4, l5, l6, l7, l8, l9, l10, l11, l12]
  omega
def Q1 (z a b : Int32) (h0 : Heap) (n0 : Nat) (v : Option Value) (h : Heap) (L : List Loc) : Prop := v = some (.int (own_md z a b)) ∧ Fr n0 L ∧ h = h0

theorem d1_0 : decode prog_14_method_5_code 0 = .ok (.iload_n 1, 1) := by decide +kernel
theorem d1_1 : decode prog_14_method_5_code 1 = .ok (.ifCond .eq 7, 3) := by decide +kernel
theorem d1_4 : decode prog_14_method_5_code 4 = .ok (.iconst 1, 1) := by decide +kernel
theorem d1_5 : decode prog_14_method_5_code 5 = .ok (.goto 4, 3) := by decide +kernel
theorem d1_8 : decode prog_14_method_5_code 8 = .ok (.iconst 0, 1) := by decide +kernel
theorem d1_9 : decode prog_14_method_5_code 9 = .ok (.istore_n 2, 1) := by decide +kernel
theorem d1_10 : decode prog_14_method_5_code 10 = .ok (.aload_n 0, 1) := by decide +kernel
theorem d1_11 : decode prog_14_method_5_code 11 = .ok (.getfield 118, 3) := by decide +kernel
theorem d1_14 : decode prog_14_method_5_code 14 = .ok (.iload_n 2, 1) := by decide +kernel
theorem d1_15 : decode prog_14_method_5_code 15 = .ok (.ineg, 1) := by decide +kernel
theorem d1_16 : decode prog_14_method_5_code 16 = .ok (.iand, 1) := by decide +kernel
theorem d1_17 : decode prog_14_method_5_code 17 = .ok (.aload_n 0, 1) := by decide +kernel
theorem d1_18 : decode prog_14_method_5_code 18 = .ok (.getfield 122, 3) := by decide +kernel
theorem d1_21 : decode prog_14_method_5_code 21 = .ok (.iload_n 2, 1) := by decide +kernel
theorem d1_22 : decode prog_14_method_5_code 22 = .ok (.iconst 1, 1) := by decide +kernel
theorem d1_23 : decode prog_14_method_5_code 23 = .ok (.isub, 1) := by decide +kernel
theorem d1_24 : decode prog_14_method_5_code 24 = .ok (.iand, 1) := by decide +kernel
theorem d1_25 : decode prog_14_method_5_code 25 = .ok (.ior, 1) := by decide +kernel
theorem d1_26 : decode prog_14_method_5_code 26 = .ok (.ireturn, 1) := by decide +kernel
theorem pn1 : plainName "com/example/unit_step/unitstep/IntegerType" = true := by first | (simp [plainName, overriddenIn]; done) | decide +kernel
theorem ef1 (m : MethodId) (x0 : Addr) (x1 : Int32) : entryFrame m #[(.ref x0), (.int x1)] 3 = mkF m 0 #[.val (.ref x0), .val (.int x1), .unset] [] := by first | (simp [entryFrame, mkF, argsToLocals, Value.category]; done) | rfl
set_option maxRecDepth 65536 in
set_option maxHeartbeats 40000000 in
theorem rm1 (l : Launch) (Z : State) (a0 : Array Value) (hw : ∀ d ∈ tables_1, d.before a0 Z = true) (ws : List Jvm.Cond) (a1 : Addr) (p1 mn mx : Int32) (h0 : Heap) (n0 : Nat) (Fmn : Fld Z h0 a1 "com/example/unit_step/unitstep/IntegerType" "minLength" "I" (.int mn)) (Fmx : Fld Z h0 a1 "com/example/unit_step/unitstep/IntegerType" "maxLength" "I" (.int mx)) :
    own_Met l (⟨"com/example/unit_step/unitstep/IntegerType", "maxDigits", "(Z)I"⟩ : MethodName) prog_14_method_5_code 3 (some .int) ws ({ frames := 0, cells := 0, slots := 0, locals := 0 } : Room) Z #[(.ref a1), (.int p1)] h0 (Q1 p1 mn mx h0 n0) := by
  refine own_enter #[.val (.ref a1), .val (.int p1), .unset] (plainFor_of_name pn1) (fun m => ef1 m a1 p1) ?_
  intro p e s m below meth c s₁ hx hby hml hown hnm hZ hrt hlk X0 e0
  have N0 := Fr.nil n0
  refine own_tp (.int p1) 1 (fun _ q => XS.iloadN X0.here hx rfl (hb hby d1_0) rfl q) ?_
  by_cases c51 : p1 = (0 : Int32)
  ·
    refine own_d1 8 (fun _ q => XS.ifYes X0.here hx rfl (pc0 := 1) (pc' := 8) rfl (hb hby d1_1) rfl ((if0 _ _).trans (teq c51).1) (by decide) (by decide) q) ?_
    refine own_tp (.int (0 : Int32)) 9 (fun _ q => XS.iconst X0.here hx rfl (hb hby d1_8) q) ?_
    refine own_ls #[.val (.ref a1), .val (.int p1), .val (.int (0 : Int32))] 10 (fun _ q => XS.istoreN X0.here hx rfl (hb hby d1_9) rfl (l' := #[.val (.ref a1), .val (.int p1), .val (.int (0 : Int32))]) rfl q) ?_
    refine own_tp (.ref a1) 11 (fun _ q => XS.aloadN X0.here hx rfl (hb hby d1_10) rfl rfl q) ?_
    obtain ⟨T52, X52, e52, st52⟩ := getF X0 hx hZ hown (host := "") (Or.inl (hw _ (List.mem_of_getElem? (i := 37) rfl))) Via.refl e0 Fmn (g := (mkF m 11 #[.val (.ref a1), .val (.int p1), .val (.int (0 : Int32))] [(.ref a1)])) rfl rfl (hb hby d1_11)
    refine own_t1 (.int mn) 14 st52 ?_
    refine own_tp (.int (0 : Int32)) 15 (fun _ q => XS.iloadN X52.here hx rfl (hb hby d1_14) rfl q) ?_
    refine own_t1 (.int (-(0 : Int32))) 16 (fun _ q => XS.ineg X52.here hx rfl (hb hby d1_15) rfl q) ?_
    refine own_t2 (.int (mn &&& (-(0 : Int32)))) 17 (fun _ q => XS.iand X52.here hx rfl (hb hby d1_16) rfl q) ?_
    refine own_tp (.ref a1) 18 (fun _ q => XS.aloadN X52.here hx rfl (hb hby d1_17) rfl rfl q) ?_
    obtain ⟨T53, X53, e53, st53⟩ := getF X52 hx hZ hown (host := "") (Or.inl (hw _ (List.mem_of_getElem? (i := 39) rfl))) Via.refl e52 Fmx (g := (mkF m 18 #[.val (.ref a1), .val (.int p1), .val (.int (0 : Int32))] [(.ref a1), (.int (mn &&& (-(0 : Int32))))])) rfl rfl (hb hby d1_18)
    refine own_t1 (.int mx) 21 st53 ?_
    refine own_tp (.int (0 : Int32)) 22 (fun _ q => XS.iloadN X53.here hx rfl (hb hby d1_21) rfl q) ?_
    refine own_tp (.int (1 : Int32)) 23 (fun _ q => XS.iconst X53.here hx rfl (hb hby d1_22) q) ?_
    refine own_t2 (.int (-1 : Int32)) 24 (fun _ q => XS.isub X53.here hx rfl (hb hby d1_23) rfl q) ?_
    refine own_t2 (.int (mx &&& (-1 : Int32))) 25 (fun _ q => XS.iand X53.here hx rfl (hb hby d1_24) rfl q) ?_
    refine own_t2 (.int ((mn &&& (-(0 : Int32))) ||| (mx &&& (-1 : Int32)))) 26 (fun _ q => XS.ior X53.here hx rfl (hb hby d1_25) rfl q) ?_
    exact own_retI X53 hx hrt (hb hby d1_26) hlk (by decide) (by decide) e53 (⟨by have hv : own_md p1 mn mx = ((mn &&& (-(0 : Int32))) ||| (mx &&& (-1 : Int32))) := (by simp [own_md, c51]); rw [hv], N0, rfl⟩)
  ·
    refine own_d1 4 (fun _ q => XS.ifNo X0.here hx rfl (hb hby d1_1) rfl ((if0 _ _).trans (feq c51).1) q) ?_
    refine own_tp (.int (1 : Int32)) 5 (fun _ q => XS.iconst X0.here hx rfl (hb hby d1_4) q) ?_
    refine own_d0 9 (fun _ q => XS.goto X0.here hx rfl (pc0 := 5) (pc' := 9) rfl (hb hby d1_5) (by decide) (by decide) q) ?_
    refine own_ls #[.val (.ref a1), .val (.int p1), .val (.int (1 : Int32))] 10 (fun _ q => XS.istoreN X0.here hx rfl (hb hby d1_9) rfl (l' := #[.val (.ref a1), .val (.int p1), .val (.int (1 : Int32))]) rfl q) ?_
    refine own_tp (.ref a1) 11 (fun _ q => XS.aloadN X0.here hx rfl (hb hby d1_10) rfl rfl q) ?_
    obtain ⟨T54, X54, e54, st54⟩ := getF X0 hx hZ hown (host := "") (Or.inl (hw _ (List.mem_of_getElem? (i := 37) rfl))) Via.refl e0 Fmn (g := (mkF m 11 #[.val (.ref a1), .val (.int p1), .val (.int (1 : Int32))] [(.ref a1)])) rfl rfl (hb hby d1_11)
    refine own_t1 (.int mn) 14 st54 ?_
    refine own_tp (.int (1 : Int32)) 15 (fun _ q => XS.iloadN X54.here hx rfl (hb hby d1_14) rfl q) ?_
    refine own_t1 (.int (-(1 : Int32))) 16 (fun _ q => XS.ineg X54.here hx rfl (hb hby d1_15) rfl q) ?_
    refine own_t2 (.int (mn &&& (-(1 : Int32)))) 17 (fun _ q => XS.iand X54.here hx rfl (hb hby d1_16) rfl q) ?_
    refine own_tp (.ref a1) 18 (fun _ q => XS.aloadN X54.here hx rfl (hb hby d1_17) rfl rfl q) ?_
    obtain ⟨T55, X55, e55, st55⟩ := getF X54 hx hZ hown (host := "") (Or.inl (hw _ (List.mem_of_getElem? (i := 39) rfl))) Via.refl e54 Fmx (g := (mkF m 18 #[.val (.ref a1), .val (.int p1), .val (.int (1 : Int32))] [(.ref a1), (.int (mn &&& (-(1 : Int32))))])) rfl rfl (hb hby d1_18)
    refine own_t1 (.int mx) 21 st55 ?_
    refine own_tp (.int (1 : Int32)) 22 (fun _ q => XS.iloadN X55.here hx rfl (hb hby d1_21) rfl q) ?_
    refine own_tp (.int (1 : Int32)) 23 (fun _ q => XS.iconst X55.here hx rfl (hb hby d1_22) q) ?_
    refine own_t2 (.int (0 : Int32)) 24 (fun _ q => XS.isub X55.here hx rfl (hb hby d1_23) rfl q) ?_
    refine own_t2 (.int (mx &&& (0 : Int32))) 25 (fun _ q => XS.iand X55.here hx rfl (hb hby d1_24) rfl q) ?_
    refine own_t2 (.int ((mn &&& (-(1 : Int32))) ||| (mx &&& (0 : Int32)))) 26 (fun _ q => XS.ior X55.here hx rfl (hb hby d1_25) rfl q) ?_
    exact own_retI X55 hx hrt (hb hby d1_26) hlk (by decide) (by decide) e55 (⟨by have hv : own_md p1 mn mx = ((mn &&& (-(1 : Int32))) ||| (mx &&& (0 : Int32))) := (by simp [own_md, c51]); rw [hv], N0, rfl⟩)

theorem pn0 : plainName "com/example/unit_step/unitstep/IntegerTypeMaxDigitsPinLaw" = true := by first | (simp [plainName, overriddenIn]; done) | decide +kernel
theorem pd0_0 : parseMethodDescriptor "(Z)I" = some ⟨[.boolean], some .int⟩ := by decide +kernel
theorem ef0 (m : MethodId) (x0 : Int32) (x1 : Int32) : entryFrame m #[(.int x0), (.int x1)] maxLocals = mkF m 0 #[.val (.int x0), .val (.int x1), .unset, .unset, .unset, .unset, .unset, .unset, .unset] [] := by first | (simp [entryFrame, mkF, argsToLocals, Value.category, maxLocals]; done) | rfl
set_option maxRecDepth 65536 in
set_option maxHeartbeats 40000000 in
theorem rm0 (l : Launch) (Z : State) (a0 : Array Value) (hw : ∀ d ∈ tables_1, d.before a0 Z = true) (ws : List Jvm.Cond) (p0 p1 : Int32) (h0 : Heap) (n0 : Nat) (Z0 : n0 ≤ h0.size) (O0 : Old Z n0 h0) (ai0 ai1 ai2 ai3 ai4 ai5 ai6 ai7 ai8 ai9 ai10 ai11 ai12 : Addr) (K0 : own_K Z "INTEGER" ai0 (2147483647 : Int32) (2147483647 : Int32)) (K1 : own_K Z "LONG" ai1 (19 : Int32) (19 : Int32)) (K2 : own_K Z "INT" ai2 (10 : Int32) (10 : Int32)) (K3 : own_K Z "SHORT" ai3 (5 : Int32) (5 : Int32)) (K4 : own_K Z "BYTE" ai4 (3 : Int32) (3 : Int32)) (K5 : own_K Z "UNSIGNED_LONG" ai5 (1 : Int32) (20 : Int32)) (K6 : own_K Z "UNSIGNED_INT" ai6 (1 : Int32) (10 : Int32)) (K7 : own_K Z "UNSIGNED_SHORT" ai7 (1 : Int32) (5 : Int32)) (K8 : own_K Z "UNSIGNED_BYTE" ai8 (1 : Int32) (3 : Int32)) (K9 : own_K Z "NON_NEGATIVE_INTEGER" ai9 (1 : Int32) (2147483647 : Int32)) (K10 : own_K Z "POSITIVE_INTEGER" ai10 (1 : Int32) (2147483647 : Int32)) (K11 : own_K Z "NON_POSITIVE_INTEGER" ai11 (2147483647 : Int32) (1 : Int32)) (K12 : own_K Z "NEGATIVE_INTEGER" ai12 (2147483647 : Int32) (1 : Int32)) :
    own_Met l x code maxLocals ret ws room_1 Z #[(.int p0), (.int p1)] h0 (Q0 h0 n0) := by
  refine own_enter #[.val (.int p0), .val (.int p1), .unset, .unset, .unset, .unset, .unset, .unset, .unset] (plainFor_of_name pn0) (fun m => ef0 m p0 p1) ?_
  intro p e s m below meth c s₁ hx hby hml hown hnm hZ hrt hlk X0 e0
  have N0 := Fr.nil n0
  let L_51 : Array Slot := #[.val (.int p0), .val (.int p1), .unset, .unset, .unset, .unset, .unset, .unset, .unset]
  refine own_tp (.int (2147483647 : Int32)) 2 (fun _ q => X0.ldcInt hx hown (mvT hZ (hw _ (List.mem_of_getElem? (i := 0) rfl))) (g := (mkF m 0 L_51 [])) rfl (hb hby at_0) _ q) ?_
  let L_52 : Array Slot := #[.val (.int p0), .val (.int p1), .val (.int (2147483647 : Int32)), .unset, .unset, .unset, .unset, .unset, .unset]
  refine own_ls L_52 3 (fun _ q => XS.istoreN X0.here hx rfl (hb hby at_2) rfl (l' := L_52) rfl q) ?_
  refine own_tp (.int (13 : Int32)) 5 (fun _ q => XS.bipush X0.here hx rfl (hb hby at_3) q) ?_
  obtain ⟨T53, h53, k53, X53, e53, E53, A53, Ov53, st53⟩ := newR X0 hx hZ hown (hw _ (List.mem_of_getElem? (i := 1) rfl)) (hw _ (List.mem_of_getElem? (i := 2) rfl)) e0 (g := (mkF m 5 L_52 [(.int (13 : Int32))])) rfl (hb hby at_5) rfl (by decide) (cap := 13) (by decide) (by decide) (by decide) (by decide)
  obtain ⟨b53, g53⟩ : ∃ z, z = h0.size := ⟨_, rfl⟩
  rw [← g53] at A53 st53
  have V53 : Arv Z h53 b53 k53 (.object "com/example/unit_step/unitstep/IntegerType") (13 : Int32) [.null, .null, .null, .null, .null, .null, .null, .null, .null, .null, .null, .null, .null] .null := (Arv.new A53 (by decide)).pad (pad_rep [] .null 13)
  have ge53 : n0 ≤ b53 := Nat.le_trans Z0 (Nat.le_of_eq g53.symm)
  have O53 := Old.ext O0 E53
  have Z53 : n0 ≤ h53.size := Nat.le_trans Z0 E53.1
  refine own_t1 (.ref b53) 8 st53 ?_
  refine own_tp (.ref b53) 9 (fun _ q => XS.dup X53.here hx rfl (hb hby at_8) rfl rfl q) ?_
  refine own_tp (.int (0 : Int32)) 10 (fun _ q => XS.iconst X53.here hx rfl (hb hby at_9) q) ?_
  obtain ⟨T54, X54, e54, st54⟩ := getS2 X53 hx hZ hown (host := "") (Or.inl (hw _ (List.mem_of_getElem? (i := 3) rfl))) Via.refl e53 (K0.1.ext O53.2) (g := (mkF m 10 L_52 [(.int (0 : Int32)), (.ref b53), (.ref b53)])) rfl (hb hby at_10)
  refine own_tp (.ref ai0) 13 st54 ?_
  obtain ⟨cl55, Ar55, q55, S55, Nn55, H55, G55⟩ := (id V53)
  have hin55 : ¬ ((0 : Int32) < 0 ∨ cl55.slots.size ≤ ((0 : Int32)).toNatClampNeg) := inb_of S55 ⟨by decide, by decide⟩
  obtain ⟨T56, h56, X56, e56, W56, st56⟩ := stR X54 hx hZ e54 Ar55 (j := (0 : Int32)) hin55 rfl (Sto.ofV Ar55 q55 Ov53 (Ins.self (K0.2.1.ext O53.2))) (g := (mkF m 13 L_52 [(.ref ai0), (.int (0 : Int32)), (.ref b53), (.ref b53)])) rfl rfl (hb hby at_13)
  have V56 := Arv.set Ar55 q55 S55 Nn55 H55 G55 rfl W56 0 rfl (Nat.le_of_ble_eq_true rfl)
  have N56 := Fr.snoc X56 N0 ge53
  have O56 := Old.wr O53 W56 ge53
  have Z56 : n0 ≤ h56.size := Nat.le_trans Z53 (Nat.le_of_eq W56.size.symm)
  have V56' : Arv Z h56 b53 k53 (.object "com/example/unit_step/unitstep/IntegerType") (13 : Int32) [(.ref ai0), .null, .null, .null, .null, .null, .null, .null, .null, .null, .null, .null, .null] .null := V56
  refine own_cs [(.ref b53)] 14 st56 ?_
  refine own_tp (.ref b53) 15 (fun _ q => XS.dup X56.here hx rfl (hb hby at_14) rfl rfl q) ?_
  refine own_tp (.int (1 : Int32)) 16 (fun _ q => XS.iconst X56.here hx rfl (hb hby at_15) q) ?_
  obtain ⟨T57, X57, e57, st57⟩ := getS2 X56 hx hZ hown (host := "") (Or.inl (hw _ (List.mem_of_getElem? (i := 7) rfl))) Via.refl e56 (K1.1.ext O56.2) (g := (mkF m 16 L_52 [(.int (1 : Int32)), (.ref b53), (.ref b53)])) rfl (hb hby at_16)
  refine own_tp (.ref ai1) 19 st57 ?_
  obtain ⟨cl58, Ar58, q58, S58, Nn58, H58, G58⟩ := (id V56')
  have hin58 : ¬ ((1 : Int32) < 0 ∨ cl58.slots.size ≤ ((1 : Int32)).toNatClampNeg) := inb_of S58 ⟨by decide, by decide⟩
  obtain ⟨T59, h59, X59, e59, W59, st59⟩ := stR X57 hx hZ e57 Ar58 (j := (1 : Int32)) hin58 rfl (Sto.ofV Ar58 q58 Ov53 (Ins.self (K1.2.1.ext O56.2))) (g := (mkF m 19 L_52 [(.ref ai1), (.int (1 : Int32)), (.ref b53), (.ref b53)])) rfl rfl (hb hby at_19)
  have V59 := Arv.set Ar58 q58 S58 Nn58 H58 G58 rfl W59 1 rfl (Nat.le_of_ble_eq_true rfl)
  have N59 := Fr.snoc X59 N56 ge53
  have O59 := Old.wr O56 W59 ge53
  have Z59 : n0 ≤ h59.size := Nat.le_trans Z56 (Nat.le_of_eq W59.size.symm)
  have V59' : Arv Z h59 b53 k53 (.object "com/example/unit_step/unitstep/IntegerType") (13 : Int32) [(.ref ai0), (.ref ai1), .null, .null, .null, .null, .null, .null, .null, .null, .null, .null, .null] .null := V59
  refine own_cs [(.ref b53)] 20 st59 ?_
  refine own_tp (.ref b53) 21 (fun _ q => XS.dup X59.here hx rfl (hb hby at_20) rfl rfl q) ?_
  refine own_tp (.int (2 : Int32)) 22 (fun _ q => XS.iconst X59.here hx rfl (hb hby at_21) q) ?_
  obtain ⟨T60, X60, e60, st60⟩ := getS2 X59 hx hZ hown (host := "") (Or.inl (hw _ (List.mem_of_getElem? (i := 9) rfl))) Via.refl e59 (K2.1.ext O59.2) (g := (mkF m 22 L_52 [(.int (2 : Int32)), (.ref b53), (.ref b53)])) rfl (hb hby at_22)
  refine own_tp (.ref ai2) 25 st60 ?_
  obtain ⟨cl61, Ar61, q61, S61, Nn61, H61, G61⟩ := (id V59')
  have hin61 : ¬ ((2 : Int32) < 0 ∨ cl61.slots.size ≤ ((2 : Int32)).toNatClampNeg) := inb_of S61 ⟨by decide, by decide⟩
  obtain ⟨T62, h62, X62, e62, W62, st62⟩ := stR X60 hx hZ e60 Ar61 (j := (2 : Int32)) hin61 rfl (Sto.ofV Ar61 q61 Ov53 (Ins.self (K2.2.1.ext O59.2))) (g := (mkF m 25 L_52 [(.ref ai2), (.int (2 : Int32)), (.ref b53), (.ref b53)])) rfl rfl (hb hby at_25)
  have V62 := Arv.set Ar61 q61 S61 Nn61 H61 G61 rfl W62 2 rfl (Nat.le_of_ble_eq_true rfl)
  have N62 := Fr.snoc X62 N59 ge53
  have O62 := Old.wr O59 W62 ge53
  have Z62 : n0 ≤ h62.size := Nat.le_trans Z59 (Nat.le_of_eq W62.size.symm)
  have V62' : Arv Z h62 b53 k53 (.object "com/example/unit_step/unitstep/IntegerType") (13 : Int32) [(.ref ai0), (.ref ai1), (.ref ai2), .null, .null, .null, .null, .null, .null, .null, .null, .null, .null] .null := V62
  refine own_cs [(.ref b53)] 26 st62 ?_
  refine own_tp (.ref b53) 27 (fun _ q => XS.dup X62.here hx rfl (hb hby at_26) rfl rfl q) ?_
  refine own_tp (.int (3 : Int32)) 28 (fun _ q => XS.iconst X62.here hx rfl (hb hby at_27) q) ?_
  obtain ⟨T63, X63, e63, st63⟩ := getS2 X62 hx hZ hown (host := "") (Or.inl (hw _ (List.mem_of_getElem? (i := 11) rfl))) Via.refl e62 (K3.1.ext O62.2) (g := (mkF m 28 L_52 [(.int (3 : Int32)), (.ref b53), (.ref b53)])) rfl (hb hby at_28)
  refine own_tp (.ref ai3) 31 st63 ?_
  obtain ⟨cl64, Ar64, q64, S64, Nn64, H64, G64⟩ := (id V62')
  have hin64 : ¬ ((3 : Int32) < 0 ∨ cl64.slots.size ≤ ((3 : Int32)).toNatClampNeg) := inb_of S64 ⟨by decide, by decide⟩
  obtain ⟨T65, h65, X65, e65, W65, st65⟩ := stR X63 hx hZ e63 Ar64 (j := (3 : Int32)) hin64 rfl (Sto.ofV Ar64 q64 Ov53 (Ins.self (K3.2.1.ext O62.2))) (g := (mkF m 31 L_52 [(.ref ai3), (.int (3 : Int32)), (.ref b53), (.ref b53)])) rfl rfl (hb hby at_31)
  have V65 := Arv.set Ar64 q64 S64 Nn64 H64 G64 rfl W65 3 rfl (Nat.le_of_ble_eq_true rfl)
  have N65 := Fr.snoc X65 N62 ge53
  have O65 := Old.wr O62 W65 ge53
  have Z65 : n0 ≤ h65.size := Nat.le_trans Z62 (Nat.le_of_eq W65.size.symm)
  have V65' : Arv Z h65 b53 k53 (.object "com/example/unit_step/unitstep/IntegerType") (13 : Int32) [(.ref ai0), (.ref ai1), (.ref ai2), (.ref ai3), .null, .null, .null, .null, .null, .null, .null, .null, .null] .null := V65
  refine own_cs [(.ref b53)] 32 st65 ?_
  refine own_tp (.ref b53) 33 (fun _ q => XS.dup X65.here hx rfl (hb hby at_32) rfl rfl q) ?_
  refine own_tp (.int (4 : Int32)) 34 (fun _ q => XS.iconst X65.here hx rfl (hb hby at_33) q) ?_
  obtain ⟨T66, X66, e66, st66⟩ := getS2 X65 hx hZ hown (host := "") (Or.inl (hw _ (List.mem_of_getElem? (i := 13) rfl))) Via.refl e65 (K4.1.ext O65.2) (g := (mkF m 34 L_52 [(.int (4 : Int32)), (.ref b53), (.ref b53)])) rfl (hb hby at_34)
  refine own_tp (.ref ai4) 37 st66 ?_
  obtain ⟨cl67, Ar67, q67, S67, Nn67, H67, G67⟩ := (id V65')
  have hin67 : ¬ ((4 : Int32) < 0 ∨ cl67.slots.size ≤ ((4 : Int32)).toNatClampNeg) := inb_of S67 ⟨by decide, by decide⟩
  obtain ⟨T68, h68, X68, e68, W68, st68⟩ := stR X66 hx hZ e66 Ar67 (j := (4 : Int32)) hin67 rfl (Sto.ofV Ar67 q67 Ov53 (Ins.self (K4.2.1.ext O65.2))) (g := (mkF m 37 L_52 [(.ref ai4), (.int (4 : Int32)), (.ref b53), (.ref b53)])) rfl rfl (hb hby at_37)
  have V68 := Arv.set Ar67 q67 S67 Nn67 H67 G67 rfl W68 4 rfl (Nat.le_of_ble_eq_true rfl)
  have N68 := Fr.snoc X68 N65 ge53
  have O68 := Old.wr O65 W68 ge53
  have Z68 : n0 ≤ h68.size := Nat.le_trans Z65 (Nat.le_of_eq W68.size.symm)
  have V68' : Arv Z h68 b53 k53 (.object "com/example/unit_step/unitstep/IntegerType") (13 : Int32) [(.ref ai0), (.ref ai1), (.ref ai2), (.ref ai3), (.ref ai4), .null, .null, .null, .null, .null, .null, .null, .null] .null := V68
  refine own_cs [(.ref b53)] 38 st68 ?_
  refine own_tp (.ref b53) 39 (fun _ q => XS.dup X68.here hx rfl (hb hby at_38) rfl rfl q) ?_
  refine own_tp (.int (5 : Int32)) 40 (fun _ q => XS.iconst X68.here hx rfl (hb hby at_39) q) ?_
  obtain ⟨T69, X69, e69, st69⟩ := getS2 X68 hx hZ hown (host := "") (Or.inl (hw _ (List.mem_of_getElem? (i := 15) rfl))) Via.refl e68 (K5.1.ext O68.2) (g := (mkF m 40 L_52 [(.int (5 : Int32)), (.ref b53), (.ref b53)])) rfl (hb hby at_40)
  refine own_tp (.ref ai5) 43 st69 ?_
  obtain ⟨cl70, Ar70, q70, S70, Nn70, H70, G70⟩ := (id V68')
  have hin70 : ¬ ((5 : Int32) < 0 ∨ cl70.slots.size ≤ ((5 : Int32)).toNatClampNeg) := inb_of S70 ⟨by decide, by decide⟩
  obtain ⟨T71, h71, X71, e71, W71, st71⟩ := stR X69 hx hZ e69 Ar70 (j := (5 : Int32)) hin70 rfl (Sto.ofV Ar70 q70 Ov53 (Ins.self (K5.2.1.ext O68.2))) (g := (mkF m 43 L_52 [(.ref ai5), (.int (5 : Int32)), (.ref b53), (.ref b53)])) rfl rfl (hb hby at_43)
  have V71 := Arv.set Ar70 q70 S70 Nn70 H70 G70 rfl W71 5 rfl (Nat.le_of_ble_eq_true rfl)
  have N71 := Fr.snoc X71 N68 ge53
  have O71 := Old.wr O68 W71 ge53
  have Z71 : n0 ≤ h71.size := Nat.le_trans Z68 (Nat.le_of_eq W71.size.symm)
  have V71' : Arv Z h71 b53 k53 (.object "com/example/unit_step/unitstep/IntegerType") (13 : Int32) [(.ref ai0), (.ref ai1), (.ref ai2), (.ref ai3), (.ref ai4), (.ref ai5), .null, .null, .null, .null, .null, .null, .null] .null := V71
  refine own_cs [(.ref b53)] 44 st71 ?_
  refine own_tp (.ref b53) 45 (fun _ q => XS.dup X71.here hx rfl (hb hby at_44) rfl rfl q) ?_
  refine own_tp (.int (6 : Int32)) 47 (fun _ q => XS.bipush X71.here hx rfl (hb hby at_45) q) ?_
  obtain ⟨T72, X72, e72, st72⟩ := getS2 X71 hx hZ hown (host := "") (Or.inl (hw _ (List.mem_of_getElem? (i := 17) rfl))) Via.refl e71 (K6.1.ext O71.2) (g := (mkF m 47 L_52 [(.int (6 : Int32)), (.ref b53), (.ref b53)])) rfl (hb hby at_47)
  refine own_tp (.ref ai6) 50 st72 ?_
  obtain ⟨cl73, Ar73, q73, S73, Nn73, H73, G73⟩ := (id V71')
  have hin73 : ¬ ((6 : Int32) < 0 ∨ cl73.slots.size ≤ ((6 : Int32)).toNatClampNeg) := inb_of S73 ⟨by decide, by decide⟩
  obtain ⟨T74, h74, X74, e74, W74, st74⟩ := stR X72 hx hZ e72 Ar73 (j := (6 : Int32)) hin73 rfl (Sto.ofV Ar73 q73 Ov53 (Ins.self (K6.2.1.ext O71.2))) (g := (mkF m 50 L_52 [(.ref ai6), (.int (6 : Int32)), (.ref b53), (.ref b53)])) rfl rfl (hb hby at_50)
  have V74 := Arv.set Ar73 q73 S73 Nn73 H73 G73 rfl W74 6 rfl (Nat.le_of_ble_eq_true rfl)
  have N74 := Fr.snoc X74 N71 ge53
  have O74 := Old.wr O71 W74 ge53
  have Z74 : n0 ≤ h74.size := Nat.le_trans Z71 (Nat.le_of_eq W74.size.symm)
  have V74' : Arv Z h74 b53 k53 (.object "com/example/unit_step/unitstep/IntegerType") (13 : Int32) [(.ref ai0), (.ref ai1), (.ref ai2), (.ref ai3), (.ref ai4), (.ref ai5), (.ref ai6), .null, .null, .null, .null, .null, .null] .null := V74
  refine own_cs [(.ref b53)] 51 st74 ?_
  refine own_tp (.ref b53) 52 (fun _ q => XS.dup X74.here hx rfl (hb hby at_51) rfl rfl q) ?_
  refine own_tp (.int (7 : Int32)) 54 (fun _ q => XS.bipush X74.here hx rfl (hb hby at_52) q) ?_
  obtain ⟨T75, X75, e75, st75⟩ := getS2 X74 hx hZ hown (host := "") (Or.inl (hw _ (List.mem_of_getElem? (i := 19) rfl))) Via.refl e74 (K7.1.ext O74.2) (g := (mkF m 54 L_52 [(.int (7 : Int32)), (.ref b53), (.ref b53)])) rfl (hb hby at_54)
  refine own_tp (.ref ai7) 57 st75 ?_
  obtain ⟨cl76, Ar76, q76, S76, Nn76, H76, G76⟩ := (id V74')
  have hin76 : ¬ ((7 : Int32) < 0 ∨ cl76.slots.size ≤ ((7 : Int32)).toNatClampNeg) := inb_of S76 ⟨by decide, by decide⟩
  obtain ⟨T77, h77, X77, e77, W77, st77⟩ := stR X75 hx hZ e75 Ar76 (j := (7 : Int32)) hin76 rfl (Sto.ofV Ar76 q76 Ov53 (Ins.self (K7.2.1.ext O74.2))) (g := (mkF m 57 L_52 [(.ref ai7), (.int (7 : Int32)), (.ref b53), (.ref b53)])) rfl rfl (hb hby at_57)
  have V77 := Arv.set Ar76 q76 S76 Nn76 H76 G76 rfl W77 7 rfl (Nat.le_of_ble_eq_true rfl)
  have N77 := Fr.snoc X77 N74 ge53
  have O77 := Old.wr O74 W77 ge53
  have Z77 : n0 ≤ h77.size := Nat.le_trans Z74 (Nat.le_of_eq W77.size.symm)
  have V77' : Arv Z h77 b53 k53 (.object "com/example/unit_step/unitstep/IntegerType") (13 : Int32) [(.ref ai0), (.ref ai1), (.ref ai2), (.ref ai3), (.ref ai4), (.ref ai5), (.ref ai6), (.ref ai7), .null, .null, .null, .null, .null] .null := V77
  refine own_cs [(.ref b53)] 58 st77 ?_
  refine own_tp (.ref b53) 59 (fun _ q => XS.dup X77.here hx rfl (hb hby at_58) rfl rfl q) ?_
  refine own_tp (.int (8 : Int32)) 61 (fun _ q => XS.bipush X77.here hx rfl (hb hby at_59) q) ?_
  obtain ⟨T78, X78, e78, st78⟩ := getS2 X77 hx hZ hown (host := "") (Or.inl (hw _ (List.mem_of_getElem? (i := 21) rfl))) Via.refl e77 (K8.1.ext O77.2) (g := (mkF m 61 L_52 [(.int (8 : Int32)), (.ref b53), (.ref b53)])) rfl (hb hby at_61)
  refine own_tp (.ref ai8) 64 st78 ?_
  obtain ⟨cl79, Ar79, q79, S79, Nn79, H79, G79⟩ := (id V77')
  have hin79 : ¬ ((8 : Int32) < 0 ∨ cl79.slots.size ≤ ((8 : Int32)).toNatClampNeg) := inb_of S79 ⟨by decide, by decide⟩
  obtain ⟨T80, h80, X80, e80, W80, st80⟩ := stR X78 hx hZ e78 Ar79 (j := (8 : Int32)) hin79 rfl (Sto.ofV Ar79 q79 Ov53 (Ins.self (K8.2.1.ext O77.2))) (g := (mkF m 64 L_52 [(.ref ai8), (.int (8 : Int32)), (.ref b53), (.ref b53)])) rfl rfl (hb hby at_64)
  have V80 := Arv.set Ar79 q79 S79 Nn79 H79 G79 rfl W80 8 rfl (Nat.le_of_ble_eq_true rfl)
  have N80 := Fr.snoc X80 N77 ge53
  have O80 := Old.wr O77 W80 ge53
  have Z80 : n0 ≤ h80.size := Nat.le_trans Z77 (Nat.le_of_eq W80.size.symm)
  have V80' : Arv Z h80 b53 k53 (.object "com/example/unit_step/unitstep/IntegerType") (13 : Int32) [(.ref ai0), (.ref ai1), (.ref ai2), (.ref ai3), (.ref ai4), (.ref ai5), (.ref ai6), (.ref ai7), (.ref ai8), .null, .null, .null, .null] .null := V80
  refine own_cs [(.ref b53)] 65 st80 ?_
  refine own_tp (.ref b53) 66 (fun _ q => XS.dup X80.here hx rfl (hb hby at_65) rfl rfl q) ?_
  refine own_tp (.int (9 : Int32)) 68 (fun _ q => XS.bipush X80.here hx rfl (hb hby at_66) q) ?_
  obtain ⟨T81, X81, e81, st81⟩ := getS2 X80 hx hZ hown (host := "") (Or.inl (hw _ (List.mem_of_getElem? (i := 23) rfl))) Via.refl e80 (K9.1.ext O80.2) (g := (mkF m 68 L_52 [(.int (9 : Int32)), (.ref b53), (.ref b53)])) rfl (hb hby at_68)
  refine own_tp (.ref ai9) 71 st81 ?_
  obtain ⟨cl82, Ar82, q82, S82, Nn82, H82, G82⟩ := (id V80')
  have hin82 : ¬ ((9 : Int32) < 0 ∨ cl82.slots.size ≤ ((9 : Int32)).toNatClampNeg) := inb_of S82 ⟨by decide, by decide⟩
  obtain ⟨T83, h83, X83, e83, W83, st83⟩ := stR X81 hx hZ e81 Ar82 (j := (9 : Int32)) hin82 rfl (Sto.ofV Ar82 q82 Ov53 (Ins.self (K9.2.1.ext O80.2))) (g := (mkF m 71 L_52 [(.ref ai9), (.int (9 : Int32)), (.ref b53), (.ref b53)])) rfl rfl (hb hby at_71)
  have V83 := Arv.set Ar82 q82 S82 Nn82 H82 G82 rfl W83 9 rfl (Nat.le_of_ble_eq_true rfl)
  have N83 := Fr.snoc X83 N80 ge53
  have O83 := Old.wr O80 W83 ge53
  have Z83 : n0 ≤ h83.size := Nat.le_trans Z80 (Nat.le_of_eq W83.size.symm)
  have V83' : Arv Z h83 b53 k53 (.object "com/example/unit_step/unitstep/IntegerType") (13 : Int32) [(.ref ai0), (.ref ai1), (.ref ai2), (.ref ai3), (.ref ai4), (.ref ai5), (.ref ai6), (.ref ai7), (.ref ai8), (.ref ai9), .null, .null, .null] .null := V83
  refine own_cs [(.ref b53)] 72 st83 ?_
  refine own_tp (.ref b53) 73 (fun _ q => XS.dup X83.here hx rfl (hb hby at_72) rfl rfl q) ?_
  refine own_tp (.int (10 : Int32)) 75 (fun _ q => XS.bipush X83.here hx rfl (hb hby at_73) q) ?_
  obtain ⟨T84, X84, e84, st84⟩ := getS2 X83 hx hZ hown (host := "") (Or.inl (hw _ (List.mem_of_getElem? (i := 25) rfl))) Via.refl e83 (K10.1.ext O83.2) (g := (mkF m 75 L_52 [(.int (10 : Int32)), (.ref b53), (.ref b53)])) rfl (hb hby at_75)
  refine own_tp (.ref ai10) 78 st84 ?_
  obtain ⟨cl85, Ar85, q85, S85, Nn85, H85, G85⟩ := (id V83')
  have hin85 : ¬ ((10 : Int32) < 0 ∨ cl85.slots.size ≤ ((10 : Int32)).toNatClampNeg) := inb_of S85 ⟨by decide, by decide⟩
  obtain ⟨T86, h86, X86, e86, W86, st86⟩ := stR X84 hx hZ e84 Ar85 (j := (10 : Int32)) hin85 rfl (Sto.ofV Ar85 q85 Ov53 (Ins.self (K10.2.1.ext O83.2))) (g := (mkF m 78 L_52 [(.ref ai10), (.int (10 : Int32)), (.ref b53), (.ref b53)])) rfl rfl (hb hby at_78)
  have V86 := Arv.set Ar85 q85 S85 Nn85 H85 G85 rfl W86 10 rfl (Nat.le_of_ble_eq_true rfl)
  have N86 := Fr.snoc X86 N83 ge53
  have O86 := Old.wr O83 W86 ge53
  have Z86 : n0 ≤ h86.size := Nat.le_trans Z83 (Nat.le_of_eq W86.size.symm)
  have V86' : Arv Z h86 b53 k53 (.object "com/example/unit_step/unitstep/IntegerType") (13 : Int32) [(.ref ai0), (.ref ai1), (.ref ai2), (.ref ai3), (.ref ai4), (.ref ai5), (.ref ai6), (.ref ai7), (.ref ai8), (.ref ai9), (.ref ai10), .null, .null] .null := V86
  refine own_cs [(.ref b53)] 79 st86 ?_
  refine own_tp (.ref b53) 80 (fun _ q => XS.dup X86.here hx rfl (hb hby at_79) rfl rfl q) ?_
  refine own_tp (.int (11 : Int32)) 82 (fun _ q => XS.bipush X86.here hx rfl (hb hby at_80) q) ?_
  obtain ⟨T87, X87, e87, st87⟩ := getS2 X86 hx hZ hown (host := "") (Or.inl (hw _ (List.mem_of_getElem? (i := 27) rfl))) Via.refl e86 (K11.1.ext O86.2) (g := (mkF m 82 L_52 [(.int (11 : Int32)), (.ref b53), (.ref b53)])) rfl (hb hby at_82)
  refine own_tp (.ref ai11) 85 st87 ?_
  obtain ⟨cl88, Ar88, q88, S88, Nn88, H88, G88⟩ := (id V86')
  have hin88 : ¬ ((11 : Int32) < 0 ∨ cl88.slots.size ≤ ((11 : Int32)).toNatClampNeg) := inb_of S88 ⟨by decide, by decide⟩
  obtain ⟨T89, h89, X89, e89, W89, st89⟩ := stR X87 hx hZ e87 Ar88 (j := (11 : Int32)) hin88 rfl (Sto.ofV Ar88 q88 Ov53 (Ins.self (K11.2.1.ext O86.2))) (g := (mkF m 85 L_52 [(.ref ai11), (.int (11 : Int32)), (.ref b53), (.ref b53)])) rfl rfl (hb hby at_85)
  have V89 := Arv.set Ar88 q88 S88 Nn88 H88 G88 rfl W89 11 rfl (Nat.le_of_ble_eq_true rfl)
  have N89 := Fr.snoc X89 N86 ge53
  have O89 := Old.wr O86 W89 ge53
  have Z89 : n0 ≤ h89.size := Nat.le_trans Z86 (Nat.le_of_eq W89.size.symm)
  have V89' : Arv Z h89 b53 k53 (.object "com/example/unit_step/unitstep/IntegerType") (13 : Int32) [(.ref ai0), (.ref ai1), (.ref ai2), (.ref ai3), (.ref ai4), (.ref ai5), (.ref ai6), (.ref ai7), (.ref ai8), (.ref ai9), (.ref ai10), (.ref ai11), .null] .null := V89
  refine own_cs [(.ref b53)] 86 st89 ?_
  refine own_tp (.ref b53) 87 (fun _ q => XS.dup X89.here hx rfl (hb hby at_86) rfl rfl q) ?_
  refine own_tp (.int (12 : Int32)) 89 (fun _ q => XS.bipush X89.here hx rfl (hb hby at_87) q) ?_
  obtain ⟨T90, X90, e90, st90⟩ := getS2 X89 hx hZ hown (host := "") (Or.inl (hw _ (List.mem_of_getElem? (i := 29) rfl))) Via.refl e89 (K12.1.ext O89.2) (g := (mkF m 89 L_52 [(.int (12 : Int32)), (.ref b53), (.ref b53)])) rfl (hb hby at_89)
  refine own_tp (.ref ai12) 92 st90 ?_
  obtain ⟨cl91, Ar91, q91, S91, Nn91, H91, G91⟩ := (id V89')
  have hin91 : ¬ ((12 : Int32) < 0 ∨ cl91.slots.size ≤ ((12 : Int32)).toNatClampNeg) := inb_of S91 ⟨by decide, by decide⟩
  obtain ⟨T92, h92, X92, e92, W92, st92⟩ := stR X90 hx hZ e90 Ar91 (j := (12 : Int32)) hin91 rfl (Sto.ofV Ar91 q91 Ov53 (Ins.self (K12.2.1.ext O89.2))) (g := (mkF m 92 L_52 [(.ref ai12), (.int (12 : Int32)), (.ref b53), (.ref b53)])) rfl rfl (hb hby at_92)
  have V92 := Arv.set Ar91 q91 S91 Nn91 H91 G91 rfl W92 12 rfl (Nat.le_of_ble_eq_true rfl)
  have N92 := Fr.snoc X92 N89 ge53
  have O92 := Old.wr O89 W92 ge53
  have Z92 : n0 ≤ h92.size := Nat.le_trans Z89 (Nat.le_of_eq W92.size.symm)
  have V92' : Arv Z h92 b53 k53 (.object "com/example/unit_step/unitstep/IntegerType") (13 : Int32) [(.ref ai0), (.ref ai1), (.ref ai2), (.ref ai3), (.ref ai4), (.ref ai5), (.ref ai6), (.ref ai7), (.ref ai8), (.ref ai9), (.ref ai10), (.ref ai11), (.ref ai12)] .null := V92
  refine own_cs [(.ref b53)] 93 st92 ?_
  let L_93 : Array Slot := #[.val (.int p0), .val (.int p1), .val (.int (2147483647 : Int32)), .val (.ref b53), .unset, .unset, .unset, .unset, .unset]
  refine own_ls L_93 94 (fun _ q => XS.astoreN X92.here hx rfl (hb hby at_93) rfl rfl (l' := L_93) rfl q) ?_
  refine own_tp (.int (13 : Int32)) 96 (fun _ q => XS.bipush X92.here hx rfl (hb hby at_94) q) ?_
  obtain ⟨T94, h94, k94, X94, e94, E94, A94, st94⟩ := newP X92 hx hZ (hw _ (List.mem_of_getElem? (i := 31) rfl)) e92 (g := (mkF m 96 L_93 [(.int (13 : Int32))])) rfl (hb hby at_96) rfl (by decide) (cap := 13) (by decide) (by decide) (by decide) (by decide)
  obtain ⟨b94, g94⟩ : ∃ z, z = h92.size := ⟨_, rfl⟩
  rw [← g94] at A94 st94
  have V94 : Arv Z h94 b94 k94 .int (13 : Int32) [(.int (0 : Int32)), (.int (0 : Int32)), (.int (0 : Int32)), (.int (0 : Int32)), (.int (0 : Int32)), (.int (0 : Int32)), (.int (0 : Int32)), (.int (0 : Int32)), (.int (0 : Int32)), (.int (0 : Int32)), (.int (0 : Int32)), (.int (0 : Int32)), (.int (0 : Int32))] (.int (0 : Int32)) := (Arv.new A94 (by decide)).pad (pad_rep [] (.int (0 : Int32)) 13)
  have ge94 : n0 ≤ b94 := Nat.le_trans Z92 (Nat.le_of_eq g94.symm)
  have ne95 : b53 ≠ b94 := Nat.ne_of_lt (Nat.lt_of_lt_of_le V92'.lt (Nat.le_of_eq g94.symm))
  have O94 := Old.ext O92 E94
  have Z94 : n0 ≤ h94.size := Nat.le_trans Z92 E94.1
  refine own_t1 (.ref b94) 98 st94 ?_
  refine own_tp (.ref b94) 99 (fun _ q => XS.dup X94.here hx rfl (hb hby at_98) rfl rfl q) ?_
  refine own_tp (.int (0 : Int32)) 100 (fun _ q => XS.iconst X94.here hx rfl (hb hby at_99) q) ?_
  refine own_tp (.int (2147483647 : Int32)) 101 (fun _ q => XS.iloadN X94.here hx rfl (hb hby at_100) rfl q) ?_
  obtain ⟨cl96, Ar96, q96, S96, Nn96, H96, G96⟩ := (id V94)
  have hin96 : ¬ ((0 : Int32) < 0 ∨ cl96.slots.size ≤ ((0 : Int32)).toNatClampNeg) := inb_of S96 ⟨by decide, by decide⟩
  obtain ⟨T97, h97, X97, e97, W97, st97⟩ := stI X94 hx hZ e94 Ar96 (j := (0 : Int32)) hin96 (g := (mkF m 101 L_93 [(.int (2147483647 : Int32)), (.int (0 : Int32)), (.ref b94), (.ref b94)])) rfl rfl (hb hby at_101)
  have V97 := Arv.set Ar96 q96 S96 Nn96 H96 G96 rfl W97 0 rfl (Nat.le_of_ble_eq_true rfl)
  have N97 := Fr.snoc X97 N92 ge94
  have O97 := Old.wr O94 W97 ge94
  have Z97 : n0 ≤ h97.size := Nat.le_trans Z94 (Nat.le_of_eq W97.size.symm)
  have V97' : Arv Z h97 b94 k94 .int (13 : Int32) [(.int (2147483647 : Int32)), (.int (0 : Int32)), (.int (0 : Int32)), (.int (0 : Int32)), (.int (0 : Int32)), (.int (0 : Int32)), (.int (0 : Int32)), (.int (0 : Int32)), (.int (0 : Int32)), (.int (0 : Int32)), (.int (0 : Int32)), (.int (0 : Int32)), (.int (0 : Int32))] (.int (0 : Int32)) := V97
  refine own_cs [(.ref b94)] 102 st97 ?_
  refine own_tp (.ref b94) 103 (fun _ q => XS.dup X97.here hx rfl (hb hby at_102) rfl rfl q) ?_
  refine own_tp (.int (1 : Int32)) 104 (fun _ q => XS.iconst X97.here hx rfl (hb hby at_103) q) ?_
  refine own_tp (.int (19 : Int32)) 106 (fun _ q => XS.bipush X97.here hx rfl (hb hby at_104) q) ?_
  obtain ⟨cl98, Ar98, q98, S98, Nn98, H98, G98⟩ := (id V97')
  have hin98 : ¬ ((1 : Int32) < 0 ∨ cl98.slots.size ≤ ((1 : Int32)).toNatClampNeg) := inb_of S98 ⟨by decide, by decide⟩
  obtain ⟨T99, h99, X99, e99, W99, st99⟩ := stI X97 hx hZ e97 Ar98 (j := (1 : Int32)) hin98 (g := (mkF m 106 L_93 [(.int (19 : Int32)), (.int (1 : Int32)), (.ref b94), (.ref b94)])) rfl rfl (hb hby at_106)
  have V99 := Arv.set Ar98 q98 S98 Nn98 H98 G98 rfl W99 1 rfl (Nat.le_of_ble_eq_true rfl)
  have N99 := Fr.snoc X99 N97 ge94
  have O99 := Old.wr O97 W99 ge94
  have Z99 : n0 ≤ h99.size := Nat.le_trans Z97 (Nat.le_of_eq W99.size.symm)
  have V99' : Arv Z h99 b94 k94 .int (13 : Int32) [(.int (2147483647 : Int32)), (.int (19 : Int32)), (.int (0 : Int32)), (.int (0 : Int32)), (.int (0 : Int32)), (.int (0 : Int32)), (.int (0 : Int32)), (.int (0 : Int32)), (.int (0 : Int32)), (.int (0 : Int32)), (.int (0 : Int32)), (.int (0 : Int32)), (.int (0 : Int32))] (.int (0 : Int32)) := V99
  refine own_cs [(.ref b94)] 107 st99 ?_
  refine own_tp (.ref b94) 108 (fun _ q => XS.dup X99.here hx rfl (hb hby at_107) rfl rfl q) ?_
  refine own_tp (.int (2 : Int32)) 109 (fun _ q => XS.iconst X99.here hx rfl (hb hby at_108) q) ?_
  refine own_tp (.int (10 : Int32)) 111 (fun _ q => XS.bipush X99.here hx rfl (hb hby at_109) q) ?_
  obtain ⟨cl100, Ar100, q100, S100, Nn100, H100, G100⟩ := (id V99')
  have hin100 : ¬ ((2 : Int32) < 0 ∨ cl100.slots.size ≤ ((2 : Int32)).toNatClampNeg) := inb_of S100 ⟨by decide, by decide⟩
  obtain ⟨T101, h101, X101, e101, W101, st101⟩ := stI X99 hx hZ e99 Ar100 (j := (2 : Int32)) hin100 (g := (mkF m 111 L_93 [(.int (10 : Int32)), (.int (2 : Int32)), (.ref b94), (.ref b94)])) rfl rfl (hb hby at_111)
  have V101 := Arv.set Ar100 q100 S100 Nn100 H100 G100 rfl W101 2 rfl (Nat.le_of_ble_eq_true rfl)
  have N101 := Fr.snoc X101 N99 ge94
  have O101 := Old.wr O99 W101 ge94
  have Z101 : n0 ≤ h101.size := Nat.le_trans Z99 (Nat.le_of_eq W101.size.symm)
  have V101' : Arv Z h101 b94 k94 .int (13 : Int32) [(.int (2147483647 : Int32)), (.int (19 : Int32)), (.int (10 : Int32)), (.int (0 : Int32)), (.int (0 : Int32)), (.int (0 : Int32)), (.int (0 : Int32)), (.int (0 : Int32)), (.int (0 : Int32)), (.int (0 : Int32)), (.int (0 : Int32)), (.int (0 : Int32)), (.int (0 : Int32))] (.int (0 : Int32)) := V101
  refine own_cs [(.ref b94)] 112 st101 ?_
  refine own_tp (.ref b94) 113 (fun _ q => XS.dup X101.here hx rfl (hb hby at_112) rfl rfl q) ?_
  refine own_tp (.int (3 : Int32)) 114 (fun _ q => XS.iconst X101.here hx rfl (hb hby at_113) q) ?_
  refine own_tp (.int (5 : Int32)) 115 (fun _ q => XS.iconst X101.here hx rfl (hb hby at_114) q) ?_
  obtain ⟨cl102, Ar102, q102, S102, Nn102, H102, G102⟩ := (id V101')
  have hin102 : ¬ ((3 : Int32) < 0 ∨ cl102.slots.size ≤ ((3 : Int32)).toNatClampNeg) := inb_of S102 ⟨by decide, by decide⟩
  obtain ⟨T103, h103, X103, e103, W103, st103⟩ := stI X101 hx hZ e101 Ar102 (j := (3 : Int32)) hin102 (g := (mkF m 115 L_93 [(.int (5 : Int32)), (.int (3 : Int32)), (.ref b94), (.ref b94)])) rfl rfl (hb hby at_115)
  have V103 := Arv.set Ar102 q102 S102 Nn102 H102 G102 rfl W103 3 rfl (Nat.le_of_ble_eq_true rfl)
  have N103 := Fr.snoc X103 N101 ge94
  have O103 := Old.wr O101 W103 ge94
  have Z103 : n0 ≤ h103.size := Nat.le_trans Z101 (Nat.le_of_eq W103.size.symm)
  have V103' : Arv Z h103 b94 k94 .int (13 : Int32) [(.int (2147483647 : Int32)), (.int (19 : Int32)), (.int (10 : Int32)), (.int (5 : Int32)), (.int (0 : Int32)), (.int (0 : Int32)), (.int (0 : Int32)), (.int (0 : Int32)), (.int (0 : Int32)), (.int (0 : Int32)), (.int (0 : Int32)), (.int (0 : Int32)), (.int (0 : Int32))] (.int (0 : Int32)) := V103
  refine own_cs [(.ref b94)] 116 st103 ?_
  refine own_tp (.ref b94) 117 (fun _ q => XS.dup X103.here hx rfl (hb hby at_116) rfl rfl q) ?_
  refine own_tp (.int (4 : Int32)) 118 (fun _ q => XS.iconst X103.here hx rfl (hb hby at_117) q) ?_
  refine own_tp (.int (3 : Int32)) 119 (fun _ q => XS.iconst X103.here hx rfl (hb hby at_118) q) ?_
  obtain ⟨cl104, Ar104, q104, S104, Nn104, H104, G104⟩ := (id V103')
  have hin104 : ¬ ((4 : Int32) < 0 ∨ cl104.slots.size ≤ ((4 : Int32)).toNatClampNeg) := inb_of S104 ⟨by decide, by decide⟩
  obtain ⟨T105, h105, X105, e105, W105, st105⟩ := stI X103 hx hZ e103 Ar104 (j := (4 : Int32)) hin104 (g := (mkF m 119 L_93 [(.int (3 : Int32)), (.int (4 : Int32)), (.ref b94), (.ref b94)])) rfl rfl (hb hby at_119)
  have V105 := Arv.set Ar104 q104 S104 Nn104 H104 G104 rfl W105 4 rfl (Nat.le_of_ble_eq_true rfl)
  have N105 := Fr.snoc X105 N103 ge94
  have O105 := Old.wr O103 W105 ge94
  have Z105 : n0 ≤ h105.size := Nat.le_trans Z103 (Nat.le_of_eq W105.size.symm)
  have V105' : Arv Z h105 b94 k94 .int (13 : Int32) [(.int (2147483647 : Int32)), (.int (19 : Int32)), (.int (10 : Int32)), (.int (5 : Int32)), (.int (3 : Int32)), (.int (0 : Int32)), (.int (0 : Int32)), (.int (0 : Int32)), (.int (0 : Int32)), (.int (0 : Int32)), (.int (0 : Int32)), (.int (0 : Int32)), (.int (0 : Int32))] (.int (0 : Int32)) := V105
  refine own_cs [(.ref b94)] 120 st105 ?_
  refine own_tp (.ref b94) 121 (fun _ q => XS.dup X105.here hx rfl (hb hby at_120) rfl rfl q) ?_
  refine own_tp (.int (5 : Int32)) 122 (fun _ q => XS.iconst X105.here hx rfl (hb hby at_121) q) ?_
  refine own_tp (.int (1 : Int32)) 123 (fun _ q => XS.iconst X105.here hx rfl (hb hby at_122) q) ?_
  obtain ⟨cl106, Ar106, q106, S106, Nn106, H106, G106⟩ := (id V105')
  have hin106 : ¬ ((5 : Int32) < 0 ∨ cl106.slots.size ≤ ((5 : Int32)).toNatClampNeg) := inb_of S106 ⟨by decide, by decide⟩
  obtain ⟨T107, h107, X107, e107, W107, st107⟩ := stI X105 hx hZ e105 Ar106 (j := (5 : Int32)) hin106 (g := (mkF m 123 L_93 [(.int (1 : Int32)), (.int (5 : Int32)), (.ref b94), (.ref b94)])) rfl rfl (hb hby at_123)
  have V107 := Arv.set Ar106 q106 S106 Nn106 H106 G106 rfl W107 5 rfl (Nat.le_of_ble_eq_true rfl)
  have N107 := Fr.snoc X107 N105 ge94
  have O107 := Old.wr O105 W107 ge94
  have Z107 : n0 ≤ h107.size := Nat.le_trans Z105 (Nat.le_of_eq W107.size.symm)
  have V107' : Arv Z h107 b94 k94 .int (13 : Int32) [(.int (2147483647 : Int32)), (.int (19 : Int32)), (.int (10 : Int32)), (.int (5 : Int32)), (.int (3 : Int32)), (.int (1 : Int32)), (.int (0 : Int32)), (.int (0 : Int32)), (.int (0 : Int32)), (.int (0 : Int32)), (.int (0 : Int32)), (.int (0 : Int32)), (.int (0 : Int32))] (.int (0 : Int32)) := V107
  refine own_cs [(.ref b94)] 124 st107 ?_
  refine own_tp (.ref b94) 125 (fun _ q => XS.dup X107.here hx rfl (hb hby at_124) rfl rfl q) ?_
  refine own_tp (.int (6 : Int32)) 127 (fun _ q => XS.bipush X107.here hx rfl (hb hby at_125) q) ?_
  refine own_tp (.int (1 : Int32)) 128 (fun _ q => XS.iconst X107.here hx rfl (hb hby at_127) q) ?_
  obtain ⟨cl108, Ar108, q108, S108, Nn108, H108, G108⟩ := (id V107')
  have hin108 : ¬ ((6 : Int32) < 0 ∨ cl108.slots.size ≤ ((6 : Int32)).toNatClampNeg) := inb_of S108 ⟨by decide, by decide⟩
  obtain ⟨T109, h109, X109, e109, W109, st109⟩ := stI X107 hx hZ e107 Ar108 (j := (6 : Int32)) hin108 (g := (mkF m 128 L_93 [(.int (1 : Int32)), (.int (6 : Int32)), (.ref b94), (.ref b94)])) rfl rfl (hb hby at_128)
  have V109 := Arv.set Ar108 q108 S108 Nn108 H108 G108 rfl W109 6 rfl (Nat.le_of_ble_eq_true rfl)
  have N109 := Fr.snoc X109 N107 ge94
  have O109 := Old.wr O107 W109 ge94
  have Z109 : n0 ≤ h109.size := Nat.le_trans Z107 (Nat.le_of_eq W109.size.symm)
  have V109' : Arv Z h109 b94 k94 .int (13 : Int32) [(.int (2147483647 : Int32)), (.int (19 : Int32)), (.int (10 : Int32)), (.int (5 : Int32)), (.int (3 : Int32)), (.int (1 : Int32)), (.int (1 : Int32)), (.int (0 : Int32)), (.int (0 : Int32)), (.int (0 : Int32)), (.int (0 : Int32)), (.int (0 : Int32)), (.int (0 : Int32))] (.int (0 : Int32)) := V109
  refine own_cs [(.ref b94)] 129 st109 ?_
  refine own_tp (.ref b94) 130 (fun _ q => XS.dup X109.here hx rfl (hb hby at_129) rfl rfl q) ?_
  refine own_tp (.int (7 : Int32)) 132 (fun _ q => XS.bipush X109.here hx rfl (hb hby at_130) q) ?_
  refine own_tp (.int (1 : Int32)) 133 (fun _ q => XS.iconst X109.here hx rfl (hb hby at_132) q) ?_
  obtain ⟨cl110, Ar110, q110, S110, Nn110, H110, G110⟩ := (id V109')
  have hin110 : ¬ ((7 : Int32) < 0 ∨ cl110.slots.size ≤ ((7 : Int32)).toNatClampNeg) := inb_of S110 ⟨by decide, by decide⟩
  obtain ⟨T111, h111, X111, e111, W111, st111⟩ := stI X109 hx hZ e109 Ar110 (j := (7 : Int32)) hin110 (g := (mkF m 133 L_93 [(.int (1 : Int32)), (.int (7 : Int32)), (.ref b94), (.ref b94)])) rfl rfl (hb hby at_133)
  have V111 := Arv.set Ar110 q110 S110 Nn110 H110 G110 rfl W111 7 rfl (Nat.le_of_ble_eq_true rfl)
  have N111 := Fr.snoc X111 N109 ge94
  have O111 := Old.wr O109 W111 ge94
  have Z111 : n0 ≤ h111.size := Nat.le_trans Z109 (Nat.le_of_eq W111.size.symm)
  have V111' : Arv Z h111 b94 k94 .int (13 : Int32) [(.int (2147483647 : Int32)), (.int (19 : Int32)), (.int (10 : Int32)), (.int (5 : Int32)), (.int (3 : Int32)), (.int (1 : Int32)), (.int (1 : Int32)), (.int (1 : Int32)), (.int (0 : Int32)), (.int (0 : Int32)), (.int (0 : Int32)), (.int (0 : Int32)), (.int (0 : Int32))] (.int (0 : Int32)) := V111
  refine own_cs [(.ref b94)] 134 st111 ?_
  refine own_tp (.ref b94) 135 (fun _ q => XS.dup X111.here hx rfl (hb hby at_134) rfl rfl q) ?_
  refine own_tp (.int (8 : Int32)) 137 (fun _ q => XS.bipush X111.here hx rfl (hb hby at_135) q) ?_
  refine own_tp (.int (1 : Int32)) 138 (fun _ q => XS.iconst X111.here hx rfl (hb hby at_137) q) ?_
  obtain ⟨cl112, Ar112, q112, S112, Nn112, H112, G112⟩ := (id V111')
  have hin112 : ¬ ((8 : Int32) < 0 ∨ cl112.slots.size ≤ ((8 : Int32)).toNatClampNeg) := inb_of S112 ⟨by decide, by decide⟩
  obtain ⟨T113, h113, X113, e113, W113, st113⟩ := stI X111 hx hZ e111 Ar112 (j := (8 : Int32)) hin112 (g := (mkF m 138 L_93 [(.int (1 : Int32)), (.int (8 : Int32)), (.ref b94), (.ref b94)])) rfl rfl (hb hby at_138)
  have V113 := Arv.set Ar112 q112 S112 Nn112 H112 G112 rfl W113 8 rfl (Nat.le_of_ble_eq_true rfl)
  have N113 := Fr.snoc X113 N111 ge94
  have O113 := Old.wr O111 W113 ge94
  have Z113 : n0 ≤ h113.size := Nat.le_trans Z111 (Nat.le_of_eq W113.size.symm)
  have V113' : Arv Z h113 b94 k94 .int (13 : Int32) [(.int (2147483647 : Int32)), (.int (19 : Int32)), (.int (10 : Int32)), (.int (5 : Int32)), (.int (3 : Int32)), (.int (1 : Int32)), (.int (1 : Int32)), (.int (1 : Int32)), (.int (1 : Int32)), (.int (0 : Int32)), (.int (0 : Int32)), (.int (0 : Int32)), (.int (0 : Int32))] (.int (0 : Int32)) := V113
  refine own_cs [(.ref b94)] 139 st113 ?_
  refine own_tp (.ref b94) 140 (fun _ q => XS.dup X113.here hx rfl (hb hby at_139) rfl rfl q) ?_
  refine own_tp (.int (9 : Int32)) 142 (fun _ q => XS.bipush X113.here hx rfl (hb hby at_140) q) ?_
  refine own_tp (.int (1 : Int32)) 143 (fun _ q => XS.iconst X113.here hx rfl (hb hby at_142) q) ?_
  obtain ⟨cl114, Ar114, q114, S114, Nn114, H114, G114⟩ := (id V113')
  have hin114 : ¬ ((9 : Int32) < 0 ∨ cl114.slots.size ≤ ((9 : Int32)).toNatClampNeg) := inb_of S114 ⟨by decide, by decide⟩
  obtain ⟨T115, h115, X115, e115, W115, st115⟩ := stI X113 hx hZ e113 Ar114 (j := (9 : Int32)) hin114 (g := (mkF m 143 L_93 [(.int (1 : Int32)), (.int (9 : Int32)), (.ref b94), (.ref b94)])) rfl rfl (hb hby at_143)
  have V115 := Arv.set Ar114 q114 S114 Nn114 H114 G114 rfl W115 9 rfl (Nat.le_of_ble_eq_true rfl)
  have N115 := Fr.snoc X115 N113 ge94
  have O115 := Old.wr O113 W115 ge94
  have Z115 : n0 ≤ h115.size := Nat.le_trans Z113 (Nat.le_of_eq W115.size.symm)
  have V115' : Arv Z h115 b94 k94 .int (13 : Int32) [(.int (2147483647 : Int32)), (.int (19 : Int32)), (.int (10 : Int32)), (.int (5 : Int32)), (.int (3 : Int32)), (.int (1 : Int32)), (.int (1 : Int32)), (.int (1 : Int32)), (.int (1 : Int32)), (.int (1 : Int32)), (.int (0 : Int32)), (.int (0 : Int32)), (.int (0 : Int32))] (.int (0 : Int32)) := V115
  refine own_cs [(.ref b94)] 144 st115 ?_
  refine own_tp (.ref b94) 145 (fun _ q => XS.dup X115.here hx rfl (hb hby at_144) rfl rfl q) ?_
  refine own_tp (.int (10 : Int32)) 147 (fun _ q => XS.bipush X115.here hx rfl (hb hby at_145) q) ?_
  refine own_tp (.int (1 : Int32)) 148 (fun _ q => XS.iconst X115.here hx rfl (hb hby at_147) q) ?_
  obtain ⟨cl116, Ar116, q116, S116, Nn116, H116, G116⟩ := (id V115')
  have hin116 : ¬ ((10 : Int32) < 0 ∨ cl116.slots.size ≤ ((10 : Int32)).toNatClampNeg) := inb_of S116 ⟨by decide, by decide⟩
  obtain ⟨T117, h117, X117, e117, W117, st117⟩ := stI X115 hx hZ e115 Ar116 (j := (10 : Int32)) hin116 (g := (mkF m 148 L_93 [(.int (1 : Int32)), (.int (10 : Int32)), (.ref b94), (.ref b94)])) rfl rfl (hb hby at_148)
  have V117 := Arv.set Ar116 q116 S116 Nn116 H116 G116 rfl W117 10 rfl (Nat.le_of_ble_eq_true rfl)
  have N117 := Fr.snoc X117 N115 ge94
  have O117 := Old.wr O115 W117 ge94
  have Z117 : n0 ≤ h117.size := Nat.le_trans Z115 (Nat.le_of_eq W117.size.symm)
  have V117' : Arv Z h117 b94 k94 .int (13 : Int32) [(.int (2147483647 : Int32)), (.int (19 : Int32)), (.int (10 : Int32)), (.int (5 : Int32)), (.int (3 : Int32)), (.int (1 : Int32)), (.int (1 : Int32)), (.int (1 : Int32)), (.int (1 : Int32)), (.int (1 : Int32)), (.int (1 : Int32)), (.int (0 : Int32)), (.int (0 : Int32))] (.int (0 : Int32)) := V117
  refine own_cs [(.ref b94)] 149 st117 ?_
  refine own_tp (.ref b94) 150 (fun _ q => XS.dup X117.here hx rfl (hb hby at_149) rfl rfl q) ?_
  refine own_tp (.int (11 : Int32)) 152 (fun _ q => XS.bipush X117.here hx rfl (hb hby at_150) q) ?_
  refine own_tp (.int (2147483647 : Int32)) 153 (fun _ q => XS.iloadN X117.here hx rfl (hb hby at_152) rfl q) ?_
  obtain ⟨cl118, Ar118, q118, S118, Nn118, H118, G118⟩ := (id V117')
  have hin118 : ¬ ((11 : Int32) < 0 ∨ cl118.slots.size ≤ ((11 : Int32)).toNatClampNeg) := inb_of S118 ⟨by decide, by decide⟩
  obtain ⟨T119, h119, X119, e119, W119, st119⟩ := stI X117 hx hZ e117 Ar118 (j := (11 : Int32)) hin118 (g := (mkF m 153 L_93 [(.int (2147483647 : Int32)), (.int (11 : Int32)), (.ref b94), (.ref b94)])) rfl rfl (hb hby at_153)
  have V119 := Arv.set Ar118 q118 S118 Nn118 H118 G118 rfl W119 11 rfl (Nat.le_of_ble_eq_true rfl)
  have N119 := Fr.snoc X119 N117 ge94
  have O119 := Old.wr O117 W119 ge94
  have Z119 : n0 ≤ h119.size := Nat.le_trans Z117 (Nat.le_of_eq W119.size.symm)
  have V119' : Arv Z h119 b94 k94 .int (13 : Int32) [(.int (2147483647 : Int32)), (.int (19 : Int32)), (.int (10 : Int32)), (.int (5 : Int32)), (.int (3 : Int32)), (.int (1 : Int32)), (.int (1 : Int32)), (.int (1 : Int32)), (.int (1 : Int32)), (.int (1 : Int32)), (.int (1 : Int32)), (.int (2147483647 : Int32)), (.int (0 : Int32))] (.int (0 : Int32)) := V119
  refine own_cs [(.ref b94)] 154 st119 ?_
  refine own_tp (.ref b94) 155 (fun _ q => XS.dup X119.here hx rfl (hb hby at_154) rfl rfl q) ?_
  refine own_tp (.int (12 : Int32)) 157 (fun _ q => XS.bipush X119.here hx rfl (hb hby at_155) q) ?_
  refine own_tp (.int (2147483647 : Int32)) 158 (fun _ q => XS.iloadN X119.here hx rfl (hb hby at_157) rfl q) ?_
  obtain ⟨cl120, Ar120, q120, S120, Nn120, H120, G120⟩ := (id V119')
  have hin120 : ¬ ((12 : Int32) < 0 ∨ cl120.slots.size ≤ ((12 : Int32)).toNatClampNeg) := inb_of S120 ⟨by decide, by decide⟩
  obtain ⟨T121, h121, X121, e121, W121, st121⟩ := stI X119 hx hZ e119 Ar120 (j := (12 : Int32)) hin120 (g := (mkF m 158 L_93 [(.int (2147483647 : Int32)), (.int (12 : Int32)), (.ref b94), (.ref b94)])) rfl rfl (hb hby at_158)
  have V121 := Arv.set Ar120 q120 S120 Nn120 H120 G120 rfl W121 12 rfl (Nat.le_of_ble_eq_true rfl)
  have N121 := Fr.snoc X121 N119 ge94
  have O121 := Old.wr O119 W121 ge94
  have Z121 : n0 ≤ h121.size := Nat.le_trans Z119 (Nat.le_of_eq W121.size.symm)
  have V121' : Arv Z h121 b94 k94 .int (13 : Int32) [(.int (2147483647 : Int32)), (.int (19 : Int32)), (.int (10 : Int32)), (.int (5 : Int32)), (.int (3 : Int32)), (.int (1 : Int32)), (.int (1 : Int32)), (.int (1 : Int32)), (.int (1 : Int32)), (.int (1 : Int32)), (.int (1 : Int32)), (.int (2147483647 : Int32)), (.int (2147483647 : Int32))] (.int (0 : Int32)) := V121
  refine own_cs [(.ref b94)] 159 st121 ?_
  let L_122 : Array Slot := #[.val (.int p0), .val (.int p1), .val (.int (2147483647 : Int32)), .val (.ref b53), .val (.ref b94), .unset, .unset, .unset, .unset]
  refine own_ls L_122 161 (fun _ q => XS.astore X121.here hx rfl (hb hby at_159) rfl rfl (l' := L_122) rfl q) ?_
  refine own_tp (.int (13 : Int32)) 163 (fun _ q => XS.bipush X121.here hx rfl (hb hby at_161) q) ?_
  obtain ⟨T123, h123, k123, X123, e123, E123, A123, st123⟩ := newP X121 hx hZ (hw _ (List.mem_of_getElem? (i := 31) rfl)) e121 (g := (mkF m 163 L_122 [(.int (13 : Int32))])) rfl (hb hby at_163) rfl (by decide) (cap := 13) (by decide) (by decide) (by decide) (by decide)
  obtain ⟨b123, g123⟩ : ∃ z, z = h121.size := ⟨_, rfl⟩
  rw [← g123] at A123 st123
  have V123 : Arv Z h123 b123 k123 .int (13 : Int32) [(.int (0 : Int32)), (.int (0 : Int32)), (.int (0 : Int32)), (.int (0 : Int32)), (.int (0 : Int32)), (.int (0 : Int32)), (.int (0 : Int32)), (.int (0 : Int32)), (.int (0 : Int32)), (.int (0 : Int32)), (.int (0 : Int32)), (.int (0 : Int32)), (.int (0 : Int32))] (.int (0 : Int32)) := (Arv.new A123 (by decide)).pad (pad_rep [] (.int (0 : Int32)) 13)
  have ge123 : n0 ≤ b123 := Nat.le_trans Z121 (Nat.le_of_eq g123.symm)
  have f125 := ((((((((((((((V92'.ext E94).other W97 ne95).other W99 ne95).other W101 ne95).other W103 ne95).other W105 ne95).other W107 ne95).other W109 ne95).other W111 ne95).other W113 ne95).other W115 ne95).other W117 ne95).other W119 ne95).other W121 ne95)
  have ne124 : b53 ≠ b123 := Nat.ne_of_lt (Nat.lt_of_lt_of_le f125.lt (Nat.le_of_eq g123.symm))
  have ne126 : b94 ≠ b123 := Nat.ne_of_lt (Nat.lt_of_lt_of_le V121'.lt (Nat.le_of_eq g123.symm))
  have O123 := Old.ext O121 E123
  have Z123 : n0 ≤ h123.size := Nat.le_trans Z121 E123.1
  refine own_t1 (.ref b123) 165 st123 ?_
  refine own_tp (.ref b123) 166 (fun _ q => XS.dup X123.here hx rfl (hb hby at_165) rfl rfl q) ?_
  refine own_tp (.int (0 : Int32)) 167 (fun _ q => XS.iconst X123.here hx rfl (hb hby at_166) q) ?_
  refine own_tp (.int (2147483647 : Int32)) 168 (fun _ q => XS.iloadN X123.here hx rfl (hb hby at_167) rfl q) ?_
  obtain ⟨cl127, Ar127, q127, S127, Nn127, H127, G127⟩ := (id V123)
  have hin127 : ¬ ((0 : Int32) < 0 ∨ cl127.slots.size ≤ ((0 : Int32)).toNatClampNeg) := inb_of S127 ⟨by decide, by decide⟩
  obtain ⟨T128, h128, X128, e128, W128, st128⟩ := stI X123 hx hZ e123 Ar127 (j := (0 : Int32)) hin127 (g := (mkF m 168 L_122 [(.int (2147483647 : Int32)), (.int (0 : Int32)), (.ref b123), (.ref b123)])) rfl rfl (hb hby at_168)
  have V128 := Arv.set Ar127 q127 S127 Nn127 H127 G127 rfl W128 0 rfl (Nat.le_of_ble_eq_true rfl)
  have N128 := Fr.snoc X128 N121 ge123
  have O128 := Old.wr O123 W128 ge123
  have Z128 : n0 ≤ h128.size := Nat.le_trans Z123 (Nat.le_of_eq W128.size.symm)
  have V128' : Arv Z h128 b123 k123 .int (13 : Int32) [(.int (2147483647 : Int32)), (.int (0 : Int32)), (.int (0 : Int32)), (.int (0 : Int32)), (.int (0 : Int32)), (.int (0 : Int32)), (.int (0 : Int32)), (.int (0 : Int32)), (.int (0 : Int32)), (.int (0 : Int32)), (.int (0 : Int32)), (.int (0 : Int32)), (.int (0 : Int32))] (.int (0 : Int32)) := V128
  refine own_cs [(.ref b123)] 169 st128 ?_
  refine own_tp (.ref b123) 170 (fun _ q => XS.dup X128.here hx rfl (hb hby at_169) rfl rfl q) ?_
  refine own_tp (.int (1 : Int32)) 171 (fun _ q => XS.iconst X128.here hx rfl (hb hby at_170) q) ?_
  refine own_tp (.int (19 : Int32)) 173 (fun _ q => XS.bipush X128.here hx rfl (hb hby at_171) q) ?_
  obtain ⟨cl129, Ar129, q129, S129, Nn129, H129, G129⟩ := (id V128')
  have hin129 : ¬ ((1 : Int32) < 0 ∨ cl129.slots.size ≤ ((1 : Int32)).toNatClampNeg) := inb_of S129 ⟨by decide, by decide⟩
  obtain ⟨T130, h130, X130, e130, W130, st130⟩ := stI X128 hx hZ e128 Ar129 (j := (1 : Int32)) hin129 (g := (mkF m 173 L_122 [(.int (19 : Int32)), (.int (1 : Int32)), (.ref b123), (.ref b123)])) rfl rfl (hb hby at_173)
  have V130 := Arv.set Ar129 q129 S129 Nn129 H129 G129 rfl W130 1 rfl (Nat.le_of_ble_eq_true rfl)
  have N130 := Fr.snoc X130 N128 ge123
  have O130 := Old.wr O128 W130 ge123
  have Z130 : n0 ≤ h130.size := Nat.le_trans Z128 (Nat.le_of_eq W130.size.symm)
  have V130' : Arv Z h130 b123 k123 .int (13 : Int32) [(.int (2147483647 : Int32)), (.int (19 : Int32)), (.int (0 : Int32)), (.int (0 : Int32)), (.int (0 : Int32)), (.int (0 : Int32)), (.int (0 : Int32)), (.int (0 : Int32)), (.int (0 : Int32)), (.int (0 : Int32)), (.int (0 : Int32)), (.int (0 : Int32)), (.int (0 : Int32))] (.int (0 : Int32)) := V130
  refine own_cs [(.ref b123)] 174 st130 ?_
  refine own_tp (.ref b123) 175 (fun _ q => XS.dup X130.here hx rfl (hb hby at_174) rfl rfl q) ?_
  refine own_tp (.int (2 : Int32)) 176 (fun _ q => XS.iconst X130.here hx rfl (hb hby at_175) q) ?_
  refine own_tp (.int (10 : Int32)) 178 (fun _ q => XS.bipush X130.here hx rfl (hb hby at_176) q) ?_
  obtain ⟨cl131, Ar131, q131, S131, Nn131, H131, G131⟩ := (id V130')
  have hin131 : ¬ ((2 : Int32) < 0 ∨ cl131.slots.size ≤ ((2 : Int32)).toNatClampNeg) := inb_of S131 ⟨by decide, by decide⟩
  obtain ⟨T132, h132, X132, e132, W132, st132⟩ := stI X130 hx hZ e130 Ar131 (j := (2 : Int32)) hin131 (g := (mkF m 178 L_122 [(.int (10 : Int32)), (.int (2 : Int32)), (.ref b123), (.ref b123)])) rfl rfl (hb hby at_178)
  have V132 := Arv.set Ar131 q131 S131 Nn131 H131 G131 rfl W132 2 rfl (Nat.le_of_ble_eq_true rfl)
  have N132 := Fr.snoc X132 N130 ge123
  have O132 := Old.wr O130 W132 ge123
  have Z132 : n0 ≤ h132.size := Nat.le_trans Z130 (Nat.le_of_eq W132.size.symm)
  have V132' : Arv Z h132 b123 k123 .int (13 : Int32) [(.int (2147483647 : Int32)), (.int (19 : Int32)), (.int (10 : Int32)), (.int (0 : Int32)), (.int (0 : Int32)), (.int (0 : Int32)), (.int (0 : Int32)), (.int (0 : Int32)), (.int (0 : Int32)), (.int (0 : Int32)), (.int (0 : Int32)), (.int (0 : Int32)), (.int (0 : Int32))] (.int (0 : Int32)) := V132
  refine own_cs [(.ref b123)] 179 st132 ?_
  refine own_tp (.ref b123) 180 (fun _ q => XS.dup X132.here hx rfl (hb hby at_179) rfl rfl q) ?_
  refine own_tp (.int (3 : Int32)) 181 (fun _ q => XS.iconst X132.here hx rfl (hb hby at_180) q) ?_
  refine own_tp (.int (5 : Int32)) 182 (fun _ q => XS.iconst X132.here hx rfl (hb hby at_181) q) ?_
  obtain ⟨cl133, Ar133, q133, S133, Nn133, H133, G133⟩ := (id V132')
  have hin133 : ¬ ((3 : Int32) < 0 ∨ cl133.slots.size ≤ ((3 : Int32)).toNatClampNeg) := inb_of S133 ⟨by decide, by decide⟩
  obtain ⟨T134, h134, X134, e134, W134, st134⟩ := stI X132 hx hZ e132 Ar133 (j := (3 : Int32)) hin133 (g := (mkF m 182 L_122 [(.int (5 : Int32)), (.int (3 : Int32)), (.ref b123), (.ref b123)])) rfl rfl (hb hby at_182)
  have V134 := Arv.set Ar133 q133 S133 Nn133 H133 G133 rfl W134 3 rfl (Nat.le_of_ble_eq_true rfl)
  have N134 := Fr.snoc X134 N132 ge123
  have O134 := Old.wr O132 W134 ge123
  have Z134 : n0 ≤ h134.size := Nat.le_trans Z132 (Nat.le_of_eq W134.size.symm)
  have V134' : Arv Z h134 b123 k123 .int (13 : Int32) [(.int (2147483647 : Int32)), (.int (19 : Int32)), (.int (10 : Int32)), (.int (5 : Int32)), (.int (0 : Int32)), (.int (0 : Int32)), (.int (0 : Int32)), (.int (0 : Int32)), (.int (0 : Int32)), (.int (0 : Int32)), (.int (0 : Int32)), (.int (0 : Int32)), (.int (0 : Int32))] (.int (0 : Int32)) := V134
  refine own_cs [(.ref b123)] 183 st134 ?_
  refine own_tp (.ref b123) 184 (fun _ q => XS.dup X134.here hx rfl (hb hby at_183) rfl rfl q) ?_
  refine own_tp (.int (4 : Int32)) 185 (fun _ q => XS.iconst X134.here hx rfl (hb hby at_184) q) ?_
  refine own_tp (.int (3 : Int32)) 186 (fun _ q => XS.iconst X134.here hx rfl (hb hby at_185) q) ?_
  obtain ⟨cl135, Ar135, q135, S135, Nn135, H135, G135⟩ := (id V134')
  have hin135 : ¬ ((4 : Int32) < 0 ∨ cl135.slots.size ≤ ((4 : Int32)).toNatClampNeg) := inb_of S135 ⟨by decide, by decide⟩
  obtain ⟨T136, h136, X136, e136, W136, st136⟩ := stI X134 hx hZ e134 Ar135 (j := (4 : Int32)) hin135 (g := (mkF m 186 L_122 [(.int (3 : Int32)), (.int (4 : Int32)), (.ref b123), (.ref b123)])) rfl rfl (hb hby at_186)
  have V136 := Arv.set Ar135 q135 S135 Nn135 H135 G135 rfl W136 4 rfl (Nat.le_of_ble_eq_true rfl)
  have N136 := Fr.snoc X136 N134 ge123
  have O136 := Old.wr O134 W136 ge123
  have Z136 : n0 ≤ h136.size := Nat.le_trans Z134 (Nat.le_of_eq W136.size.symm)
  have V136' : Arv Z h136 b123 k123 .int (13 : Int32) [(.int (2147483647 : Int32)), (.int (19 : Int32)), (.int (10 : Int32)), (.int (5 : Int32)), (.int (3 : Int32)), (.int (0 : Int32)), (.int (0 : Int32)), (.int (0 : Int32)), (.int (0 : Int32)), (.int (0 : Int32)), (.int (0 : Int32)), (.int (0 : Int32)), (.int (0 : Int32))] (.int (0 : Int32)) := V136
  refine own_cs [(.ref b123)] 187 st136 ?_
  refine own_tp (.ref b123) 188 (fun _ q => XS.dup X136.here hx rfl (hb hby at_187) rfl rfl q) ?_
  refine own_tp (.int (5 : Int32)) 189 (fun _ q => XS.iconst X136.here hx rfl (hb hby at_188) q) ?_
  refine own_tp (.int (20 : Int32)) 191 (fun _ q => XS.bipush X136.here hx rfl (hb hby at_189) q) ?_
  obtain ⟨cl137, Ar137, q137, S137, Nn137, H137, G137⟩ := (id V136')
  have hin137 : ¬ ((5 : Int32) < 0 ∨ cl137.slots.size ≤ ((5 : Int32)).toNatClampNeg) := inb_of S137 ⟨by decide, by decide⟩
  obtain ⟨T138, h138, X138, e138, W138, st138⟩ := stI X136 hx hZ e136 Ar137 (j := (5 : Int32)) hin137 (g := (mkF m 191 L_122 [(.int (20 : Int32)), (.int (5 : Int32)), (.ref b123), (.ref b123)])) rfl rfl (hb hby at_191)
  have V138 := Arv.set Ar137 q137 S137 Nn137 H137 G137 rfl W138 5 rfl (Nat.le_of_ble_eq_true rfl)
  have N138 := Fr.snoc X138 N136 ge123
  have O138 := Old.wr O136 W138 ge123
  have Z138 : n0 ≤ h138.size := Nat.le_trans Z136 (Nat.le_of_eq W138.size.symm)
  have V138' : Arv Z h138 b123 k123 .int (13 : Int32) [(.int (2147483647 : Int32)), (.int (19 : Int32)), (.int (10 : Int32)), (.int (5 : Int32)), (.int (3 : Int32)), (.int (20 : Int32)), (.int (0 : Int32)), (.int (0 : Int32)), (.int (0 : Int32)), (.int (0 : Int32)), (.int (0 : Int32)), (.int (0 : Int32)), (.int (0 : Int32))] (.int (0 : Int32)) := V138
  refine own_cs [(.ref b123)] 192 st138 ?_
  refine own_tp (.ref b123) 193 (fun _ q => XS.dup X138.here hx rfl (hb hby at_192) rfl rfl q) ?_
  refine own_tp (.int (6 : Int32)) 195 (fun _ q => XS.bipush X138.here hx rfl (hb hby at_193) q) ?_
  refine own_tp (.int (10 : Int32)) 197 (fun _ q => XS.bipush X138.here hx rfl (hb hby at_195) q) ?_
  obtain ⟨cl139, Ar139, q139, S139, Nn139, H139, G139⟩ := (id V138')
  have hin139 : ¬ ((6 : Int32) < 0 ∨ cl139.slots.size ≤ ((6 : Int32)).toNatClampNeg) := inb_of S139 ⟨by decide, by decide⟩
  obtain ⟨T140, h140, X140, e140, W140, st140⟩ := stI X138 hx hZ e138 Ar139 (j := (6 : Int32)) hin139 (g := (mkF m 197 L_122 [(.int (10 : Int32)), (.int (6 : Int32)), (.ref b123), (.ref b123)])) rfl rfl (hb hby at_197)
  have V140 := Arv.set Ar139 q139 S139 Nn139 H139 G139 rfl W140 6 rfl (Nat.le_of_ble_eq_true rfl)
  have N140 := Fr.snoc X140 N138 ge123
  have O140 := Old.wr O138 W140 ge123
  have Z140 : n0 ≤ h140.size := Nat.le_trans Z138 (Nat.le_of_eq W140.size.symm)
  have V140' : Arv Z h140 b123 k123 .int (13 : Int32) [(.int (2147483647 : Int32)), (.int (19 : Int32)), (.int (10 : Int32)), (.int (5 : Int32)), (.int (3 : Int32)), (.int (20 : Int32)), (.int (10 : Int32)), (.int (0 : Int32)), (.int (0 : Int32)), (.int (0 : Int32)), (.int (0 : Int32)), (.int (0 : Int32)), (.int (0 : Int32))] (.int (0 : Int32)) := V140
  refine own_cs [(.ref b123)] 198 st140 ?_
  refine own_tp (.ref b123) 199 (fun _ q => XS.dup X140.here hx rfl (hb hby at_198) rfl rfl q) ?_
  refine own_tp (.int (7 : Int32)) 201 (fun _ q => XS.bipush X140.here hx rfl (hb hby at_199) q) ?_
  refine own_tp (.int (5 : Int32)) 202 (fun _ q => XS.iconst X140.here hx rfl (hb hby at_201) q) ?_
  obtain ⟨cl141, Ar141, q141, S141, Nn141, H141, G141⟩ := (id V140')
  have hin141 : ¬ ((7 : Int32) < 0 ∨ cl141.slots.size ≤ ((7 : Int32)).toNatClampNeg) := inb_of S141 ⟨by decide, by decide⟩
  obtain ⟨T142, h142, X142, e142, W142, st142⟩ := stI X140 hx hZ e140 Ar141 (j := (7 : Int32)) hin141 (g := (mkF m 202 L_122 [(.int (5 : Int32)), (.int (7 : Int32)), (.ref b123), (.ref b123)])) rfl rfl (hb hby at_202)
  have V142 := Arv.set Ar141 q141 S141 Nn141 H141 G141 rfl W142 7 rfl (Nat.le_of_ble_eq_true rfl)
  have N142 := Fr.snoc X142 N140 ge123
  have O142 := Old.wr O140 W142 ge123
  have Z142 : n0 ≤ h142.size := Nat.le_trans Z140 (Nat.le_of_eq W142.size.symm)
  have V142' : Arv Z h142 b123 k123 .int (13 : Int32) [(.int (2147483647 : Int32)), (.int (19 : Int32)), (.int (10 : Int32)), (.int (5 : Int32)), (.int (3 : Int32)), (.int (20 : Int32)), (.int (10 : Int32)), (.int (5 : Int32)), (.int (0 : Int32)), (.int (0 : Int32)), (.int (0 : Int32)), (.int (0 : Int32)), (.int (0 : Int32))] (.int (0 : Int32)) := V142
  refine own_cs [(.ref b123)] 203 st142 ?_
  refine own_tp (.ref b123) 204 (fun _ q => XS.dup X142.here hx rfl (hb hby at_203) rfl rfl q) ?_
  refine own_tp (.int (8 : Int32)) 206 (fun _ q => XS.bipush X142.here hx rfl (hb hby at_204) q) ?_
  refine own_tp (.int (3 : Int32)) 207 (fun _ q => XS.iconst X142.here hx rfl (hb hby at_206) q) ?_
  obtain ⟨cl143, Ar143, q143, S143, Nn143, H143, G143⟩ := (id V142')
  have hin143 : ¬ ((8 : Int32) < 0 ∨ cl143.slots.size ≤ ((8 : Int32)).toNatClampNeg) := inb_of S143 ⟨by decide, by decide⟩
  obtain ⟨T144, h144, X144, e144, W144, st144⟩ := stI X142 hx hZ e142 Ar143 (j := (8 : Int32)) hin143 (g := (mkF m 207 L_122 [(.int (3 : Int32)), (.int (8 : Int32)), (.ref b123), (.ref b123)])) rfl rfl (hb hby at_207)
  have V144 := Arv.set Ar143 q143 S143 Nn143 H143 G143 rfl W144 8 rfl (Nat.le_of_ble_eq_true rfl)
  have N144 := Fr.snoc X144 N142 ge123
  have O144 := Old.wr O142 W144 ge123
  have Z144 : n0 ≤ h144.size := Nat.le_trans Z142 (Nat.le_of_eq W144.size.symm)
  have V144' : Arv Z h144 b123 k123 .int (13 : Int32) [(.int (2147483647 : Int32)), (.int (19 : Int32)), (.int (10 : Int32)), (.int (5 : Int32)), (.int (3 : Int32)), (.int (20 : Int32)), (.int (10 : Int32)), (.int (5 : Int32)), (.int (3 : Int32)), (.int (0 : Int32)), (.int (0 : Int32)), (.int (0 : Int32)), (.int (0 : Int32))] (.int (0 : Int32)) := V144
  refine own_cs [(.ref b123)] 208 st144 ?_
  refine own_tp (.ref b123) 209 (fun _ q => XS.dup X144.here hx rfl (hb hby at_208) rfl rfl q) ?_
  refine own_tp (.int (9 : Int32)) 211 (fun _ q => XS.bipush X144.here hx rfl (hb hby at_209) q) ?_
  refine own_tp (.int (2147483647 : Int32)) 212 (fun _ q => XS.iloadN X144.here hx rfl (hb hby at_211) rfl q) ?_
  obtain ⟨cl145, Ar145, q145, S145, Nn145, H145, G145⟩ := (id V144')
  have hin145 : ¬ ((9 : Int32) < 0 ∨ cl145.slots.size ≤ ((9 : Int32)).toNatClampNeg) := inb_of S145 ⟨by decide, by decide⟩
  obtain ⟨T146, h146, X146, e146, W146, st146⟩ := stI X144 hx hZ e144 Ar145 (j := (9 : Int32)) hin145 (g := (mkF m 212 L_122 [(.int (2147483647 : Int32)), (.int (9 : Int32)), (.ref b123), (.ref b123)])) rfl rfl (hb hby at_212)
  have V146 := Arv.set Ar145 q145 S145 Nn145 H145 G145 rfl W146 9 rfl (Nat.le_of_ble_eq_true rfl)
  have N146 := Fr.snoc X146 N144 ge123
  have O146 := Old.wr O144 W146 ge123
  have Z146 : n0 ≤ h146.size := Nat.le_trans Z144 (Nat.le_of_eq W146.size.symm)
  have V146' : Arv Z h146 b123 k123 .int (13 : Int32) [(.int (2147483647 : Int32)), (.int (19 : Int32)), (.int (10 : Int32)), (.int (5 : Int32)), (.int (3 : Int32)), (.int (20 : Int32)), (.int (10 : Int32)), (.int (5 : Int32)), (.int (3 : Int32)), (.int (2147483647 : Int32)), (.int (0 : Int32)), (.int (0 : Int32)), (.int (0 : Int32))] (.int (0 : Int32)) := V146
  refine own_cs [(.ref b123)] 213 st146 ?_
  refine own_tp (.ref b123) 214 (fun _ q => XS.dup X146.here hx rfl (hb hby at_213) rfl rfl q) ?_
  refine own_tp (.int (10 : Int32)) 216 (fun _ q => XS.bipush X146.here hx rfl (hb hby at_214) q) ?_
  refine own_tp (.int (2147483647 : Int32)) 217 (fun _ q => XS.iloadN X146.here hx rfl (hb hby at_216) rfl q) ?_
  obtain ⟨cl147, Ar147, q147, S147, Nn147, H147, G147⟩ := (id V146')
  have hin147 : ¬ ((10 : Int32) < 0 ∨ cl147.slots.size ≤ ((10 : Int32)).toNatClampNeg) := inb_of S147 ⟨by decide, by decide⟩
  obtain ⟨T148, h148, X148, e148, W148, st148⟩ := stI X146 hx hZ e146 Ar147 (j := (10 : Int32)) hin147 (g := (mkF m 217 L_122 [(.int (2147483647 : Int32)), (.int (10 : Int32)), (.ref b123), (.ref b123)])) rfl rfl (hb hby at_217)
  have V148 := Arv.set Ar147 q147 S147 Nn147 H147 G147 rfl W148 10 rfl (Nat.le_of_ble_eq_true rfl)
  have N148 := Fr.snoc X148 N146 ge123
  have O148 := Old.wr O146 W148 ge123
  have Z148 : n0 ≤ h148.size := Nat.le_trans Z146 (Nat.le_of_eq W148.size.symm)
  have V148' : Arv Z h148 b123 k123 .int (13 : Int32) [(.int (2147483647 : Int32)), (.int (19 : Int32)), (.int (10 : Int32)), (.int (5 : Int32)), (.int (3 : Int32)), (.int (20 : Int32)), (.int (10 : Int32)), (.int (5 : Int32)), (.int (3 : Int32)), (.int (2147483647 : Int32)), (.int (2147483647 : Int32)), (.int (0 : Int32)), (.int (0 : Int32))] (.int (0 : Int32)) := V148
  refine own_cs [(.ref b123)] 218 st148 ?_
  refine own_tp (.ref b123) 219 (fun _ q => XS.dup X148.here hx rfl (hb hby at_218) rfl rfl q) ?_
  refine own_tp (.int (11 : Int32)) 221 (fun _ q => XS.bipush X148.here hx rfl (hb hby at_219) q) ?_
  refine own_tp (.int (1 : Int32)) 222 (fun _ q => XS.iconst X148.here hx rfl (hb hby at_221) q) ?_
  obtain ⟨cl149, Ar149, q149, S149, Nn149, H149, G149⟩ := (id V148')
  have hin149 : ¬ ((11 : Int32) < 0 ∨ cl149.slots.size ≤ ((11 : Int32)).toNatClampNeg) := inb_of S149 ⟨by decide, by decide⟩
  obtain ⟨T150, h150, X150, e150, W150, st150⟩ := stI X148 hx hZ e148 Ar149 (j := (11 : Int32)) hin149 (g := (mkF m 222 L_122 [(.int (1 : Int32)), (.int (11 : Int32)), (.ref b123), (.ref b123)])) rfl rfl (hb hby at_222)
  have V150 := Arv.set Ar149 q149 S149 Nn149 H149 G149 rfl W150 11 rfl (Nat.le_of_ble_eq_true rfl)
  have N150 := Fr.snoc X150 N148 ge123
  have O150 := Old.wr O148 W150 ge123
  have Z150 : n0 ≤ h150.size := Nat.le_trans Z148 (Nat.le_of_eq W150.size.symm)
  have V150' : Arv Z h150 b123 k123 .int (13 : Int32) [(.int (2147483647 : Int32)), (.int (19 : Int32)), (.int (10 : Int32)), (.int (5 : Int32)), (.int (3 : Int32)), (.int (20 : Int32)), (.int (10 : Int32)), (.int (5 : Int32)), (.int (3 : Int32)), (.int (2147483647 : Int32)), (.int (2147483647 : Int32)), (.int (1 : Int32)), (.int (0 : Int32))] (.int (0 : Int32)) := V150
  refine own_cs [(.ref b123)] 223 st150 ?_
  refine own_tp (.ref b123) 224 (fun _ q => XS.dup X150.here hx rfl (hb hby at_223) rfl rfl q) ?_
  refine own_tp (.int (12 : Int32)) 226 (fun _ q => XS.bipush X150.here hx rfl (hb hby at_224) q) ?_
  refine own_tp (.int (1 : Int32)) 227 (fun _ q => XS.iconst X150.here hx rfl (hb hby at_226) q) ?_
  obtain ⟨cl151, Ar151, q151, S151, Nn151, H151, G151⟩ := (id V150')
  have hin151 : ¬ ((12 : Int32) < 0 ∨ cl151.slots.size ≤ ((12 : Int32)).toNatClampNeg) := inb_of S151 ⟨by decide, by decide⟩
  obtain ⟨T152, h152, X152, e152, W152, st152⟩ := stI X150 hx hZ e150 Ar151 (j := (12 : Int32)) hin151 (g := (mkF m 227 L_122 [(.int (1 : Int32)), (.int (12 : Int32)), (.ref b123), (.ref b123)])) rfl rfl (hb hby at_227)
  have V152 := Arv.set Ar151 q151 S151 Nn151 H151 G151 rfl W152 12 rfl (Nat.le_of_ble_eq_true rfl)
  have N152 := Fr.snoc X152 N150 ge123
  have O152 := Old.wr O150 W152 ge123
  have Z152 : n0 ≤ h152.size := Nat.le_trans Z150 (Nat.le_of_eq W152.size.symm)
  have V152' : Arv Z h152 b123 k123 .int (13 : Int32) [(.int (2147483647 : Int32)), (.int (19 : Int32)), (.int (10 : Int32)), (.int (5 : Int32)), (.int (3 : Int32)), (.int (20 : Int32)), (.int (10 : Int32)), (.int (5 : Int32)), (.int (3 : Int32)), (.int (2147483647 : Int32)), (.int (2147483647 : Int32)), (.int (1 : Int32)), (.int (1 : Int32))] (.int (0 : Int32)) := V152
  refine own_cs [(.ref b123)] 228 st152 ?_
  let L_153 : Array Slot := #[.val (.int p0), .val (.int p1), .val (.int (2147483647 : Int32)), .val (.ref b53), .val (.ref b94), .val (.ref b123), .unset, .unset, .unset]
  refine own_ls L_153 230 (fun _ q => XS.astore X152.here hx rfl (hb hby at_228) rfl rfl (l' := L_153) rfl q) ?_
  refine own_tp (.int p0) 231 (fun _ q => XS.iloadN X152.here hx rfl (hb hby at_230) rfl q) ?_
  refine own_tp (.int (2147483647 : Int32)) 233 (fun _ q => X152.ldcInt hx hown (mvT hZ (hw _ (List.mem_of_getElem? (i := 0) rfl))) (g := (mkF m 231 L_153 [(.int p0)])) rfl (hb hby at_231) _ q) ?_
  refine own_t2 (.int (p0 &&& (2147483647 : Int32))) 234 (fun _ q => XS.iand X152.here hx rfl (hb hby at_233) rfl q) ?_
  refine own_tp (.int (13 : Int32)) 236 (fun _ q => XS.bipush X152.here hx rfl (hb hby at_234) q) ?_
  refine own_t2 (.int ((p0 &&& (2147483647 : Int32)) % (13 : Int32))) 237 (fun _ q => iremM (g := (mkF m 236 L_153 [(.int (13 : Int32)), (.int (p0 &&& (2147483647 : Int32)))])) X152 hx rfl (hb hby at_236) rfl (by decide) q) ?_
  rcases (own_13 p0) with hk154 | hk155 | hk156 | hk157 | hk158 | hk159 | hk160 | hk161 | hk162 | hk163 | hk164 | hk165 | hk166
  ·
    rw [hk154]
    let L_167 : Array Slot := #[.val (.int p0), .val (.int p1), .val (.int (2147483647 : Int32)), .val (.ref b53), .val (.ref b94), .val (.ref b123), .val (.int (0 : Int32)), .unset, .unset]
    refine own_ls L_167 239 (fun _ q => XS.istore X152.here hx rfl (hb hby at_237) rfl (l' := L_167) rfl q) ?_
    refine own_tp (.int p1) 240 (fun _ q => XS.iloadN X152.here hx rfl (hb hby at_239) rfl q) ?_
    refine own_tp (.int (1 : Int32)) 241 (fun _ q => XS.iconst X152.here hx rfl (hb hby at_240) q) ?_
    refine own_t2 (.int (p1 &&& (1 : Int32))) 242 (fun _ q => XS.iand X152.here hx rfl (hb hby at_241) rfl q) ?_
    by_cases c168 : (p1 &&& (1 : Int32)) = (0 : Int32)
    ·
      refine own_d1 249 (fun _ q => XS.ifYes X152.here hx rfl (pc0 := 242) (pc' := 249) rfl (hb hby at_242) rfl ((if0 _ _).trans (teq c168).1) (by decide) (by decide) q) ?_
      refine own_tp (.int (0 : Int32)) 250 (fun _ q => XS.iconst X152.here hx rfl (hb hby at_249) q) ?_
      let L_169 : Array Slot := #[.val (.int p0), .val (.int p1), .val (.int (2147483647 : Int32)), .val (.ref b53), .val (.ref b94), .val (.ref b123), .val (.int (0 : Int32)), .val (.int (0 : Int32)), .unset]
      refine own_ls L_169 252 (fun _ q => XS.istore X152.here hx rfl (hb hby at_250) rfl (l' := L_169) rfl q) ?_
      refine own_tp (.int (0 : Int32)) 254 (fun _ q => XS.iload X152.here hx rfl (hb hby at_252) rfl q) ?_
      refine own_d1 265 (fun _ q => XS.ifYes X152.here hx rfl (pc0 := 254) (pc' := 265) rfl (hb hby at_254) rfl ((if0 _ _).trans (teq (by decide : (0 : Int32) = (0 : Int32))).1) (by decide) (by decide) q) ?_
      refine own_tp (.ref b123) 267 (fun _ q => XS.aload X152.here hx rfl (hb hby at_265) rfl rfl q) ?_
      refine own_tp (.int (0 : Int32)) 269 (fun _ q => XS.iload X152.here hx rfl (hb hby at_267) rfl q) ?_
      obtain ⟨cl170, Ar170, q170, S170, Nn170, H170, G170⟩ := (id V152')
      have hin170 : ¬ ((0 : Int32) < 0 ∨ cl170.slots.size ≤ ((0 : Int32)).toNatClampNeg) := inb_of S170 ⟨by decide, by decide⟩
      have hat170 : cl170.slots[((0 : Int32)).toNatClampNeg]? = some (.int (2147483647 : Int32)) := H170.at hin170 rfl
      refine own_t2 (.int (2147483647 : Int32)) 270 (fun _ q => X152.iaload hx (j := (0 : Int32)) (v := (.int (2147483647 : Int32))) (by rw [e152]; exact Ar170.1) (State.isArrayOf_alike hZ.alike Ar170.2.1) Ar170.2.2 hin170 hat170 (g := (mkF m 269 L_169 [(.int (0 : Int32)), (.ref b123)])) rfl rfl (hb hby at_269) _ q) ?_
      let L_171 : Array Slot := #[.val (.int p0), .val (.int p1), .val (.int (2147483647 : Int32)), .val (.ref b53), .val (.ref b94), .val (.ref b123), .val (.int (0 : Int32)), .val (.int (0 : Int32)), .val (.int (2147483647 : Int32))]
      refine own_ls L_171 272 (fun _ q => XS.istore X152.here hx rfl (hb hby at_270) rfl (l' := L_171) rfl q) ?_
      refine own_tp (.ref b53) 273 (fun _ q => XS.aloadN X152.here hx rfl (hb hby at_272) rfl rfl q) ?_
      refine own_tp (.int (0 : Int32)) 275 (fun _ q => XS.iload X152.here hx rfl (hb hby at_273) rfl q) ?_
      have f172 := ((((((((((((((f125.ext E123).other W128 ne124).other W130 ne124).other W132 ne124).other W134 ne124).other W136 ne124).other W138 ne124).other W140 ne124).other W142 ne124).other W144 ne124).other W146 ne124).other W148 ne124).other W150 ne124).other W152 ne124)
      obtain ⟨cl173, Ar173, q173, S173, Nn173, H173, G173⟩ := (id f172)
      have hin173 : ¬ ((0 : Int32) < 0 ∨ cl173.slots.size ≤ ((0 : Int32)).toNatClampNeg) := inb_of S173 ⟨by decide, by decide⟩
      have hat173 : cl173.slots[((0 : Int32)).toNatClampNeg]? = some (.ref ai0) := H173.at hin173 rfl
      refine own_t2 (.ref ai0) 276 (fun _ q => X152.aaload hx (j := (0 : Int32)) (v := (.ref ai0)) (by rw [e152]; exact Ar173.1) (State.isArrayOf_alike hZ.alike Ar173.2.1) rfl Ar173.2.2 hin173 hat173 (g := (mkF m 275 L_171 [(.int (0 : Int32)), (.ref b53)])) rfl rfl (hb hby at_275) _ q) ?_
      refine own_tp (.int (0 : Int32)) 278 (fun _ q => XS.iload X152.here hx rfl (hb hby at_276) rfl q) ?_
      obtain ⟨Lz174, Xz174, Nz174⟩ : ∃ Lz, Stand p l e room_1 s m #[(.int p0), (.int p1)] below meth c T152 Lz 3 39 ∧ Fr n0 Lz := ⟨_, X152, N152⟩
      obtain ⟨cq175, kq175, q175a, q175b, q175c⟩ := isOf hZ e152 (K0.2.1.ext O152.2)
      obtain ⟨_, _, ⟨T175, L175, k175, n175⟩, -, X175, ⟨Lc175, hQ175, l175, y175, z175⟩, st175⟩ := Xz174.virtualBack hx (y := (⟨"com/example/unit_step/unitstep/IntegerType", "maxDigits", "(Z)I"⟩ : MethodName)) (z := (⟨"com/example/unit_step/unitstep/IntegerType", "maxDigits", "(Z)I"⟩ : MethodName)) hown (mvT hZ (hw _ (List.mem_of_getElem? (i := 32) rfl))) (mvT hZ (hw _ (List.mem_of_getElem? (i := 33) rfl))) (notFace_of_selects (args := #[]) (mvT hZ (hw _ (List.mem_of_getElem? (i := 35) rfl)))) (mvT hZ (hw _ (List.mem_of_getElem? (i := 35) rfl))) (mvT hZ (hw _ (List.mem_of_getElem? (i := 34) rfl))) (by decide) (backOf (W := 0) (rm1 l Z a0 hw [] ai0 (0 : Int32) (2147483647 : Int32) (2147483647 : Int32) h152 n0 (K0.2.2.1.ext O152.2) (K0.2.2.2.ext O152.2)) hZ (hw _ (List.mem_of_getElem? (i := 36) rfl)) (hw _ (List.mem_of_getElem? (i := 4) rfl)) (by decide) (by decide)) q175a q175c (g := (mkF m 278 L_171 [(.int (0 : Int32)), (.ref ai0)])) rfl (by rw [hml]; rfl) (Steps.refl _) (argsL := [(.int (0 : Int32))]) (rest := []) (lenOf pd0_0 rfl) rfl (by show 2 * 0 + _ ≤ _; exact Nat.le_of_eq rfl) (hb hby at_278) (fun _ _ => ⟨rfl, e152, (by decide : 3 + 0 ≤ _), (by decide : 39 + 0 ≤ _)⟩)
      dsimp only [Pt.U, Pt.locs, Pt.cells, Pt.slots] at X175 l175 y175 z175 st175 hQ175
      subst l175 y175 z175
      obtain ⟨rfl, Nq175, eq175⟩ := hQ175
      have N175 := Fr.app Nz174 Nq175
      refine own_csR [(.int (own_md (0 : Int32) (2147483647 : Int32) (2147483647 : Int32)))] 281 st175 ?_
      refine own_tp (.int (2147483647 : Int32)) 283 (fun _ q => XS.iload X175.here hx rfl (hb hby at_281) rfl q) ?_
      refine own_d2 286 (fun _ q => XS.icmpNo X175.here hx rfl (hb hby at_283) rfl (teq (by decide +kernel)).2 q) ?_
      refine own_tp (.int (1 : Int32)) 287 (fun _ q => XS.iconst X175.here hx rfl (hb hby at_286) q) ?_
      refine own_d0 291 (fun _ q => XS.goto X175.here hx rfl (pc0 := 287) (pc' := 291) rfl (hb hby at_287) (by decide) (by decide) q) ?_
      exact own_retN (t := .boolean) X175 hx hrt (hb hby at_291) (by simp) hlk (by decide) (by decide) eq175 (⟨rfl, N175⟩)
    ·
      refine own_d1 245 (fun _ q => XS.ifNo X152.here hx rfl (hb hby at_242) rfl ((if0 _ _).trans (feq c168).1) q) ?_
      refine own_tp (.int (1 : Int32)) 246 (fun _ q => XS.iconst X152.here hx rfl (hb hby at_245) q) ?_
      refine own_d0 250 (fun _ q => XS.goto X152.here hx rfl (pc0 := 246) (pc' := 250) rfl (hb hby at_246) (by decide) (by decide) q) ?_
      let L_176 : Array Slot := #[.val (.int p0), .val (.int p1), .val (.int (2147483647 : Int32)), .val (.ref b53), .val (.ref b94), .val (.ref b123), .val (.int (0 : Int32)), .val (.int (1 : Int32)), .unset]
      refine own_ls L_176 252 (fun _ q => XS.istore X152.here hx rfl (hb hby at_250) rfl (l' := L_176) rfl q) ?_
      refine own_tp (.int (1 : Int32)) 254 (fun _ q => XS.iload X152.here hx rfl (hb hby at_252) rfl q) ?_
      refine own_d1 257 (fun _ q => XS.ifNo X152.here hx rfl (hb hby at_254) rfl ((if0 _ _).trans (feq (by decide : ¬ ((1 : Int32) = (0 : Int32)))).1) q) ?_
      refine own_tp (.ref b94) 259 (fun _ q => XS.aload X152.here hx rfl (hb hby at_257) rfl rfl q) ?_
      refine own_tp (.int (0 : Int32)) 261 (fun _ q => XS.iload X152.here hx rfl (hb hby at_259) rfl q) ?_
      have f177 := ((((((((((((((V121'.ext E123).other W128 ne126).other W130 ne126).other W132 ne126).other W134 ne126).other W136 ne126).other W138 ne126).other W140 ne126).other W142 ne126).other W144 ne126).other W146 ne126).other W148 ne126).other W150 ne126).other W152 ne126)
      obtain ⟨cl178, Ar178, q178, S178, Nn178, H178, G178⟩ := (id f177)
      have hin178 : ¬ ((0 : Int32) < 0 ∨ cl178.slots.size ≤ ((0 : Int32)).toNatClampNeg) := inb_of S178 ⟨by decide, by decide⟩
      have hat178 : cl178.slots[((0 : Int32)).toNatClampNeg]? = some (.int (2147483647 : Int32)) := H178.at hin178 rfl
      refine own_t2 (.int (2147483647 : Int32)) 262 (fun _ q => X152.iaload hx (j := (0 : Int32)) (v := (.int (2147483647 : Int32))) (by rw [e152]; exact Ar178.1) (State.isArrayOf_alike hZ.alike Ar178.2.1) Ar178.2.2 hin178 hat178 (g := (mkF m 261 L_176 [(.int (0 : Int32)), (.ref b94)])) rfl rfl (hb hby at_261) _ q) ?_
      refine own_d0 270 (fun _ q => XS.goto X152.here hx rfl (pc0 := 262) (pc' := 270) rfl (hb hby at_262) (by decide) (by decide) q) ?_
      let L_179 : Array Slot := #[.val (.int p0), .val (.int p1), .val (.int (2147483647 : Int32)), .val (.ref b53), .val (.ref b94), .val (.ref b123), .val (.int (0 : Int32)), .val (.int (1 : Int32)), .val (.int (2147483647 : Int32))]
      refine own_ls L_179 272 (fun _ q => XS.istore X152.here hx rfl (hb hby at_270) rfl (l' := L_179) rfl q) ?_
      refine own_tp (.ref b53) 273 (fun _ q => XS.aloadN X152.here hx rfl (hb hby at_272) rfl rfl q) ?_
      refine own_tp (.int (0 : Int32)) 275 (fun _ q => XS.iload X152.here hx rfl (hb hby at_273) rfl q) ?_
      have f180 := ((((((((((((((f125.ext E123).other W128 ne124).other W130 ne124).other W132 ne124).other W134 ne124).other W136 ne124).other W138 ne124).other W140 ne124).other W142 ne124).other W144 ne124).other W146 ne124).other W148 ne124).other W150 ne124).other W152 ne124)
      obtain ⟨cl181, Ar181, q181, S181, Nn181, H181, G181⟩ := (id f180)
      have hin181 : ¬ ((0 : Int32) < 0 ∨ cl181.slots.size ≤ ((0 : Int32)).toNatClampNeg) := inb_of S181 ⟨by decide, by decide⟩
      have hat181 : cl181.slots[((0 : Int32)).toNatClampNeg]? = some (.ref ai0) := H181.at hin181 rfl
      refine own_t2 (.ref ai0) 276 (fun _ q => X152.aaload hx (j := (0 : Int32)) (v := (.ref ai0)) (by rw [e152]; exact Ar181.1) (State.isArrayOf_alike hZ.alike Ar181.2.1) rfl Ar181.2.2 hin181 hat181 (g := (mkF m 275 L_179 [(.int (0 : Int32)), (.ref b53)])) rfl rfl (hb hby at_275) _ q) ?_
      refine own_tp (.int (1 : Int32)) 278 (fun _ q => XS.iload X152.here hx rfl (hb hby at_276) rfl q) ?_
      obtain ⟨Lz182, Xz182, Nz182⟩ : ∃ Lz, Stand p l e room_1 s m #[(.int p0), (.int p1)] below meth c T152 Lz 3 39 ∧ Fr n0 Lz := ⟨_, X152, N152⟩
      obtain ⟨cq183, kq183, q183a, q183b, q183c⟩ := isOf hZ e152 (K0.2.1.ext O152.2)
      obtain ⟨_, _, ⟨T183, L183, k183, n183⟩, -, X183, ⟨Lc183, hQ183, l183, y183, z183⟩, st183⟩ := Xz182.virtualBack hx (y := (⟨"com/example/unit_step/unitstep/IntegerType", "maxDigits", "(Z)I"⟩ : MethodName)) (z := (⟨"com/example/unit_step/unitstep/IntegerType", "maxDigits", "(Z)I"⟩ : MethodName)) hown (mvT hZ (hw _ (List.mem_of_getElem? (i := 32) rfl))) (mvT hZ (hw _ (List.mem_of_getElem? (i := 33) rfl))) (notFace_of_selects (args := #[]) (mvT hZ (hw _ (List.mem_of_getElem? (i := 35) rfl)))) (mvT hZ (hw _ (List.mem_of_getElem? (i := 35) rfl))) (mvT hZ (hw _ (List.mem_of_getElem? (i := 34) rfl))) (by decide) (backOf (W := 0) (rm1 l Z a0 hw [] ai0 (1 : Int32) (2147483647 : Int32) (2147483647 : Int32) h152 n0 (K0.2.2.1.ext O152.2) (K0.2.2.2.ext O152.2)) hZ (hw _ (List.mem_of_getElem? (i := 36) rfl)) (hw _ (List.mem_of_getElem? (i := 4) rfl)) (by decide) (by decide)) q183a q183c (g := (mkF m 278 L_179 [(.int (1 : Int32)), (.ref ai0)])) rfl (by rw [hml]; rfl) (Steps.refl _) (argsL := [(.int (1 : Int32))]) (rest := []) (lenOf pd0_0 rfl) rfl (by show 2 * 0 + _ ≤ _; exact Nat.le_of_eq rfl) (hb hby at_278) (fun _ _ => ⟨rfl, e152, (by decide : 3 + 0 ≤ _), (by decide : 39 + 0 ≤ _)⟩)
      dsimp only [Pt.U, Pt.locs, Pt.cells, Pt.slots] at X183 l183 y183 z183 st183 hQ183
      subst l183 y183 z183
      obtain ⟨rfl, Nq183, eq183⟩ := hQ183
      have N183 := Fr.app Nz182 Nq183
      refine own_csR [(.int (own_md (1 : Int32) (2147483647 : Int32) (2147483647 : Int32)))] 281 st183 ?_
      refine own_tp (.int (2147483647 : Int32)) 283 (fun _ q => XS.iload X183.here hx rfl (hb hby at_281) rfl q) ?_
      refine own_d2 286 (fun _ q => XS.icmpNo X183.here hx rfl (hb hby at_283) rfl (teq (by decide +kernel)).2 q) ?_
      refine own_tp (.int (1 : Int32)) 287 (fun _ q => XS.iconst X183.here hx rfl (hb hby at_286) q) ?_
      refine own_d0 291 (fun _ q => XS.goto X183.here hx rfl (pc0 := 287) (pc' := 291) rfl (hb hby at_287) (by decide) (by decide) q) ?_
      exact own_retN (t := .boolean) X183 hx hrt (hb hby at_291) (by simp) hlk (by decide) (by decide) eq183 (⟨rfl, N183⟩)
  ·
    rw [hk155]
    let L_184 : Array Slot := #[.val (.int p0), .val (.int p1), .val (.int (2147483647 : Int32)), .val (.ref b53), .val (.ref b94), .val (.ref b123), .val (.int (1 : Int32)), .unset, .unset]
    refine own_ls L_184 239 (fun _ q => XS.istore X152.here hx rfl (hb hby at_237) rfl (l' := L_184) rfl q) ?_
    refine own_tp (.int p1) 240 (fun _ q => XS.iloadN X152.here hx rfl (hb hby at_239) rfl q) ?_
    refine own_tp (.int (1 : Int32)) 241 (fun _ q => XS.iconst X152.here hx rfl (hb hby at_240) q) ?_
    refine own_t2 (.int (p1 &&& (1 : Int32))) 242 (fun _ q => XS.iand X152.here hx rfl (hb hby at_241) rfl q) ?_
    by_cases c185 : (p1 &&& (1 : Int32)) = (0 : Int32)
    ·
      refine own_d1 249 (fun _ q => XS.ifYes X152.here hx rfl (pc0 := 242) (pc' := 249) rfl (hb hby at_242) rfl ((if0 _ _).trans (teq c185).1) (by decide) (by decide) q) ?_
      refine own_tp (.int (0 : Int32)) 250 (fun _ q => XS.iconst X152.here hx rfl (hb hby at_249) q) ?_
      let L_186 : Array Slot := #[.val (.int p0), .val (.int p1), .val (.int (2147483647 : Int32)), .val (.ref b53), .val (.ref b94), .val (.ref b123), .val (.int (1 : Int32)), .val (.int (0 : Int32)), .unset]
      refine own_ls L_186 252 (fun _ q => XS.istore X152.here hx rfl (hb hby at_250) rfl (l' := L_186) rfl q) ?_
      refine own_tp (.int (0 : Int32)) 254 (fun _ q => XS.iload X152.here hx rfl (hb hby at_252) rfl q) ?_
      refine own_d1 265 (fun _ q => XS.ifYes X152.here hx rfl (pc0 := 254) (pc' := 265) rfl (hb hby at_254) rfl ((if0 _ _).trans (teq (by decide : (0 : Int32) = (0 : Int32))).1) (by decide) (by decide) q) ?_
      refine own_tp (.ref b123) 267 (fun _ q => XS.aload X152.here hx rfl (hb hby at_265) rfl rfl q) ?_
      refine own_tp (.int (1 : Int32)) 269 (fun _ q => XS.iload X152.here hx rfl (hb hby at_267) rfl q) ?_
      obtain ⟨cl187, Ar187, q187, S187, Nn187, H187, G187⟩ := (id V152')
      have hin187 : ¬ ((1 : Int32) < 0 ∨ cl187.slots.size ≤ ((1 : Int32)).toNatClampNeg) := inb_of S187 ⟨by decide, by decide⟩
      have hat187 : cl187.slots[((1 : Int32)).toNatClampNeg]? = some (.int (19 : Int32)) := H187.at hin187 rfl
      refine own_t2 (.int (19 : Int32)) 270 (fun _ q => X152.iaload hx (j := (1 : Int32)) (v := (.int (19 : Int32))) (by rw [e152]; exact Ar187.1) (State.isArrayOf_alike hZ.alike Ar187.2.1) Ar187.2.2 hin187 hat187 (g := (mkF m 269 L_186 [(.int (1 : Int32)), (.ref b123)])) rfl rfl (hb hby at_269) _ q) ?_
      let L_188 : Array Slot := #[.val (.int p0), .val (.int p1), .val (.int (2147483647 : Int32)), .val (.ref b53), .val (.ref b94), .val (.ref b123), .val (.int (1 : Int32)), .val (.int (0 : Int32)), .val (.int (19 : Int32))]
      refine own_ls L_188 272 (fun _ q => XS.istore X152.here hx rfl (hb hby at_270) rfl (l' := L_188) rfl q) ?_
      refine own_tp (.ref b53) 273 (fun _ q => XS.aloadN X152.here hx rfl (hb hby at_272) rfl rfl q) ?_
      refine own_tp (.int (1 : Int32)) 275 (fun _ q => XS.iload X152.here hx rfl (hb hby at_273) rfl q) ?_
      have f189 := ((((((((((((((f125.ext E123).other W128 ne124).other W130 ne124).other W132 ne124).other W134 ne124).other W136 ne124).other W138 ne124).other W140 ne124).other W142 ne124).other W144 ne124).other W146 ne124).other W148 ne124).other W150 ne124).other W152 ne124)
      obtain ⟨cl190, Ar190, q190, S190, Nn190, H190, G190⟩ := (id f189)
      have hin190 : ¬ ((1 : Int32) < 0 ∨ cl190.slots.size ≤ ((1 : Int32)).toNatClampNeg) := inb_of S190 ⟨by decide, by decide⟩
      have hat190 : cl190.slots[((1 : Int32)).toNatClampNeg]? = some (.ref ai1) := H190.at hin190 rfl
      refine own_t2 (.ref ai1) 276 (fun _ q => X152.aaload hx (j := (1 : Int32)) (v := (.ref ai1)) (by rw [e152]; exact Ar190.1) (State.isArrayOf_alike hZ.alike Ar190.2.1) rfl Ar190.2.2 hin190 hat190 (g := (mkF m 275 L_188 [(.int (1 : Int32)), (.ref b53)])) rfl rfl (hb hby at_275) _ q) ?_
      refine own_tp (.int (0 : Int32)) 278 (fun _ q => XS.iload X152.here hx rfl (hb hby at_276) rfl q) ?_
      obtain ⟨Lz191, Xz191, Nz191⟩ : ∃ Lz, Stand p l e room_1 s m #[(.int p0), (.int p1)] below meth c T152 Lz 3 39 ∧ Fr n0 Lz := ⟨_, X152, N152⟩
      obtain ⟨cq192, kq192, q192a, q192b, q192c⟩ := isOf hZ e152 (K1.2.1.ext O152.2)
      obtain ⟨_, _, ⟨T192, L192, k192, n192⟩, -, X192, ⟨Lc192, hQ192, l192, y192, z192⟩, st192⟩ := Xz191.virtualBack hx (y := (⟨"com/example/unit_step/unitstep/IntegerType", "maxDigits", "(Z)I"⟩ : MethodName)) (z := (⟨"com/example/unit_step/unitstep/IntegerType", "maxDigits", "(Z)I"⟩ : MethodName)) hown (mvT hZ (hw _ (List.mem_of_getElem? (i := 32) rfl))) (mvT hZ (hw _ (List.mem_of_getElem? (i := 33) rfl))) (notFace_of_selects (args := #[]) (mvT hZ (hw _ (List.mem_of_getElem? (i := 35) rfl)))) (mvT hZ (hw _ (List.mem_of_getElem? (i := 35) rfl))) (mvT hZ (hw _ (List.mem_of_getElem? (i := 34) rfl))) (by decide) (backOf (W := 0) (rm1 l Z a0 hw [] ai1 (0 : Int32) (19 : Int32) (19 : Int32) h152 n0 (K1.2.2.1.ext O152.2) (K1.2.2.2.ext O152.2)) hZ (hw _ (List.mem_of_getElem? (i := 36) rfl)) (hw _ (List.mem_of_getElem? (i := 4) rfl)) (by decide) (by decide)) q192a q192c (g := (mkF m 278 L_188 [(.int (0 : Int32)), (.ref ai1)])) rfl (by rw [hml]; rfl) (Steps.refl _) (argsL := [(.int (0 : Int32))]) (rest := []) (lenOf pd0_0 rfl) rfl (by show 2 * 0 + _ ≤ _; exact Nat.le_of_eq rfl) (hb hby at_278) (fun _ _ => ⟨rfl, e152, (by decide : 3 + 0 ≤ _), (by decide : 39 + 0 ≤ _)⟩)
      dsimp only [Pt.U, Pt.locs, Pt.cells, Pt.slots] at X192 l192 y192 z192 st192 hQ192
      subst l192 y192 z192
      obtain ⟨rfl, Nq192, eq192⟩ := hQ192
      have N192 := Fr.app Nz191 Nq192
      refine own_csR [(.int (own_md (0 : Int32) (19 : Int32) (19 : Int32)))] 281 st192 ?_
      refine own_tp (.int (19 : Int32)) 283 (fun _ q => XS.iload X192.here hx rfl (hb hby at_281) rfl q) ?_
      refine own_d2 286 (fun _ q => XS.icmpNo X192.here hx rfl (hb hby at_283) rfl (teq (by decide +kernel)).2 q) ?_
      refine own_tp (.int (1 : Int32)) 287 (fun _ q => XS.iconst X192.here hx rfl (hb hby at_286) q) ?_
      refine own_d0 291 (fun _ q => XS.goto X192.here hx rfl (pc0 := 287) (pc' := 291) rfl (hb hby at_287) (by decide) (by decide) q) ?_
      exact own_retN (t := .boolean) X192 hx hrt (hb hby at_291) (by simp) hlk (by decide) (by decide) eq192 (⟨rfl, N192⟩)
    ·
      refine own_d1 245 (fun _ q => XS.ifNo X152.here hx rfl (hb hby at_242) rfl ((if0 _ _).trans (feq c185).1) q) ?_
      refine own_tp (.int (1 : Int32)) 246 (fun _ q => XS.iconst X152.here hx rfl (hb hby at_245) q) ?_
      refine own_d0 250 (fun _ q => XS.goto X152.here hx rfl (pc0 := 246) (pc' := 250) rfl (hb hby at_246) (by decide) (by decide) q) ?_
      let L_193 : Array Slot := #[.val (.int p0), .val (.int p1), .val (.int (2147483647 : Int32)), .val (.ref b53), .val (.ref b94), .val (.ref b123), .val (.int (1 : Int32)), .val (.int (1 : Int32)), .unset]
      refine own_ls L_193 252 (fun _ q => XS.istore X152.here hx rfl (hb hby at_250) rfl (l' := L_193) rfl q) ?_
      refine own_tp (.int (1 : Int32)) 254 (fun _ q => XS.iload X152.here hx rfl (hb hby at_252) rfl q) ?_
      refine own_d1 257 (fun _ q => XS.ifNo X152.here hx rfl (hb hby at_254) rfl ((if0 _ _).trans (feq (by decide : ¬ ((1 : Int32) = (0 : Int32)))).1) q) ?_
      refine own_tp (.ref b94) 259 (fun _ q => XS.aload X152.here hx rfl (hb hby at_257) rfl rfl q) ?_
      refine own_tp (.int (1 : Int32)) 261 (fun _ q => XS.iload X152.here hx rfl (hb hby at_259) rfl q) ?_
      have f194 := ((((((((((((((V121'.ext E123).other W128 ne126).other W130 ne126).other W132 ne126).other W134 ne126).other W136 ne126).other W138 ne126).other W140 ne126).other W142 ne126).other W144 ne126).other W146 ne126).other W148 ne126).other W150 ne126).other W152 ne126)
      obtain ⟨cl195, Ar195, q195, S195, Nn195, H195, G195⟩ := (id f194)
      have hin195 : ¬ ((1 : Int32) < 0 ∨ cl195.slots.size ≤ ((1 : Int32)).toNatClampNeg) := inb_of S195 ⟨by decide, by decide⟩
      have hat195 : cl195.slots[((1 : Int32)).toNatClampNeg]? = some (.int (19 : Int32)) := H195.at hin195 rfl
      refine own_t2 (.int (19 : Int32)) 262 (fun _ q => X152.iaload hx (j := (1 : Int32)) (v := (.int (19 : Int32))) (by rw [e152]; exact Ar195.1) (State.isArrayOf_alike hZ.alike Ar195.2.1) Ar195.2.2 hin195 hat195 (g := (mkF m 261 L_193 [(.int (1 : Int32)), (.ref b94)])) rfl rfl (hb hby at_261) _ q) ?_
      refine own_d0 270 (fun _ q => XS.goto X152.here hx rfl (pc0 := 262) (pc' := 270) rfl (hb hby at_262) (by decide) (by decide) q) ?_
      let L_196 : Array Slot := #[.val (.int p0), .val (.int p1), .val (.int (2147483647 : Int32)), .val (.ref b53), .val (.ref b94), .val (.ref b123), .val (.int (1 : Int32)), .val (.int (1 : Int32)), .val (.int (19 : Int32))]
      refine own_ls L_196 272 (fun _ q => XS.istore X152.here hx rfl (hb hby at_270) rfl (l' := L_196) rfl q) ?_
      refine own_tp (.ref b53) 273 (fun _ q => XS.aloadN X152.here hx rfl (hb hby at_272) rfl rfl q) ?_
      refine own_tp (.int (1 : Int32)) 275 (fun _ q => XS.iload X152.here hx rfl (hb hby at_273) rfl q) ?_
      have f197 := ((((((((((((((f125.ext E123).other W128 ne124).other W130 ne124).other W132 ne124).other W134 ne124).other W136 ne124).other W138 ne124).other W140 ne124).other W142 ne124).other W144 ne124).other W146 ne124).other W148 ne124).other W150 ne124).other W152 ne124)
      obtain ⟨cl198, Ar198, q198, S198, Nn198, H198, G198⟩ := (id f197)
      have hin198 : ¬ ((1 : Int32) < 0 ∨ cl198.slots.size ≤ ((1 : Int32)).toNatClampNeg) := inb_of S198 ⟨by decide, by decide⟩
      have hat198 : cl198.slots[((1 : Int32)).toNatClampNeg]? = some (.ref ai1) := H198.at hin198 rfl
      refine own_t2 (.ref ai1) 276 (fun _ q => X152.aaload hx (j := (1 : Int32)) (v := (.ref ai1)) (by rw [e152]; exact Ar198.1) (State.isArrayOf_alike hZ.alike Ar198.2.1) rfl Ar198.2.2 hin198 hat198 (g := (mkF m 275 L_196 [(.int (1 : Int32)), (.ref b53)])) rfl rfl (hb hby at_275) _ q) ?_
      refine own_tp (.int (1 : Int32)) 278 (fun _ q => XS.iload X152.here hx rfl (hb hby at_276) rfl q) ?_
      obtain ⟨Lz199, Xz199, Nz199⟩ : ∃ Lz, Stand p l e room_1 s m #[(.int p0), (.int p1)] below meth c T152 Lz 3 39 ∧ Fr n0 Lz := ⟨_, X152, N152⟩
      obtain ⟨cq200, kq200, q200a, q200b, q200c⟩ := isOf hZ e152 (K1.2.1.ext O152.2)
      obtain ⟨_, _, ⟨T200, L200, k200, n200⟩, -, X200, ⟨Lc200, hQ200, l200, y200, z200⟩, st200⟩ := Xz199.virtualBack hx (y := (⟨"com/example/unit_step/unitstep/IntegerType", "maxDigits", "(Z)I"⟩ : MethodName)) (z := (⟨"com/example/unit_step/unitstep/IntegerType", "maxDigits", "(Z)I"⟩ : MethodName)) hown (mvT hZ (hw _ (List.mem_of_getElem? (i := 32) rfl))) (mvT hZ (hw _ (List.mem_of_getElem? (i := 33) rfl))) (notFace_of_selects (args := #[]) (mvT hZ (hw _ (List.mem_of_getElem? (i := 35) rfl)))) (mvT hZ (hw _ (List.mem_of_getElem? (i := 35) rfl))) (mvT hZ (hw _ (List.mem_of_getElem? (i := 34) rfl))) (by decide) (backOf (W := 0) (rm1 l Z a0 hw [] ai1 (1 : Int32) (19 : Int32) (19 : Int32) h152 n0 (K1.2.2.1.ext O152.2) (K1.2.2.2.ext O152.2)) hZ (hw _ (List.mem_of_getElem? (i := 36) rfl)) (hw _ (List.mem_of_getElem? (i := 4) rfl)) (by decide) (by decide)) q200a q200c (g := (mkF m 278 L_196 [(.int (1 : Int32)), (.ref ai1)])) rfl (by rw [hml]; rfl) (Steps.refl _) (argsL := [(.int (1 : Int32))]) (rest := []) (lenOf pd0_0 rfl) rfl (by show 2 * 0 + _ ≤ _; exact Nat.le_of_eq rfl) (hb hby at_278) (fun _ _ => ⟨rfl, e152, (by decide : 3 + 0 ≤ _), (by decide : 39 + 0 ≤ _)⟩)
      dsimp only [Pt.U, Pt.locs, Pt.cells, Pt.slots] at X200 l200 y200 z200 st200 hQ200
      subst l200 y200 z200
      obtain ⟨rfl, Nq200, eq200⟩ := hQ200
      have N200 := Fr.app Nz199 Nq200
      refine own_csR [(.int (own_md (1 : Int32) (19 : Int32) (19 : Int32)))] 281 st200 ?_
      refine own_tp (.int (19 : Int32)) 283 (fun _ q => XS.iload X200.here hx rfl (hb hby at_281) rfl q) ?_
      refine own_d2 286 (fun _ q => XS.icmpNo X200.here hx rfl (hb hby at_283) rfl (teq (by decide +kernel)).2 q) ?_
      refine own_tp (.int (1 : Int32)) 287 (fun _ q => XS.iconst X200.here hx rfl (hb hby at_286) q) ?_
      refine own_d0 291 (fun _ q => XS.goto X200.here hx rfl (pc0 := 287) (pc' := 291) rfl (hb hby at_287) (by decide) (by decide) q) ?_
      exact own_retN (t := .boolean) X200 hx hrt (hb hby at_291) (by simp) hlk (by decide) (by decide) eq200 (⟨rfl, N200⟩)
  ·
    rw [hk156]
    let L_201 : Array Slot := #[.val (.int p0), .val (.int p1), .val (.int (2147483647 : Int32)), .val (.ref b53), .val (.ref b94), .val (.ref b123), .val (.int (2 : Int32)), .unset, .unset]
    refine own_ls L_201 239 (fun _ q => XS.istore X152.here hx rfl (hb hby at_237) rfl (l' := L_201) rfl q) ?_
    refine own_tp (.int p1) 240 (fun _ q => XS.iloadN X152.here hx rfl (hb hby at_239) rfl q) ?_
    refine own_tp (.int (1 : Int32)) 241 (fun _ q => XS.iconst X152.here hx rfl (hb hby at_240) q) ?_
    refine own_t2 (.int (p1 &&& (1 : Int32))) 242 (fun _ q => XS.iand X152.here hx rfl (hb hby at_241) rfl q) ?_
    by_cases c202 : (p1 &&& (1 : Int32)) = (0 : Int32)
    ·
      refine own_d1 249 (fun _ q => XS.ifYes X152.here hx rfl (pc0 := 242) (pc' := 249) rfl (hb hby at_242) rfl ((if0 _ _).trans (teq c202).1) (by decide) (by decide) q) ?_
      refine own_tp (.int (0 : Int32)) 250 (fun _ q => XS.iconst X152.here hx rfl (hb hby at_249) q) ?_
      let L_203 : Array Slot := #[.val (.int p0), .val (.int p1), .val (.int (2147483647 : Int32)), .val (.ref b53), .val (.ref b94), .val (.ref b123), .val (.int (2 : Int32)), .val (.int (0 : Int32)), .unset]
      refine own_ls L_203 252 (fun _ q => XS.istore X152.here hx rfl (hb hby at_250) rfl (l' := L_203) rfl q) ?_
      refine own_tp (.int (0 : Int32)) 254 (fun _ q => XS.iload X152.here hx rfl (hb hby at_252) rfl q) ?_
      refine own_d1 265 (fun _ q => XS.ifYes X152.here hx rfl (pc0 := 254) (pc' := 265) rfl (hb hby at_254) rfl ((if0 _ _).trans (teq (by decide : (0 : Int32) = (0 : Int32))).1) (by decide) (by decide) q) ?_
      refine own_tp (.ref b123) 267 (fun _ q => XS.aload X152.here hx rfl (hb hby at_265) rfl rfl q) ?_
      refine own_tp (.int (2 : Int32)) 269 (fun _ q => XS.iload X152.here hx rfl (hb hby at_267) rfl q) ?_
      obtain ⟨cl204, Ar204, q204, S204, Nn204, H204, G204⟩ := (id V152')
      have hin204 : ¬ ((2 : Int32) < 0 ∨ cl204.slots.size ≤ ((2 : Int32)).toNatClampNeg) := inb_of S204 ⟨by decide, by decide⟩
      have hat204 : cl204.slots[((2 : Int32)).toNatClampNeg]? = some (.int (10 : Int32)) := H204.at hin204 rfl
      refine own_t2 (.int (10 : Int32)) 270 (fun _ q => X152.iaload hx (j := (2 : Int32)) (v := (.int (10 : Int32))) (by rw [e152]; exact Ar204.1) (State.isArrayOf_alike hZ.alike Ar204.2.1) Ar204.2.2 hin204 hat204 (g := (mkF m 269 L_203 [(.int (2 : Int32)), (.ref b123)])) rfl rfl (hb hby at_269) _ q) ?_
      let L_205 : Array Slot := #[.val (.int p0), .val (.int p1), .val (.int (2147483647 : Int32)), .val (.ref b53), .val (.ref b94), .val (.ref b123), .val (.int (2 : Int32)), .val (.int (0 : Int32)), .val (.int (10 : Int32))]
      refine own_ls L_205 272 (fun _ q => XS.istore X152.here hx rfl (hb hby at_270) rfl (l' := L_205) rfl q) ?_
      refine own_tp (.ref b53) 273 (fun _ q => XS.aloadN X152.here hx rfl (hb hby at_272) rfl rfl q) ?_
      refine own_tp (.int (2 : Int32)) 275 (fun _ q => XS.iload X152.here hx rfl (hb hby at_273) rfl q) ?_
      have f206 := ((((((((((((((f125.ext E123).other W128 ne124).other W130 ne124).other W132 ne124).other W134 ne124).other W136 ne124).other W138 ne124).other W140 ne124).other W142 ne124).other W144 ne124).other W146 ne124).other W148 ne124).other W150 ne124).other W152 ne124)
      obtain ⟨cl207, Ar207, q207, S207, Nn207, H207, G207⟩ := (id f206)
      have hin207 : ¬ ((2 : Int32) < 0 ∨ cl207.slots.size ≤ ((2 : Int32)).toNatClampNeg) := inb_of S207 ⟨by decide, by decide⟩
      have hat207 : cl207.slots[((2 : Int32)).toNatClampNeg]? = some (.ref ai2) := H207.at hin207 rfl
      refine own_t2 (.ref ai2) 276 (fun _ q => X152.aaload hx (j := (2 : Int32)) (v := (.ref ai2)) (by rw [e152]; exact Ar207.1) (State.isArrayOf_alike hZ.alike Ar207.2.1) rfl Ar207.2.2 hin207 hat207 (g := (mkF m 275 L_205 [(.int (2 : Int32)), (.ref b53)])) rfl rfl (hb hby at_275) _ q) ?_
      refine own_tp (.int (0 : Int32)) 278 (fun _ q => XS.iload X152.here hx rfl (hb hby at_276) rfl q) ?_
      obtain ⟨Lz208, Xz208, Nz208⟩ : ∃ Lz, Stand p l e room_1 s m #[(.int p0), (.int p1)] below meth c T152 Lz 3 39 ∧ Fr n0 Lz := ⟨_, X152, N152⟩
      obtain ⟨cq209, kq209, q209a, q209b, q209c⟩ := isOf hZ e152 (K2.2.1.ext O152.2)
      obtain ⟨_, _, ⟨T209, L209, k209, n209⟩, -, X209, ⟨Lc209, hQ209, l209, y209, z209⟩, st209⟩ := Xz208.virtualBack hx (y := (⟨"com/example/unit_step/unitstep/IntegerType", "maxDigits", "(Z)I"⟩ : MethodName)) (z := (⟨"com/example/unit_step/unitstep/IntegerType", "maxDigits", "(Z)I"⟩ : MethodName)) hown (mvT hZ (hw _ (List.mem_of_getElem? (i := 32) rfl))) (mvT hZ (hw _ (List.mem_of_getElem? (i := 33) rfl))) (notFace_of_selects (args := #[]) (mvT hZ (hw _ (List.mem_of_getElem? (i := 35) rfl)))) (mvT hZ (hw _ (List.mem_of_getElem? (i := 35) rfl))) (mvT hZ (hw _ (List.mem_of_getElem? (i := 34) rfl))) (by decide) (backOf (W := 0) (rm1 l Z a0 hw [] ai2 (0 : Int32) (10 : Int32) (10 : Int32) h152 n0 (K2.2.2.1.ext O152.2) (K2.2.2.2.ext O152.2)) hZ (hw _ (List.mem_of_getElem? (i := 36) rfl)) (hw _ (List.mem_of_getElem? (i := 4) rfl)) (by decide) (by decide)) q209a q209c (g := (mkF m 278 L_205 [(.int (0 : Int32)), (.ref ai2)])) rfl (by rw [hml]; rfl) (Steps.refl _) (argsL := [(.int (0 : Int32))]) (rest := []) (lenOf pd0_0 rfl) rfl (by show 2 * 0 + _ ≤ _; exact Nat.le_of_eq rfl) (hb hby at_278) (fun _ _ => ⟨rfl, e152, (by decide : 3 + 0 ≤ _), (by decide : 39 + 0 ≤ _)⟩)
      dsimp only [Pt.U, Pt.locs, Pt.cells, Pt.slots] at X209 l209 y209 z209 st209 hQ209
      subst l209 y209 z209
      obtain ⟨rfl, Nq209, eq209⟩ := hQ209
      have N209 := Fr.app Nz208 Nq209
      refine own_csR [(.int (own_md (0 : Int32) (10 : Int32) (10 : Int32)))] 281 st209 ?_
      refine own_tp (.int (10 : Int32)) 283 (fun _ q => XS.iload X209.here hx rfl (hb hby at_281) rfl q) ?_
      refine own_d2 286 (fun _ q => XS.icmpNo X209.here hx rfl (hb hby at_283) rfl (teq (by decide +kernel)).2 q) ?_
      refine own_tp (.int (1 : Int32)) 287 (fun _ q => XS.iconst X209.here hx rfl (hb hby at_286) q) ?_
      refine own_d0 291 (fun _ q => XS.goto X209.here hx rfl (pc0 := 287) (pc' := 291) rfl (hb hby at_287) (by decide) (by decide) q) ?_
      exact own_retN (t := .boolean) X209 hx hrt (hb hby at_291) (by simp) hlk (by decide) (by decide) eq209 (⟨rfl, N209⟩)
    ·
      refine own_d1 245 (fun _ q => XS.ifNo X152.here hx rfl (hb hby at_242) rfl ((if0 _ _).trans (feq c202).1) q) ?_
      refine own_tp (.int (1 : Int32)) 246 (fun _ q => XS.iconst X152.here hx rfl (hb hby at_245) q) ?_
      refine own_d0 250 (fun _ q => XS.goto X152.here hx rfl (pc0 := 246) (pc' := 250) rfl (hb hby at_246) (by decide) (by decide) q) ?_
      let L_210 : Array Slot := #[.val (.int p0), .val (.int p1), .val (.int (2147483647 : Int32)), .val (.ref b53), .val (.ref b94), .val (.ref b123), .val (.int (2 : Int32)), .val (.int (1 : Int32)), .unset]
      refine own_ls L_210 252 (fun _ q => XS.istore X152.here hx rfl (hb hby at_250) rfl (l' := L_210) rfl q) ?_
      refine own_tp (.int (1 : Int32)) 254 (fun _ q => XS.iload X152.here hx rfl (hb hby at_252) rfl q) ?_
      refine own_d1 257 (fun _ q => XS.ifNo X152.here hx rfl (hb hby at_254) rfl ((if0 _ _).trans (feq (by decide : ¬ ((1 : Int32) = (0 : Int32)))).1) q) ?_
      refine own_tp (.ref b94) 259 (fun _ q => XS.aload X152.here hx rfl (hb hby at_257) rfl rfl q) ?_
      refine own_tp (.int (2 : Int32)) 261 (fun _ q => XS.iload X152.here hx rfl (hb hby at_259) rfl q) ?_
      have f211 := ((((((((((((((V121'.ext E123).other W128 ne126).other W130 ne126).other W132 ne126).other W134 ne126).other W136 ne126).other W138 ne126).other W140 ne126).other W142 ne126).other W144 ne126).other W146 ne126).other W148 ne126).other W150 ne126).other W152 ne126)
      obtain ⟨cl212, Ar212, q212, S212, Nn212, H212, G212⟩ := (id f211)
      have hin212 : ¬ ((2 : Int32) < 0 ∨ cl212.slots.size ≤ ((2 : Int32)).toNatClampNeg) := inb_of S212 ⟨by decide, by decide⟩
      have hat212 : cl212.slots[((2 : Int32)).toNatClampNeg]? = some (.int (10 : Int32)) := H212.at hin212 rfl
      refine own_t2 (.int (10 : Int32)) 262 (fun _ q => X152.iaload hx (j := (2 : Int32)) (v := (.int (10 : Int32))) (by rw [e152]; exact Ar212.1) (State.isArrayOf_alike hZ.alike Ar212.2.1) Ar212.2.2 hin212 hat212 (g := (mkF m 261 L_210 [(.int (2 : Int32)), (.ref b94)])) rfl rfl (hb hby at_261) _ q) ?_
      refine own_d0 270 (fun _ q => XS.goto X152.here hx rfl (pc0 := 262) (pc' := 270) rfl (hb hby at_262) (by decide) (by decide) q) ?_
      let L_213 : Array Slot := #[.val (.int p0), .val (.int p1), .val (.int (2147483647 : Int32)), .val (.ref b53), .val (.ref b94), .val (.ref b123), .val (.int (2 : Int32)), .val (.int (1 : Int32)), .val (.int (10 : Int32))]
      refine own_ls L_213 272 (fun _ q => XS.istore X152.here hx rfl (hb hby at_270) rfl (l' := L_213) rfl q) ?_
      refine own_tp (.ref b53) 273 (fun _ q => XS.aloadN X152.here hx rfl (hb hby at_272) rfl rfl q) ?_
      refine own_tp (.int (2 : Int32)) 275 (fun _ q => XS.iload X152.here hx rfl (hb hby at_273) rfl q) ?_
      have f214 := ((((((((((((((f125.ext E123).other W128 ne124).other W130 ne124).other W132 ne124).other W134 ne124).other W136 ne124).other W138 ne124).other W140 ne124).other W142 ne124).other W144 ne124).other W146 ne124).other W148 ne124).other W150 ne124).other W152 ne124)
      obtain ⟨cl215, Ar215, q215, S215, Nn215, H215, G215⟩ := (id f214)
      have hin215 : ¬ ((2 : Int32) < 0 ∨ cl215.slots.size ≤ ((2 : Int32)).toNatClampNeg) := inb_of S215 ⟨by decide, by decide⟩
      have hat215 : cl215.slots[((2 : Int32)).toNatClampNeg]? = some (.ref ai2) := H215.at hin215 rfl
      refine own_t2 (.ref ai2) 276 (fun _ q => X152.aaload hx (j := (2 : Int32)) (v := (.ref ai2)) (by rw [e152]; exact Ar215.1) (State.isArrayOf_alike hZ.alike Ar215.2.1) rfl Ar215.2.2 hin215 hat215 (g := (mkF m 275 L_213 [(.int (2 : Int32)), (.ref b53)])) rfl rfl (hb hby at_275) _ q) ?_
      refine own_tp (.int (1 : Int32)) 278 (fun _ q => XS.iload X152.here hx rfl (hb hby at_276) rfl q) ?_
      obtain ⟨Lz216, Xz216, Nz216⟩ : ∃ Lz, Stand p l e room_1 s m #[(.int p0), (.int p1)] below meth c T152 Lz 3 39 ∧ Fr n0 Lz := ⟨_, X152, N152⟩
      obtain ⟨cq217, kq217, q217a, q217b, q217c⟩ := isOf hZ e152 (K2.2.1.ext O152.2)
      obtain ⟨_, _, ⟨T217, L217, k217, n217⟩, -, X217, ⟨Lc217, hQ217, l217, y217, z217⟩, st217⟩ := Xz216.virtualBack hx (y := (⟨"com/example/unit_step/unitstep/IntegerType", "maxDigits", "(Z)I"⟩ : MethodName)) (z := (⟨"com/example/unit_step/unitstep/IntegerType", "maxDigits", "(Z)I"⟩ : MethodName)) hown (mvT hZ (hw _ (List.mem_of_getElem? (i := 32) rfl))) (mvT hZ (hw _ (List.mem_of_getElem? (i := 33) rfl))) (notFace_of_selects (args := #[]) (mvT hZ (hw _ (List.mem_of_getElem? (i := 35) rfl)))) (mvT hZ (hw _ (List.mem_of_getElem? (i := 35) rfl))) (mvT hZ (hw _ (List.mem_of_getElem? (i := 34) rfl))) (by decide) (backOf (W := 0) (rm1 l Z a0 hw [] ai2 (1 : Int32) (10 : Int32) (10 : Int32) h152 n0 (K2.2.2.1.ext O152.2) (K2.2.2.2.ext O152.2)) hZ (hw _ (List.mem_of_getElem? (i := 36) rfl)) (hw _ (List.mem_of_getElem? (i := 4) rfl)) (by decide) (by decide)) q217a q217c (g := (mkF m 278 L_213 [(.int (1 : Int32)), (.ref ai2)])) rfl (by rw [hml]; rfl) (Steps.refl _) (argsL := [(.int (1 : Int32))]) (rest := []) (lenOf pd0_0 rfl) rfl (by show 2 * 0 + _ ≤ _; exact Nat.le_of_eq rfl) (hb hby at_278) (fun _ _ => ⟨rfl, e152, (by decide : 3 + 0 ≤ _), (by decide : 39 + 0 ≤ _)⟩)
      dsimp only [Pt.U, Pt.locs, Pt.cells, Pt.slots] at X217 l217 y217 z217 st217 hQ217
      subst l217 y217 z217
      obtain ⟨rfl, Nq217, eq217⟩ := hQ217
      have N217 := Fr.app Nz216 Nq217
      refine own_csR [(.int (own_md (1 : Int32) (10 : Int32) (10 : Int32)))] 281 st217 ?_
      refine own_tp (.int (10 : Int32)) 283 (fun _ q => XS.iload X217.here hx rfl (hb hby at_281) rfl q) ?_
      refine own_d2 286 (fun _ q => XS.icmpNo X217.here hx rfl (hb hby at_283) rfl (teq (by decide +kernel)).2 q) ?_
      refine own_tp (.int (1 : Int32)) 287 (fun _ q => XS.iconst X217.here hx rfl (hb hby at_286) q) ?_
      refine own_d0 291 (fun _ q => XS.goto X217.here hx rfl (pc0 := 287) (pc' := 291) rfl (hb hby at_287) (by decide) (by decide) q) ?_
      exact own_retN (t := .boolean) X217 hx hrt (hb hby at_291) (by simp) hlk (by decide) (by decide) eq217 (⟨rfl, N217⟩)
  ·
    rw [hk157]
    let L_218 : Array Slot := #[.val (.int p0), .val (.int p1), .val (.int (2147483647 : Int32)), .val (.ref b53), .val (.ref b94), .val (.ref b123), .val (.int (3 : Int32)), .unset, .unset]
    refine own_ls L_218 239 (fun _ q => XS.istore X152.here hx rfl (hb hby at_237) rfl (l' := L_218) rfl q) ?_
    refine own_tp (.int p1) 240 (fun _ q => XS.iloadN X152.here hx rfl (hb hby at_239) rfl q) ?_
    refine own_tp (.int (1 : Int32)) 241 (fun _ q => XS.iconst X152.here hx rfl (hb hby at_240) q) ?_
    refine own_t2 (.int (p1 &&& (1 : Int32))) 242 (fun _ q => XS.iand X152.here hx rfl (hb hby at_241) rfl q) ?_
    by_cases c219 : (p1 &&& (1 : Int32)) = (0 : Int32)
    ·
      refine own_d1 249 (fun _ q => XS.ifYes X152.here hx rfl (pc0 := 242) (pc' := 249) rfl (hb hby at_242) rfl ((if0 _ _).trans (teq c219).1) (by decide) (by decide) q) ?_
      refine own_tp (.int (0 : Int32)) 250 (fun _ q => XS.iconst X152.here hx rfl (hb hby at_249) q) ?_
      let L_220 : Array Slot := #[.val (.int p0), .val (.int p1), .val (.int (2147483647 : Int32)), .val (.ref b53), .val (.ref b94), .val (.ref b123), .val (.int (3 : Int32)), .val (.int (0 : Int32)), .unset]
      refine own_ls L_220 252 (fun _ q => XS.istore X152.here hx rfl (hb hby at_250) rfl (l' := L_220) rfl q) ?_
      refine own_tp (.int (0 : Int32)) 254 (fun _ q => XS.iload X152.here hx rfl (hb hby at_252) rfl q) ?_
      refine own_d1 265 (fun _ q => XS.ifYes X152.here hx rfl (pc0 := 254) (pc' := 265) rfl (hb hby at_254) rfl ((if0 _ _).trans (teq (by decide : (0 : Int32) = (0 : Int32))).1) (by decide) (by decide) q) ?_
      refine own_tp (.ref b123) 267 (fun _ q => XS.aload X152.here hx rfl (hb hby at_265) rfl rfl q) ?_
      refine own_tp (.int (3 : Int32)) 269 (fun _ q => XS.iload X152.here hx rfl (hb hby at_267) rfl q) ?_
      obtain ⟨cl221, Ar221, q221, S221, Nn221, H221, G221⟩ := (id V152')
      have hin221 : ¬ ((3 : Int32) < 0 ∨ cl221.slots.size ≤ ((3 : Int32)).toNatClampNeg) := inb_of S221 ⟨by decide, by decide⟩
      have hat221 : cl221.slots[((3 : Int32)).toNatClampNeg]? = some (.int (5 : Int32)) := H221.at hin221 rfl
      refine own_t2 (.int (5 : Int32)) 270 (fun _ q => X152.iaload hx (j := (3 : Int32)) (v := (.int (5 : Int32))) (by rw [e152]; exact Ar221.1) (State.isArrayOf_alike hZ.alike Ar221.2.1) Ar221.2.2 hin221 hat221 (g := (mkF m 269 L_220 [(.int (3 : Int32)), (.ref b123)])) rfl rfl (hb hby at_269) _ q) ?_
      let L_222 : Array Slot := #[.val (.int p0), .val (.int p1), .val (.int (2147483647 : Int32)), .val (.ref b53), .val (.ref b94), .val (.ref b123), .val (.int (3 : Int32)), .val (.int (0 : Int32)), .val (.int (5 : Int32))]
      refine own_ls L_222 272 (fun _ q => XS.istore X152.here hx rfl (hb hby at_270) rfl (l' := L_222) rfl q) ?_
      refine own_tp (.ref b53) 273 (fun _ q => XS.aloadN X152.here hx rfl (hb hby at_272) rfl rfl q) ?_
      refine own_tp (.int (3 : Int32)) 275 (fun _ q => XS.iload X152.here hx rfl (hb hby at_273) rfl q) ?_
      have f223 := ((((((((((((((f125.ext E123).other W128 ne124).other W130 ne124).other W132 ne124).other W134 ne124).other W136 ne124).other W138 ne124).other W140 ne124).other W142 ne124).other W144 ne124).other W146 ne124).other W148 ne124).other W150 ne124).other W152 ne124)
      obtain ⟨cl224, Ar224, q224, S224, Nn224, H224, G224⟩ := (id f223)
      have hin224 : ¬ ((3 : Int32) < 0 ∨ cl224.slots.size ≤ ((3 : Int32)).toNatClampNeg) := inb_of S224 ⟨by decide, by decide⟩
      have hat224 : cl224.slots[((3 : Int32)).toNatClampNeg]? = some (.ref ai3) := H224.at hin224 rfl
      refine own_t2 (.ref ai3) 276 (fun _ q => X152.aaload hx (j := (3 : Int32)) (v := (.ref ai3)) (by rw [e152]; exact Ar224.1) (State.isArrayOf_alike hZ.alike Ar224.2.1) rfl Ar224.2.2 hin224 hat224 (g := (mkF m 275 L_222 [(.int (3 : Int32)), (.ref b53)])) rfl rfl (hb hby at_275) _ q) ?_
      refine own_tp (.int (0 : Int32)) 278 (fun _ q => XS.iload X152.here hx rfl (hb hby at_276) rfl q) ?_
      obtain ⟨Lz225, Xz225, Nz225⟩ : ∃ Lz, Stand p l e room_1 s m #[(.int p0), (.int p1)] below meth c T152 Lz 3 39 ∧ Fr n0 Lz := ⟨_, X152, N152⟩
      obtain ⟨cq226, kq226, q226a, q226b, q226c⟩ := isOf hZ e152 (K3.2.1.ext O152.2)
      obtain ⟨_, _, ⟨T226, L226, k226, n226⟩, -, X226, ⟨Lc226, hQ226, l226, y226, z226⟩, st226⟩ := Xz225.virtualBack hx (y := (⟨"com/example/unit_step/unitstep/IntegerType", "maxDigits", "(Z)I"⟩ : MethodName)) (z := (⟨"com/example/unit_step/unitstep/IntegerType", "maxDigits", "(Z)I"⟩ : MethodName)) hown (mvT hZ (hw _ (List.mem_of_getElem? (i := 32) rfl))) (mvT hZ (hw _ (List.mem_of_getElem? (i := 33) rfl))) (notFace_of_selects (args := #[]) (mvT hZ (hw _ (List.mem_of_getElem? (i := 35) rfl)))) (mvT hZ (hw _ (List.mem_of_getElem? (i := 35) rfl))) (mvT hZ (hw _ (List.mem_of_getElem? (i := 34) rfl))) (by decide) (backOf (W := 0) (rm1 l Z a0 hw [] ai3 (0 : Int32) (5 : Int32) (5 : Int32) h152 n0 (K3.2.2.1.ext O152.2) (K3.2.2.2.ext O152.2)) hZ (hw _ (List.mem_of_getElem? (i := 36) rfl)) (hw _ (List.mem_of_getElem? (i := 4) rfl)) (by decide) (by decide)) q226a q226c (g := (mkF m 278 L_222 [(.int (0 : Int32)), (.ref ai3)])) rfl (by rw [hml]; rfl) (Steps.refl _) (argsL := [(.int (0 : Int32))]) (rest := []) (lenOf pd0_0 rfl) rfl (by show 2 * 0 + _ ≤ _; exact Nat.le_of_eq rfl) (hb hby at_278) (fun _ _ => ⟨rfl, e152, (by decide : 3 + 0 ≤ _), (by decide : 39 + 0 ≤ _)⟩)
      dsimp only [Pt.U, Pt.locs, Pt.cells, Pt.slots] at X226 l226 y226 z226 st226 hQ226
      subst l226 y226 z226
      obtain ⟨rfl, Nq226, eq226⟩ := hQ226
      have N226 := Fr.app Nz225 Nq226
      refine own_csR [(.int (own_md (0 : Int32) (5 : Int32) (5 : Int32)))] 281 st226 ?_
      refine own_tp (.int (5 : Int32)) 283 (fun _ q => XS.iload X226.here hx rfl (hb hby at_281) rfl q) ?_
      refine own_d2 286 (fun _ q => XS.icmpNo X226.here hx rfl (hb hby at_283) rfl (teq (by decide +kernel)).2 q) ?_
      refine own_tp (.int (1 : Int32)) 287 (fun _ q => XS.iconst X226.here hx rfl (hb hby at_286) q) ?_
      refine own_d0 291 (fun _ q => XS.goto X226.here hx rfl (pc0 := 287) (pc' := 291) rfl (hb hby at_287) (by decide) (by decide) q) ?_
      exact own_retN (t := .boolean) X226 hx hrt (hb hby at_291) (by simp) hlk (by decide) (by decide) eq226 (⟨rfl, N226⟩)
    ·
      refine own_d1 245 (fun _ q => XS.ifNo X152.here hx rfl (hb hby at_242) rfl ((if0 _ _).trans (feq c219).1) q) ?_
      refine own_tp (.int (1 : Int32)) 246 (fun _ q => XS.iconst X152.here hx rfl (hb hby at_245) q) ?_
      refine own_d0 250 (fun _ q => XS.goto X152.here hx rfl (pc0 := 246) (pc' := 250) rfl (hb hby at_246) (by decide) (by decide) q) ?_
      let L_227 : Array Slot := #[.val (.int p0), .val (.int p1), .val (.int (2147483647 : Int32)), .val (.ref b53), .val (.ref b94), .val (.ref b123), .val (.int (3 : Int32)), .val (.int (1 : Int32)), .unset]
      refine own_ls L_227 252 (fun _ q => XS.istore X152.here hx rfl (hb hby at_250) rfl (l' := L_227) rfl q) ?_
      refine own_tp (.int (1 : Int32)) 254 (fun _ q => XS.iload X152.here hx rfl (hb hby at_252) rfl q) ?_
      refine own_d1 257 (fun _ q => XS.ifNo X152.here hx rfl (hb hby at_254) rfl ((if0 _ _).trans (feq (by decide : ¬ ((1 : Int32) = (0 : Int32)))).1) q) ?_
      refine own_tp (.ref b94) 259 (fun _ q => XS.aload X152.here hx rfl (hb hby at_257) rfl rfl q) ?_
      refine own_tp (.int (3 : Int32)) 261 (fun _ q => XS.iload X152.here hx rfl (hb hby at_259) rfl q) ?_
      have f228 := ((((((((((((((V121'.ext E123).other W128 ne126).other W130 ne126).other W132 ne126).other W134 ne126).other W136 ne126).other W138 ne126).other W140 ne126).other W142 ne126).other W144 ne126).other W146 ne126).other W148 ne126).other W150 ne126).other W152 ne126)
      obtain ⟨cl229, Ar229, q229, S229, Nn229, H229, G229⟩ := (id f228)
      have hin229 : ¬ ((3 : Int32) < 0 ∨ cl229.slots.size ≤ ((3 : Int32)).toNatClampNeg) := inb_of S229 ⟨by decide, by decide⟩
      have hat229 : cl229.slots[((3 : Int32)).toNatClampNeg]? = some (.int (5 : Int32)) := H229.at hin229 rfl
      refine own_t2 (.int (5 : Int32)) 262 (fun _ q => X152.iaload hx (j := (3 : Int32)) (v := (.int (5 : Int32))) (by rw [e152]; exact Ar229.1) (State.isArrayOf_alike hZ.alike Ar229.2.1) Ar229.2.2 hin229 hat229 (g := (mkF m 261 L_227 [(.int (3 : Int32)), (.ref b94)])) rfl rfl (hb hby at_261) _ q) ?_
      refine own_d0 270 (fun _ q => XS.goto X152.here hx rfl (pc0 := 262) (pc' := 270) rfl (hb hby at_262) (by decide) (by decide) q) ?_
      let L_230 : Array Slot := #[.val (.int p0), .val (.int p1), .val (.int (2147483647 : Int32)), .val (.ref b53), .val (.ref b94), .val (.ref b123), .val (.int (3 : Int32)), .val (.int (1 : Int32)), .val (.int (5 : Int32))]
      refine own_ls L_230 272 (fun _ q => XS.istore X152.here hx rfl (hb hby at_270) rfl (l' := L_230) rfl q) ?_
      refine own_tp (.ref b53) 273 (fun _ q => XS.aloadN X152.here hx rfl (hb hby at_272) rfl rfl q) ?_
      refine own_tp (.int (3 : Int32)) 275 (fun _ q => XS.iload X152.here hx rfl (hb hby at_273) rfl q) ?_
      have f231 := ((((((((((((((f125.ext E123).other W128 ne124).other W130 ne124).other W132 ne124).other W134 ne124).other W136 ne124).other W138 ne124).other W140 ne124).other W142 ne124).other W144 ne124).other W146 ne124).other W148 ne124).other W150 ne124).other W152 ne124)
      obtain ⟨cl232, Ar232, q232, S232, Nn232, H232, G232⟩ := (id f231)
      have hin232 : ¬ ((3 : Int32) < 0 ∨ cl232.slots.size ≤ ((3 : Int32)).toNatClampNeg) := inb_of S232 ⟨by decide, by decide⟩
      have hat232 : cl232.slots[((3 : Int32)).toNatClampNeg]? = some (.ref ai3) := H232.at hin232 rfl
      refine own_t2 (.ref ai3) 276 (fun _ q => X152.aaload hx (j := (3 : Int32)) (v := (.ref ai3)) (by rw [e152]; exact Ar232.1) (State.isArrayOf_alike hZ.alike Ar232.2.1) rfl Ar232.2.2 hin232 hat232 (g := (mkF m 275 L_230 [(.int (3 : Int32)), (.ref b53)])) rfl rfl (hb hby at_275) _ q) ?_
      refine own_tp (.int (1 : Int32)) 278 (fun _ q => XS.iload X152.here hx rfl (hb hby at_276) rfl q) ?_
      obtain ⟨Lz233, Xz233, Nz233⟩ : ∃ Lz, Stand p l e room_1 s m #[(.int p0), (.int p1)] below meth c T152 Lz 3 39 ∧ Fr n0 Lz := ⟨_, X152, N152⟩
      obtain ⟨cq234, kq234, q234a, q234b, q234c⟩ := isOf hZ e152 (K3.2.1.ext O152.2)
      obtain ⟨_, _, ⟨T234, L234, k234, n234⟩, -, X234, ⟨Lc234, hQ234, l234, y234, z234⟩, st234⟩ := Xz233.virtualBack hx (y := (⟨"com/example/unit_step/unitstep/IntegerType", "maxDigits", "(Z)I"⟩ : MethodName)) (z := (⟨"com/example/unit_step/unitstep/IntegerType", "maxDigits", "(Z)I"⟩ : MethodName)) hown (mvT hZ (hw _ (List.mem_of_getElem? (i := 32) rfl))) (mvT hZ (hw _ (List.mem_of_getElem? (i := 33) rfl))) (notFace_of_selects (args := #[]) (mvT hZ (hw _ (List.mem_of_getElem? (i := 35) rfl)))) (mvT hZ (hw _ (List.mem_of_getElem? (i := 35) rfl))) (mvT hZ (hw _ (List.mem_of_getElem? (i := 34) rfl))) (by decide) (backOf (W := 0) (rm1 l Z a0 hw [] ai3 (1 : Int32) (5 : Int32) (5 : Int32) h152 n0 (K3.2.2.1.ext O152.2) (K3.2.2.2.ext O152.2)) hZ (hw _ (List.mem_of_getElem? (i := 36) rfl)) (hw _ (List.mem_of_getElem? (i := 4) rfl)) (by decide) (by decide)) q234a q234c (g := (mkF m 278 L_230 [(.int (1 : Int32)), (.ref ai3)])) rfl (by rw [hml]; rfl) (Steps.refl _) (argsL := [(.int (1 : Int32))]) (rest := []) (lenOf pd0_0 rfl) rfl (by show 2 * 0 + _ ≤ _; exact Nat.le_of_eq rfl) (hb hby at_278) (fun _ _ => ⟨rfl, e152, (by decide : 3 + 0 ≤ _), (by decide : 39 + 0 ≤ _)⟩)
      dsimp only [Pt.U, Pt.locs, Pt.cells, Pt.slots] at X234 l234 y234 z234 st234 hQ234
      subst l234 y234 z234
      obtain ⟨rfl, Nq234, eq234⟩ := hQ234
      have N234 := Fr.app Nz233 Nq234
      refine own_csR [(.int (own_md (1 : Int32) (5 : Int32) (5 : Int32)))] 281 st234 ?_
      refine own_tp (.int (5 : Int32)) 283 (fun _ q => XS.iload X234.here hx rfl (hb hby at_281) rfl q) ?_
      refine own_d2 286 (fun _ q => XS.icmpNo X234.here hx rfl (hb hby at_283) rfl (teq (by decide +kernel)).2 q) ?_
      refine own_tp (.int (1 : Int32)) 287 (fun _ q => XS.iconst X234.here hx rfl (hb hby at_286) q) ?_
      refine own_d0 291 (fun _ q => XS.goto X234.here hx rfl (pc0 := 287) (pc' := 291) rfl (hb hby at_287) (by decide) (by decide) q) ?_
      exact own_retN (t := .boolean) X234 hx hrt (hb hby at_291) (by simp) hlk (by decide) (by decide) eq234 (⟨rfl, N234⟩)
  ·
    rw [hk158]
    let L_235 : Array Slot := #[.val (.int p0), .val (.int p1), .val (.int (2147483647 : Int32)), .val (.ref b53), .val (.ref b94), .val (.ref b123), .val (.int (4 : Int32)), .unset, .unset]
    refine own_ls L_235 239 (fun _ q => XS.istore X152.here hx rfl (hb hby at_237) rfl (l' := L_235) rfl q) ?_
    refine own_tp (.int p1) 240 (fun _ q => XS.iloadN X152.here hx rfl (hb hby at_239) rfl q) ?_
    refine own_tp (.int (1 : Int32)) 241 (fun _ q => XS.iconst X152.here hx rfl (hb hby at_240) q) ?_
    refine own_t2 (.int (p1 &&& (1 : Int32))) 242 (fun _ q => XS.iand X152.here hx rfl (hb hby at_241) rfl q) ?_
    by_cases c236 : (p1 &&& (1 : Int32)) = (0 : Int32)
    ·
      refine own_d1 249 (fun _ q => XS.ifYes X152.here hx rfl (pc0 := 242) (pc' := 249) rfl (hb hby at_242) rfl ((if0 _ _).trans (teq c236).1) (by decide) (by decide) q) ?_
      refine own_tp (.int (0 : Int32)) 250 (fun _ q => XS.iconst X152.here hx rfl (hb hby at_249) q) ?_
      let L_237 : Array Slot := #[.val (.int p0), .val (.int p1), .val (.int (2147483647 : Int32)), .val (.ref b53), .val (.ref b94), .val (.ref b123), .val (.int (4 : Int32)), .val (.int (0 : Int32)), .unset]
      refine own_ls L_237 252 (fun _ q => XS.istore X152.here hx rfl (hb hby at_250) rfl (l' := L_237) rfl q) ?_
      refine own_tp (.int (0 : Int32)) 254 (fun _ q => XS.iload X152.here hx rfl (hb hby at_252) rfl q) ?_
      refine own_d1 265 (fun _ q => XS.ifYes X152.here hx rfl (pc0 := 254) (pc' := 265) rfl (hb hby at_254) rfl ((if0 _ _).trans (teq (by decide : (0 : Int32) = (0 : Int32))).1) (by decide) (by decide) q) ?_
      refine own_tp (.ref b123) 267 (fun _ q => XS.aload X152.here hx rfl (hb hby at_265) rfl rfl q) ?_
      refine own_tp (.int (4 : Int32)) 269 (fun _ q => XS.iload X152.here hx rfl (hb hby at_267) rfl q) ?_
      obtain ⟨cl238, Ar238, q238, S238, Nn238, H238, G238⟩ := (id V152')
      have hin238 : ¬ ((4 : Int32) < 0 ∨ cl238.slots.size ≤ ((4 : Int32)).toNatClampNeg) := inb_of S238 ⟨by decide, by decide⟩
      have hat238 : cl238.slots[((4 : Int32)).toNatClampNeg]? = some (.int (3 : Int32)) := H238.at hin238 rfl
      refine own_t2 (.int (3 : Int32)) 270 (fun _ q => X152.iaload hx (j := (4 : Int32)) (v := (.int (3 : Int32))) (by rw [e152]; exact Ar238.1) (State.isArrayOf_alike hZ.alike Ar238.2.1) Ar238.2.2 hin238 hat238 (g := (mkF m 269 L_237 [(.int (4 : Int32)), (.ref b123)])) rfl rfl (hb hby at_269) _ q) ?_
      let L_239 : Array Slot := #[.val (.int p0), .val (.int p1), .val (.int (2147483647 : Int32)), .val (.ref b53), .val (.ref b94), .val (.ref b123), .val (.int (4 : Int32)), .val (.int (0 : Int32)), .val (.int (3 : Int32))]
      refine own_ls L_239 272 (fun _ q => XS.istore X152.here hx rfl (hb hby at_270) rfl (l' := L_239) rfl q) ?_
      refine own_tp (.ref b53) 273 (fun _ q => XS.aloadN X152.here hx rfl (hb hby at_272) rfl rfl q) ?_
      refine own_tp (.int (4 : Int32)) 275 (fun _ q => XS.iload X152.here hx rfl (hb hby at_273) rfl q) ?_
      have f240 := ((((((((((((((f125.ext E123).other W128 ne124).other W130 ne124).other W132 ne124).other W134 ne124).other W136 ne124).other W138 ne124).other W140 ne124).other W142 ne124).other W144 ne124).other W146 ne124).other W148 ne124).other W150 ne124).other W152 ne124)
      obtain ⟨cl241, Ar241, q241, S241, Nn241, H241, G241⟩ := (id f240)
      have hin241 : ¬ ((4 : Int32) < 0 ∨ cl241.slots.size ≤ ((4 : Int32)).toNatClampNeg) := inb_of S241 ⟨by decide, by decide⟩
      have hat241 : cl241.slots[((4 : Int32)).toNatClampNeg]? = some (.ref ai4) := H241.at hin241 rfl
      refine own_t2 (.ref ai4) 276 (fun _ q => X152.aaload hx (j := (4 : Int32)) (v := (.ref ai4)) (by rw [e152]; exact Ar241.1) (State.isArrayOf_alike hZ.alike Ar241.2.1) rfl Ar241.2.2 hin241 hat241 (g := (mkF m 275 L_239 [(.int (4 : Int32)), (.ref b53)])) rfl rfl (hb hby at_275) _ q) ?_
      refine own_tp (.int (0 : Int32)) 278 (fun _ q => XS.iload X152.here hx rfl (hb hby at_276) rfl q) ?_
      obtain ⟨Lz242, Xz242, Nz242⟩ : ∃ Lz, Stand p l e room_1 s m #[(.int p0), (.int p1)] below meth c T152 Lz 3 39 ∧ Fr n0 Lz := ⟨_, X152, N152⟩
      obtain ⟨cq243, kq243, q243a, q243b, q243c⟩ := isOf hZ e152 (K4.2.1.ext O152.2)
      obtain ⟨_, _, ⟨T243, L243, k243, n243⟩, -, X243, ⟨Lc243, hQ243, l243, y243, z243⟩, st243⟩ := Xz242.virtualBack hx (y := (⟨"com/example/unit_step/unitstep/IntegerType", "maxDigits", "(Z)I"⟩ : MethodName)) (z := (⟨"com/example/unit_step/unitstep/IntegerType", "maxDigits", "(Z)I"⟩ : MethodName)) hown (mvT hZ (hw _ (List.mem_of_getElem? (i := 32) rfl))) (mvT hZ (hw _ (List.mem_of_getElem? (i := 33) rfl))) (notFace_of_selects (args := #[]) (mvT hZ (hw _ (List.mem_of_getElem? (i := 35) rfl)))) (mvT hZ (hw _ (List.mem_of_getElem? (i := 35) rfl))) (mvT hZ (hw _ (List.mem_of_getElem? (i := 34) rfl))) (by decide) (backOf (W := 0) (rm1 l Z a0 hw [] ai4 (0 : Int32) (3 : Int32) (3 : Int32) h152 n0 (K4.2.2.1.ext O152.2) (K4.2.2.2.ext O152.2)) hZ (hw _ (List.mem_of_getElem? (i := 36) rfl)) (hw _ (List.mem_of_getElem? (i := 4) rfl)) (by decide) (by decide)) q243a q243c (g := (mkF m 278 L_239 [(.int (0 : Int32)), (.ref ai4)])) rfl (by rw [hml]; rfl) (Steps.refl _) (argsL := [(.int (0 : Int32))]) (rest := []) (lenOf pd0_0 rfl) rfl (by show 2 * 0 + _ ≤ _; exact Nat.le_of_eq rfl) (hb hby at_278) (fun _ _ => ⟨rfl, e152, (by decide : 3 + 0 ≤ _), (by decide : 39 + 0 ≤ _)⟩)
      dsimp only [Pt.U, Pt.locs, Pt.cells, Pt.slots] at X243 l243 y243 z243 st243 hQ243
      subst l243 y243 z243
      obtain ⟨rfl, Nq243, eq243⟩ := hQ243
      have N243 := Fr.app Nz242 Nq243
      refine own_csR [(.int (own_md (0 : Int32) (3 : Int32) (3 : Int32)))] 281 st243 ?_
      refine own_tp (.int (3 : Int32)) 283 (fun _ q => XS.iload X243.here hx rfl (hb hby at_281) rfl q) ?_
      refine own_d2 286 (fun _ q => XS.icmpNo X243.here hx rfl (hb hby at_283) rfl (teq (by decide +kernel)).2 q) ?_
      refine own_tp (.int (1 : Int32)) 287 (fun _ q => XS.iconst X243.here hx rfl (hb hby at_286) q) ?_
      refine own_d0 291 (fun _ q => XS.goto X243.here hx rfl (pc0 := 287) (pc' := 291) rfl (hb hby at_287) (by decide) (by decide) q) ?_
      exact own_retN (t := .boolean) X243 hx hrt (hb hby at_291) (by simp) hlk (by decide) (by decide) eq243 (⟨rfl, N243⟩)
    ·
      refine own_d1 245 (fun _ q => XS.ifNo X152.here hx rfl (hb hby at_242) rfl ((if0 _ _).trans (feq c236).1) q) ?_
      refine own_tp (.int (1 : Int32)) 246 (fun _ q => XS.iconst X152.here hx rfl (hb hby at_245) q) ?_
      refine own_d0 250 (fun _ q => XS.goto X152.here hx rfl (pc0 := 246) (pc' := 250) rfl (hb hby at_246) (by decide) (by decide) q) ?_
      let L_244 : Array Slot := #[.val (.int p0), .val (.int p1), .val (.int (2147483647 : Int32)), .val (.ref b53), .val (.ref b94), .val (.ref b123), .val (.int (4 : Int32)), .val (.int (1 : Int32)), .unset]
      refine own_ls L_244 252 (fun _ q => XS.istore X152.here hx rfl (hb hby at_250) rfl (l' := L_244) rfl q) ?_
      refine own_tp (.int (1 : Int32)) 254 (fun _ q => XS.iload X152.here hx rfl (hb hby at_252) rfl q) ?_
      refine own_d1 257 (fun _ q => XS.ifNo X152.here hx rfl (hb hby at_254) rfl ((if0 _ _).trans (feq (by decide : ¬ ((1 : Int32) = (0 : Int32)))).1) q) ?_
      refine own_tp (.ref b94) 259 (fun _ q => XS.aload X152.here hx rfl (hb hby at_257) rfl rfl q) ?_
      refine own_tp (.int (4 : Int32)) 261 (fun _ q => XS.iload X152.here hx rfl (hb hby at_259) rfl q) ?_
      have f245 := ((((((((((((((V121'.ext E123).other W128 ne126).other W130 ne126).other W132 ne126).other W134 ne126).other W136 ne126).other W138 ne126).other W140 ne126).other W142 ne126).other W144 ne126).other W146 ne126).other W148 ne126).other W150 ne126).other W152 ne126)
      obtain ⟨cl246, Ar246, q246, S246, Nn246, H246, G246⟩ := (id f245)
      have hin246 : ¬ ((4 : Int32) < 0 ∨ cl246.slots.size ≤ ((4 : Int32)).toNatClampNeg) := inb_of S246 ⟨by decide, by decide⟩
      have hat246 : cl246.slots[((4 : Int32)).toNatClampNeg]? = some (.int (3 : Int32)) := H246.at hin246 rfl
      refine own_t2 (.int (3 : Int32)) 262 (fun _ q => X152.iaload hx (j := (4 : Int32)) (v := (.int (3 : Int32))) (by rw [e152]; exact Ar246.1) (State.isArrayOf_alike hZ.alike Ar246.2.1) Ar246.2.2 hin246 hat246 (g := (mkF m 261 L_244 [(.int (4 : Int32)), (.ref b94)])) rfl rfl (hb hby at_261) _ q) ?_
      refine own_d0 270 (fun _ q => XS.goto X152.here hx rfl (pc0 := 262) (pc' := 270) rfl (hb hby at_262) (by decide) (by decide) q) ?_
      let L_247 : Array Slot := #[.val (.int p0), .val (.int p1), .val (.int (2147483647 : Int32)), .val (.ref b53), .val (.ref b94), .val (.ref b123), .val (.int (4 : Int32)), .val (.int (1 : Int32)), .val (.int (3 : Int32))]
      refine own_ls L_247 272 (fun _ q => XS.istore X152.here hx rfl (hb hby at_270) rfl (l' := L_247) rfl q) ?_
      refine own_tp (.ref b53) 273 (fun _ q => XS.aloadN X152.here hx rfl (hb hby at_272) rfl rfl q) ?_
      refine own_tp (.int (4 : Int32)) 275 (fun _ q => XS.iload X152.here hx rfl (hb hby at_273) rfl q) ?_
      have f248 := ((((((((((((((f125.ext E123).other W128 ne124).other W130 ne124).other W132 ne124).other W134 ne124).other W136 ne124).other W138 ne124).other W140 ne124).other W142 ne124).other W144 ne124).other W146 ne124).other W148 ne124).other W150 ne124).other W152 ne124)
      obtain ⟨cl249, Ar249, q249, S249, Nn249, H249, G249⟩ := (id f248)
      have hin249 : ¬ ((4 : Int32) < 0 ∨ cl249.slots.size ≤ ((4 : Int32)).toNatClampNeg) := inb_of S249 ⟨by decide, by decide⟩
      have hat249 : cl249.slots[((4 : Int32)).toNatClampNeg]? = some (.ref ai4) := H249.at hin249 rfl
      refine own_t2 (.ref ai4) 276 (fun _ q => X152.aaload hx (j := (4 : Int32)) (v := (.ref ai4)) (by rw [e152]; exact Ar249.1) (State.isArrayOf_alike hZ.alike Ar249.2.1) rfl Ar249.2.2 hin249 hat249 (g := (mkF m 275 L_247 [(.int (4 : Int32)), (.ref b53)])) rfl rfl (hb hby at_275) _ q) ?_
      refine own_tp (.int (1 : Int32)) 278 (fun _ q => XS.iload X152.here hx rfl (hb hby at_276) rfl q) ?_
      obtain ⟨Lz250, Xz250, Nz250⟩ : ∃ Lz, Stand p l e room_1 s m #[(.int p0), (.int p1)] below meth c T152 Lz 3 39 ∧ Fr n0 Lz := ⟨_, X152, N152⟩
      obtain ⟨cq251, kq251, q251a, q251b, q251c⟩ := isOf hZ e152 (K4.2.1.ext O152.2)
      obtain ⟨_, _, ⟨T251, L251, k251, n251⟩, -, X251, ⟨Lc251, hQ251, l251, y251, z251⟩, st251⟩ := Xz250.virtualBack hx (y := (⟨"com/example/unit_step/unitstep/IntegerType", "maxDigits", "(Z)I"⟩ : MethodName)) (z := (⟨"com/example/unit_step/unitstep/IntegerType", "maxDigits", "(Z)I"⟩ : MethodName)) hown (mvT hZ (hw _ (List.mem_of_getElem? (i := 32) rfl))) (mvT hZ (hw _ (List.mem_of_getElem? (i := 33) rfl))) (notFace_of_selects (args := #[]) (mvT hZ (hw _ (List.mem_of_getElem? (i := 35) rfl)))) (mvT hZ (hw _ (List.mem_of_getElem? (i := 35) rfl))) (mvT hZ (hw _ (List.mem_of_getElem? (i := 34) rfl))) (by decide) (backOf (W := 0) (rm1 l Z a0 hw [] ai4 (1 : Int32) (3 : Int32) (3 : Int32) h152 n0 (K4.2.2.1.ext O152.2) (K4.2.2.2.ext O152.2)) hZ (hw _ (List.mem_of_getElem? (i := 36) rfl)) (hw _ (List.mem_of_getElem? (i := 4) rfl)) (by decide) (by decide)) q251a q251c (g := (mkF m 278 L_247 [(.int (1 : Int32)), (.ref ai4)])) rfl (by rw [hml]; rfl) (Steps.refl _) (argsL := [(.int (1 : Int32))]) (rest := []) (lenOf pd0_0 rfl) rfl (by show 2 * 0 + _ ≤ _; exact Nat.le_of_eq rfl) (hb hby at_278) (fun _ _ => ⟨rfl, e152, (by decide : 3 + 0 ≤ _), (by decide : 39 + 0 ≤ _)⟩)
      dsimp only [Pt.U, Pt.locs, Pt.cells, Pt.slots] at X251 l251 y251 z251 st251 hQ251
      subst l251 y251 z251
      obtain ⟨rfl, Nq251, eq251⟩ := hQ251
      have N251 := Fr.app Nz250 Nq251
      refine own_csR [(.int (own_md (1 : Int32) (3 : Int32) (3 : Int32)))] 281 st251 ?_
      refine own_tp (.int (3 : Int32)) 283 (fun _ q => XS.iload X251.here hx rfl (hb hby at_281) rfl q) ?_
      refine own_d2 286 (fun _ q => XS.icmpNo X251.here hx rfl (hb hby at_283) rfl (teq (by decide +kernel)).2 q) ?_
      refine own_tp (.int (1 : Int32)) 287 (fun _ q => XS.iconst X251.here hx rfl (hb hby at_286) q) ?_
      refine own_d0 291 (fun _ q => XS.goto X251.here hx rfl (pc0 := 287) (pc' := 291) rfl (hb hby at_287) (by decide) (by decide) q) ?_
      exact own_retN (t := .boolean) X251 hx hrt (hb hby at_291) (by simp) hlk (by decide) (by decide) eq251 (⟨rfl, N251⟩)
  ·
    rw [hk159]
    let L_252 : Array Slot := #[.val (.int p0), .val (.int p1), .val (.int (2147483647 : Int32)), .val (.ref b53), .val (.ref b94), .val (.ref b123), .val (.int (5 : Int32)), .unset, .unset]
    refine own_ls L_252 239 (fun _ q => XS.istore X152.here hx rfl (hb hby at_237) rfl (l' := L_252) rfl q) ?_
    refine own_tp (.int p1) 240 (fun _ q => XS.iloadN X152.here hx rfl (hb hby at_239) rfl q) ?_
    refine own_tp (.int (1 : Int32)) 241 (fun _ q => XS.iconst X152.here hx rfl (hb hby at_240) q) ?_
    refine own_t2 (.int (p1 &&& (1 : Int32))) 242 (fun _ q => XS.iand X152.here hx rfl (hb hby at_241) rfl q) ?_
    by_cases c253 : (p1 &&& (1 : Int32)) = (0 : Int32)
    ·
      refine own_d1 249 (fun _ q => XS.ifYes X152.here hx rfl (pc0 := 242) (pc' := 249) rfl (hb hby at_242) rfl ((if0 _ _).trans (teq c253).1) (by decide) (by decide) q) ?_
      refine own_tp (.int (0 : Int32)) 250 (fun _ q => XS.iconst X152.here hx rfl (hb hby at_249) q) ?_
      let L_254 : Array Slot := #[.val (.int p0), .val (.int p1), .val (.int (2147483647 : Int32)), .val (.ref b53), .val (.ref b94), .val (.ref b123), .val (.int (5 : Int32)), .val (.int (0 : Int32)), .unset]
      refine own_ls L_254 252 (fun _ q => XS.istore X152.here hx rfl (hb hby at_250) rfl (l' := L_254) rfl q) ?_
      refine own_tp (.int (0 : Int32)) 254 (fun _ q => XS.iload X152.here hx rfl (hb hby at_252) rfl q) ?_
      refine own_d1 265 (fun _ q => XS.ifYes X152.here hx rfl (pc0 := 254) (pc' := 265) rfl (hb hby at_254) rfl ((if0 _ _).trans (teq (by decide : (0 : Int32) = (0 : Int32))).1) (by decide) (by decide) q) ?_
      refine own_tp (.ref b123) 267 (fun _ q => XS.aload X152.here hx rfl (hb hby at_265) rfl rfl q) ?_
      refine own_tp (.int (5 : Int32)) 269 (fun _ q => XS.iload X152.here hx rfl (hb hby at_267) rfl q) ?_
      obtain ⟨cl255, Ar255, q255, S255, Nn255, H255, G255⟩ := (id V152')
      have hin255 : ¬ ((5 : Int32) < 0 ∨ cl255.slots.size ≤ ((5 : Int32)).toNatClampNeg) := inb_of S255 ⟨by decide, by decide⟩
      have hat255 : cl255.slots[((5 : Int32)).toNatClampNeg]? = some (.int (20 : Int32)) := H255.at hin255 rfl
      refine own_t2 (.int (20 : Int32)) 270 (fun _ q => X152.iaload hx (j := (5 : Int32)) (v := (.int (20 : Int32))) (by rw [e152]; exact Ar255.1) (State.isArrayOf_alike hZ.alike Ar255.2.1) Ar255.2.2 hin255 hat255 (g := (mkF m 269 L_254 [(.int (5 : Int32)), (.ref b123)])) rfl rfl (hb hby at_269) _ q) ?_
      let L_256 : Array Slot := #[.val (.int p0), .val (.int p1), .val (.int (2147483647 : Int32)), .val (.ref b53), .val (.ref b94), .val (.ref b123), .val (.int (5 : Int32)), .val (.int (0 : Int32)), .val (.int (20 : Int32))]
      refine own_ls L_256 272 (fun _ q => XS.istore X152.here hx rfl (hb hby at_270) rfl (l' := L_256) rfl q) ?_
      refine own_tp (.ref b53) 273 (fun _ q => XS.aloadN X152.here hx rfl (hb hby at_272) rfl rfl q) ?_
      refine own_tp (.int (5 : Int32)) 275 (fun _ q => XS.iload X152.here hx rfl (hb hby at_273) rfl q) ?_
      have f257 := ((((((((((((((f125.ext E123).other W128 ne124).other W130 ne124).other W132 ne124).other W134 ne124).other W136 ne124).other W138 ne124).other W140 ne124).other W142 ne124).other W144 ne124).other W146 ne124).other W148 ne124).other W150 ne124).other W152 ne124)
      obtain ⟨cl258, Ar258, q258, S258, Nn258, H258, G258⟩ := (id f257)
      have hin258 : ¬ ((5 : Int32) < 0 ∨ cl258.slots.size ≤ ((5 : Int32)).toNatClampNeg) := inb_of S258 ⟨by decide, by decide⟩
      have hat258 : cl258.slots[((5 : Int32)).toNatClampNeg]? = some (.ref ai5) := H258.at hin258 rfl
      refine own_t2 (.ref ai5) 276 (fun _ q => X152.aaload hx (j := (5 : Int32)) (v := (.ref ai5)) (by rw [e152]; exact Ar258.1) (State.isArrayOf_alike hZ.alike Ar258.2.1) rfl Ar258.2.2 hin258 hat258 (g := (mkF m 275 L_256 [(.int (5 : Int32)), (.ref b53)])) rfl rfl (hb hby at_275) _ q) ?_
      refine own_tp (.int (0 : Int32)) 278 (fun _ q => XS.iload X152.here hx rfl (hb hby at_276) rfl q) ?_
      obtain ⟨Lz259, Xz259, Nz259⟩ : ∃ Lz, Stand p l e room_1 s m #[(.int p0), (.int p1)] below meth c T152 Lz 3 39 ∧ Fr n0 Lz := ⟨_, X152, N152⟩
      obtain ⟨cq260, kq260, q260a, q260b, q260c⟩ := isOf hZ e152 (K5.2.1.ext O152.2)
      obtain ⟨_, _, ⟨T260, L260, k260, n260⟩, -, X260, ⟨Lc260, hQ260, l260, y260, z260⟩, st260⟩ := Xz259.virtualBack hx (y := (⟨"com/example/unit_step/unitstep/IntegerType", "maxDigits", "(Z)I"⟩ : MethodName)) (z := (⟨"com/example/unit_step/unitstep/IntegerType", "maxDigits", "(Z)I"⟩ : MethodName)) hown (mvT hZ (hw _ (List.mem_of_getElem? (i := 32) rfl))) (mvT hZ (hw _ (List.mem_of_getElem? (i := 33) rfl))) (notFace_of_selects (args := #[]) (mvT hZ (hw _ (List.mem_of_getElem? (i := 35) rfl)))) (mvT hZ (hw _ (List.mem_of_getElem? (i := 35) rfl))) (mvT hZ (hw _ (List.mem_of_getElem? (i := 34) rfl))) (by decide) (backOf (W := 0) (rm1 l Z a0 hw [] ai5 (0 : Int32) (1 : Int32) (20 : Int32) h152 n0 (K5.2.2.1.ext O152.2) (K5.2.2.2.ext O152.2)) hZ (hw _ (List.mem_of_getElem? (i := 36) rfl)) (hw _ (List.mem_of_getElem? (i := 4) rfl)) (by decide) (by decide)) q260a q260c (g := (mkF m 278 L_256 [(.int (0 : Int32)), (.ref ai5)])) rfl (by rw [hml]; rfl) (Steps.refl _) (argsL := [(.int (0 : Int32))]) (rest := []) (lenOf pd0_0 rfl) rfl (by show 2 * 0 + _ ≤ _; exact Nat.le_of_eq rfl) (hb hby at_278) (fun _ _ => ⟨rfl, e152, (by decide : 3 + 0 ≤ _), (by decide : 39 + 0 ≤ _)⟩)
      dsimp only [Pt.U, Pt.locs, Pt.cells, Pt.slots] at X260 l260 y260 z260 st260 hQ260
      subst l260 y260 z260
      obtain ⟨rfl, Nq260, eq260⟩ := hQ260
      have N260 := Fr.app Nz259 Nq260
      refine own_csR [(.int (own_md (0 : Int32) (1 : Int32) (20 : Int32)))] 281 st260 ?_
      refine own_tp (.int (20 : Int32)) 283 (fun _ q => XS.iload X260.here hx rfl (hb hby at_281) rfl q) ?_
      refine own_d2 286 (fun _ q => XS.icmpNo X260.here hx rfl (hb hby at_283) rfl (teq (by decide +kernel)).2 q) ?_
      refine own_tp (.int (1 : Int32)) 287 (fun _ q => XS.iconst X260.here hx rfl (hb hby at_286) q) ?_
      refine own_d0 291 (fun _ q => XS.goto X260.here hx rfl (pc0 := 287) (pc' := 291) rfl (hb hby at_287) (by decide) (by decide) q) ?_
      exact own_retN (t := .boolean) X260 hx hrt (hb hby at_291) (by simp) hlk (by decide) (by decide) eq260 (⟨rfl, N260⟩)
    ·
      refine own_d1 245 (fun _ q => XS.ifNo X152.here hx rfl (hb hby at_242) rfl ((if0 _ _).trans (feq c253).1) q) ?_
      refine own_tp (.int (1 : Int32)) 246 (fun _ q => XS.iconst X152.here hx rfl (hb hby at_245) q) ?_
      refine own_d0 250 (fun _ q => XS.goto X152.here hx rfl (pc0 := 246) (pc' := 250) rfl (hb hby at_246) (by decide) (by decide) q) ?_
      let L_261 : Array Slot := #[.val (.int p0), .val (.int p1), .val (.int (2147483647 : Int32)), .val (.ref b53), .val (.ref b94), .val (.ref b123), .val (.int (5 : Int32)), .val (.int (1 : Int32)), .unset]
      refine own_ls L_261 252 (fun _ q => XS.istore X152.here hx rfl (hb hby at_250) rfl (l' := L_261) rfl q) ?_
      refine own_tp (.int (1 : Int32)) 254 (fun _ q => XS.iload X152.here hx rfl (hb hby at_252) rfl q) ?_
      refine own_d1 257 (fun _ q => XS.ifNo X152.here hx rfl (hb hby at_254) rfl ((if0 _ _).trans (feq (by decide : ¬ ((1 : Int32) = (0 : Int32)))).1) q) ?_
      refine own_tp (.ref b94) 259 (fun _ q => XS.aload X152.here hx rfl (hb hby at_257) rfl rfl q) ?_
      refine own_tp (.int (5 : Int32)) 261 (fun _ q => XS.iload X152.here hx rfl (hb hby at_259) rfl q) ?_
      have f262 := ((((((((((((((V121'.ext E123).other W128 ne126).other W130 ne126).other W132 ne126).other W134 ne126).other W136 ne126).other W138 ne126).other W140 ne126).other W142 ne126).other W144 ne126).other W146 ne126).other W148 ne126).other W150 ne126).other W152 ne126)
      obtain ⟨cl263, Ar263, q263, S263, Nn263, H263, G263⟩ := (id f262)
      have hin263 : ¬ ((5 : Int32) < 0 ∨ cl263.slots.size ≤ ((5 : Int32)).toNatClampNeg) := inb_of S263 ⟨by decide, by decide⟩
      have hat263 : cl263.slots[((5 : Int32)).toNatClampNeg]? = some (.int (1 : Int32)) := H263.at hin263 rfl
      refine own_t2 (.int (1 : Int32)) 262 (fun _ q => X152.iaload hx (j := (5 : Int32)) (v := (.int (1 : Int32))) (by rw [e152]; exact Ar263.1) (State.isArrayOf_alike hZ.alike Ar263.2.1) Ar263.2.2 hin263 hat263 (g := (mkF m 261 L_261 [(.int (5 : Int32)), (.ref b94)])) rfl rfl (hb hby at_261) _ q) ?_
      refine own_d0 270 (fun _ q => XS.goto X152.here hx rfl (pc0 := 262) (pc' := 270) rfl (hb hby at_262) (by decide) (by decide) q) ?_
      let L_264 : Array Slot := #[.val (.int p0), .val (.int p1), .val (.int (2147483647 : Int32)), .val (.ref b53), .val (.ref b94), .val (.ref b123), .val (.int (5 : Int32)), .val (.int (1 : Int32)), .val (.int (1 : Int32))]
      refine own_ls L_264 272 (fun _ q => XS.istore X152.here hx rfl (hb hby at_270) rfl (l' := L_264) rfl q) ?_
      refine own_tp (.ref b53) 273 (fun _ q => XS.aloadN X152.here hx rfl (hb hby at_272) rfl rfl q) ?_
      refine own_tp (.int (5 : Int32)) 275 (fun _ q => XS.iload X152.here hx rfl (hb hby at_273) rfl q) ?_
      have f265 := ((((((((((((((f125.ext E123).other W128 ne124).other W130 ne124).other W132 ne124).other W134 ne124).other W136 ne124).other W138 ne124).other W140 ne124).other W142 ne124).other W144 ne124).other W146 ne124).other W148 ne124).other W150 ne124).other W152 ne124)
      obtain ⟨cl266, Ar266, q266, S266, Nn266, H266, G266⟩ := (id f265)
      have hin266 : ¬ ((5 : Int32) < 0 ∨ cl266.slots.size ≤ ((5 : Int32)).toNatClampNeg) := inb_of S266 ⟨by decide, by decide⟩
      have hat266 : cl266.slots[((5 : Int32)).toNatClampNeg]? = some (.ref ai5) := H266.at hin266 rfl
      refine own_t2 (.ref ai5) 276 (fun _ q => X152.aaload hx (j := (5 : Int32)) (v := (.ref ai5)) (by rw [e152]; exact Ar266.1) (State.isArrayOf_alike hZ.alike Ar266.2.1) rfl Ar266.2.2 hin266 hat266 (g := (mkF m 275 L_264 [(.int (5 : Int32)), (.ref b53)])) rfl rfl (hb hby at_275) _ q) ?_
      refine own_tp (.int (1 : Int32)) 278 (fun _ q => XS.iload X152.here hx rfl (hb hby at_276) rfl q) ?_
      obtain ⟨Lz267, Xz267, Nz267⟩ : ∃ Lz, Stand p l e room_1 s m #[(.int p0), (.int p1)] below meth c T152 Lz 3 39 ∧ Fr n0 Lz := ⟨_, X152, N152⟩
      obtain ⟨cq268, kq268, q268a, q268b, q268c⟩ := isOf hZ e152 (K5.2.1.ext O152.2)
      obtain ⟨_, _, ⟨T268, L268, k268, n268⟩, -, X268, ⟨Lc268, hQ268, l268, y268, z268⟩, st268⟩ := Xz267.virtualBack hx (y := (⟨"com/example/unit_step/unitstep/IntegerType", "maxDigits", "(Z)I"⟩ : MethodName)) (z := (⟨"com/example/unit_step/unitstep/IntegerType", "maxDigits", "(Z)I"⟩ : MethodName)) hown (mvT hZ (hw _ (List.mem_of_getElem? (i := 32) rfl))) (mvT hZ (hw _ (List.mem_of_getElem? (i := 33) rfl))) (notFace_of_selects (args := #[]) (mvT hZ (hw _ (List.mem_of_getElem? (i := 35) rfl)))) (mvT hZ (hw _ (List.mem_of_getElem? (i := 35) rfl))) (mvT hZ (hw _ (List.mem_of_getElem? (i := 34) rfl))) (by decide) (backOf (W := 0) (rm1 l Z a0 hw [] ai5 (1 : Int32) (1 : Int32) (20 : Int32) h152 n0 (K5.2.2.1.ext O152.2) (K5.2.2.2.ext O152.2)) hZ (hw _ (List.mem_of_getElem? (i := 36) rfl)) (hw _ (List.mem_of_getElem? (i := 4) rfl)) (by decide) (by decide)) q268a q268c (g := (mkF m 278 L_264 [(.int (1 : Int32)), (.ref ai5)])) rfl (by rw [hml]; rfl) (Steps.refl _) (argsL := [(.int (1 : Int32))]) (rest := []) (lenOf pd0_0 rfl) rfl (by show 2 * 0 + _ ≤ _; exact Nat.le_of_eq rfl) (hb hby at_278) (fun _ _ => ⟨rfl, e152, (by decide : 3 + 0 ≤ _), (by decide : 39 + 0 ≤ _)⟩)
      dsimp only [Pt.U, Pt.locs, Pt.cells, Pt.slots] at X268 l268 y268 z268 st268 hQ268
      subst l268 y268 z268
      obtain ⟨rfl, Nq268, eq268⟩ := hQ268
      have N268 := Fr.app Nz267 Nq268
      refine own_csR [(.int (own_md (1 : Int32) (1 : Int32) (20 : Int32)))] 281 st268 ?_
      refine own_tp (.int (1 : Int32)) 283 (fun _ q => XS.iload X268.here hx rfl (hb hby at_281) rfl q) ?_
      refine own_d2 286 (fun _ q => XS.icmpNo X268.here hx rfl (hb hby at_283) rfl (teq (by decide +kernel)).2 q) ?_
      refine own_tp (.int (1 : Int32)) 287 (fun _ q => XS.iconst X268.here hx rfl (hb hby at_286) q) ?_
      refine own_d0 291 (fun _ q => XS.goto X268.here hx rfl (pc0 := 287) (pc' := 291) rfl (hb hby at_287) (by decide) (by decide) q) ?_
      exact own_retN (t := .boolean) X268 hx hrt (hb hby at_291) (by simp) hlk (by decide) (by decide) eq268 (⟨rfl, N268⟩)
  ·
    rw [hk160]
    let L_269 : Array Slot := #[.val (.int p0), .val (.int p1), .val (.int (2147483647 : Int32)), .val (.ref b53), .val (.ref b94), .val (.ref b123), .val (.int (6 : Int32)), .unset, .unset]
    refine own_ls L_269 239 (fun _ q => XS.istore X152.here hx rfl (hb hby at_237) rfl (l' := L_269) rfl q) ?_
    refine own_tp (.int p1) 240 (fun _ q => XS.iloadN X152.here hx rfl (hb hby at_239) rfl q) ?_
    refine own_tp (.int (1 : Int32)) 241 (fun _ q => XS.iconst X152.here hx rfl (hb hby at_240) q) ?_
    refine own_t2 (.int (p1 &&& (1 : Int32))) 242 (fun _ q => XS.iand X152.here hx rfl (hb hby at_241) rfl q) ?_
    by_cases c270 : (p1 &&& (1 : Int32)) = (0 : Int32)
    ·
      refine own_d1 249 (fun _ q => XS.ifYes X152.here hx rfl (pc0 := 242) (pc' := 249) rfl (hb hby at_242) rfl ((if0 _ _).trans (teq c270).1) (by decide) (by decide) q) ?_
      refine own_tp (.int (0 : Int32)) 250 (fun _ q => XS.iconst X152.here hx rfl (hb hby at_249) q) ?_
      let L_271 : Array Slot := #[.val (.int p0), .val (.int p1), .val (.int (2147483647 : Int32)), .val (.ref b53), .val (.ref b94), .val (.ref b123), .val (.int (6 : Int32)), .val (.int (0 : Int32)), .unset]
      refine own_ls L_271 252 (fun _ q => XS.istore X152.here hx rfl (hb hby at_250) rfl (l' := L_271) rfl q) ?_
      refine own_tp (.int (0 : Int32)) 254 (fun _ q => XS.iload X152.here hx rfl (hb hby at_252) rfl q) ?_
      refine own_d1 265 (fun _ q => XS.ifYes X152.here hx rfl (pc0 := 254) (pc' := 265) rfl (hb hby at_254) rfl ((if0 _ _).trans (teq (by decide : (0 : Int32) = (0 : Int32))).1) (by decide) (by decide) q) ?_
      refine own_tp (.ref b123) 267 (fun _ q => XS.aload X152.here hx rfl (hb hby at_265) rfl rfl q) ?_
      refine own_tp (.int (6 : Int32)) 269 (fun _ q => XS.iload X152.here hx rfl (hb hby at_267) rfl q) ?_
      obtain ⟨cl272, Ar272, q272, S272, Nn272, H272, G272⟩ := (id V152')
      have hin272 : ¬ ((6 : Int32) < 0 ∨ cl272.slots.size ≤ ((6 : Int32)).toNatClampNeg) := inb_of S272 ⟨by decide, by decide⟩
      have hat272 : cl272.slots[((6 : Int32)).toNatClampNeg]? = some (.int (10 : Int32)) := H272.at hin272 rfl
      refine own_t2 (.int (10 : Int32)) 270 (fun _ q => X152.iaload hx (j := (6 : Int32)) (v := (.int (10 : Int32))) (by rw [e152]; exact Ar272.1) (State.isArrayOf_alike hZ.alike Ar272.2.1) Ar272.2.2 hin272 hat272 (g := (mkF m 269 L_271 [(.int (6 : Int32)), (.ref b123)])) rfl rfl (hb hby at_269) _ q) ?_
      let L_273 : Array Slot := #[.val (.int p0), .val (.int p1), .val (.int (2147483647 : Int32)), .val (.ref b53), .val (.ref b94), .val (.ref b123), .val (.int (6 : Int32)), .val (.int (0 : Int32)), .val (.int (10 : Int32))]
      refine own_ls L_273 272 (fun _ q => XS.istore X152.here hx rfl (hb hby at_270) rfl (l' := L_273) rfl q) ?_
      refine own_tp (.ref b53) 273 (fun _ q => XS.aloadN X152.here hx rfl (hb hby at_272) rfl rfl q) ?_
      refine own_tp (.int (6 : Int32)) 275 (fun _ q => XS.iload X152.here hx rfl (hb hby at_273) rfl q) ?_
      have f274 := ((((((((((((((f125.ext E123).other W128 ne124).other W130 ne124).other W132 ne124).other W134 ne124).other W136 ne124).other W138 ne124).other W140 ne124).other W142 ne124).other W144 ne124).other W146 ne124).other W148 ne124).other W150 ne124).other W152 ne124)
      obtain ⟨cl275, Ar275, q275, S275, Nn275, H275, G275⟩ := (id f274)
      have hin275 : ¬ ((6 : Int32) < 0 ∨ cl275.slots.size ≤ ((6 : Int32)).toNatClampNeg) := inb_of S275 ⟨by decide, by decide⟩
      have hat275 : cl275.slots[((6 : Int32)).toNatClampNeg]? = some (.ref ai6) := H275.at hin275 rfl
      refine own_t2 (.ref ai6) 276 (fun _ q => X152.aaload hx (j := (6 : Int32)) (v := (.ref ai6)) (by rw [e152]; exact Ar275.1) (State.isArrayOf_alike hZ.alike Ar275.2.1) rfl Ar275.2.2 hin275 hat275 (g := (mkF m 275 L_273 [(.int (6 : Int32)), (.ref b53)])) rfl rfl (hb hby at_275) _ q) ?_
      refine own_tp (.int (0 : Int32)) 278 (fun _ q => XS.iload X152.here hx rfl (hb hby at_276) rfl q) ?_
      obtain ⟨Lz276, Xz276, Nz276⟩ : ∃ Lz, Stand p l e room_1 s m #[(.int p0), (.int p1)] below meth c T152 Lz 3 39 ∧ Fr n0 Lz := ⟨_, X152, N152⟩
      obtain ⟨cq277, kq277, q277a, q277b, q277c⟩ := isOf hZ e152 (K6.2.1.ext O152.2)
      obtain ⟨_, _, ⟨T277, L277, k277, n277⟩, -, X277, ⟨Lc277, hQ277, l277, y277, z277⟩, st277⟩ := Xz276.virtualBack hx (y := (⟨"com/example/unit_step/unitstep/IntegerType", "maxDigits", "(Z)I"⟩ : MethodName)) (z := (⟨"com/example/unit_step/unitstep/IntegerType", "maxDigits", "(Z)I"⟩ : MethodName)) hown (mvT hZ (hw _ (List.mem_of_getElem? (i := 32) rfl))) (mvT hZ (hw _ (List.mem_of_getElem? (i := 33) rfl))) (notFace_of_selects (args := #[]) (mvT hZ (hw _ (List.mem_of_getElem? (i := 35) rfl)))) (mvT hZ (hw _ (List.mem_of_getElem? (i := 35) rfl))) (mvT hZ (hw _ (List.mem_of_getElem? (i := 34) rfl))) (by decide) (backOf (W := 0) (rm1 l Z a0 hw [] ai6 (0 : Int32) (1 : Int32) (10 : Int32) h152 n0 (K6.2.2.1.ext O152.2) (K6.2.2.2.ext O152.2)) hZ (hw _ (List.mem_of_getElem? (i := 36) rfl)) (hw _ (List.mem_of_getElem? (i := 4) rfl)) (by decide) (by decide)) q277a q277c (g := (mkF m 278 L_273 [(.int (0 : Int32)), (.ref ai6)])) rfl (by rw [hml]; rfl) (Steps.refl _) (argsL := [(.int (0 : Int32))]) (rest := []) (lenOf pd0_0 rfl) rfl (by show 2 * 0 + _ ≤ _; exact Nat.le_of_eq rfl) (hb hby at_278) (fun _ _ => ⟨rfl, e152, (by decide : 3 + 0 ≤ _), (by decide : 39 + 0 ≤ _)⟩)
      dsimp only [Pt.U, Pt.locs, Pt.cells, Pt.slots] at X277 l277 y277 z277 st277 hQ277
      subst l277 y277 z277
      obtain ⟨rfl, Nq277, eq277⟩ := hQ277
      have N277 := Fr.app Nz276 Nq277
      refine own_csR [(.int (own_md (0 : Int32) (1 : Int32) (10 : Int32)))] 281 st277 ?_
      refine own_tp (.int (10 : Int32)) 283 (fun _ q => XS.iload X277.here hx rfl (hb hby at_281) rfl q) ?_
      refine own_d2 286 (fun _ q => XS.icmpNo X277.here hx rfl (hb hby at_283) rfl (teq (by decide +kernel)).2 q) ?_
      refine own_tp (.int (1 : Int32)) 287 (fun _ q => XS.iconst X277.here hx rfl (hb hby at_286) q) ?_
      refine own_d0 291 (fun _ q => XS.goto X277.here hx rfl (pc0 := 287) (pc' := 291) rfl (hb hby at_287) (by decide) (by decide) q) ?_
      exact own_retN (t := .boolean) X277 hx hrt (hb hby at_291) (by simp) hlk (by decide) (by decide) eq277 (⟨rfl, N277⟩)
    ·
      refine own_d1 245 (fun _ q => XS.ifNo X152.here hx rfl (hb hby at_242) rfl ((if0 _ _).trans (feq c270).1) q) ?_
      refine own_tp (.int (1 : Int32)) 246 (fun _ q => XS.iconst X152.here hx rfl (hb hby at_245) q) ?_
      refine own_d0 250 (fun _ q => XS.goto X152.here hx rfl (pc0 := 246) (pc' := 250) rfl (hb hby at_246) (by decide) (by decide) q) ?_
      let L_278 : Array Slot := #[.val (.int p0), .val (.int p1), .val (.int (2147483647 : Int32)), .val (.ref b53), .val (.ref b94), .val (.ref b123), .val (.int (6 : Int32)), .val (.int (1 : Int32)), .unset]
      refine own_ls L_278 252 (fun _ q => XS.istore X152.here hx rfl (hb hby at_250) rfl (l' := L_278) rfl q) ?_
      refine own_tp (.int (1 : Int32)) 254 (fun _ q => XS.iload X152.here hx rfl (hb hby at_252) rfl q) ?_
      refine own_d1 257 (fun _ q => XS.ifNo X152.here hx rfl (hb hby at_254) rfl ((if0 _ _).trans (feq (by decide : ¬ ((1 : Int32) = (0 : Int32)))).1) q) ?_
      refine own_tp (.ref b94) 259 (fun _ q => XS.aload X152.here hx rfl (hb hby at_257) rfl rfl q) ?_
      refine own_tp (.int (6 : Int32)) 261 (fun _ q => XS.iload X152.here hx rfl (hb hby at_259) rfl q) ?_
      have f279 := ((((((((((((((V121'.ext E123).other W128 ne126).other W130 ne126).other W132 ne126).other W134 ne126).other W136 ne126).other W138 ne126).other W140 ne126).other W142 ne126).other W144 ne126).other W146 ne126).other W148 ne126).other W150 ne126).other W152 ne126)
      obtain ⟨cl280, Ar280, q280, S280, Nn280, H280, G280⟩ := (id f279)
      have hin280 : ¬ ((6 : Int32) < 0 ∨ cl280.slots.size ≤ ((6 : Int32)).toNatClampNeg) := inb_of S280 ⟨by decide, by decide⟩
      have hat280 : cl280.slots[((6 : Int32)).toNatClampNeg]? = some (.int (1 : Int32)) := H280.at hin280 rfl
      refine own_t2 (.int (1 : Int32)) 262 (fun _ q => X152.iaload hx (j := (6 : Int32)) (v := (.int (1 : Int32))) (by rw [e152]; exact Ar280.1) (State.isArrayOf_alike hZ.alike Ar280.2.1) Ar280.2.2 hin280 hat280 (g := (mkF m 261 L_278 [(.int (6 : Int32)), (.ref b94)])) rfl rfl (hb hby at_261) _ q) ?_
      refine own_d0 270 (fun _ q => XS.goto X152.here hx rfl (pc0 := 262) (pc' := 270) rfl (hb hby at_262) (by decide) (by decide) q) ?_
      let L_281 : Array Slot := #[.val (.int p0), .val (.int p1), .val (.int (2147483647 : Int32)), .val (.ref b53), .val (.ref b94), .val (.ref b123), .val (.int (6 : Int32)), .val (.int (1 : Int32)), .val (.int (1 : Int32))]
      refine own_ls L_281 272 (fun _ q => XS.istore X152.here hx rfl (hb hby at_270) rfl (l' := L_281) rfl q) ?_
      refine own_tp (.ref b53) 273 (fun _ q => XS.aloadN X152.here hx rfl (hb hby at_272) rfl rfl q) ?_
      refine own_tp (.int (6 : Int32)) 275 (fun _ q => XS.iload X152.here hx rfl (hb hby at_273) rfl q) ?_
      have f282 := ((((((((((((((f125.ext E123).other W128 ne124).other W130 ne124).other W132 ne124).other W134 ne124).other W136 ne124).other W138 ne124).other W140 ne124).other W142 ne124).other W144 ne124).other W146 ne124).other W148 ne124).other W150 ne124).other W152 ne124)
      obtain ⟨cl283, Ar283, q283, S283, Nn283, H283, G283⟩ := (id f282)
      have hin283 : ¬ ((6 : Int32) < 0 ∨ cl283.slots.size ≤ ((6 : Int32)).toNatClampNeg) := inb_of S283 ⟨by decide, by decide⟩
      have hat283 : cl283.slots[((6 : Int32)).toNatClampNeg]? = some (.ref ai6) := H283.at hin283 rfl
      refine own_t2 (.ref ai6) 276 (fun _ q => X152.aaload hx (j := (6 : Int32)) (v := (.ref ai6)) (by rw [e152]; exact Ar283.1) (State.isArrayOf_alike hZ.alike Ar283.2.1) rfl Ar283.2.2 hin283 hat283 (g := (mkF m 275 L_281 [(.int (6 : Int32)), (.ref b53)])) rfl rfl (hb hby at_275) _ q) ?_
      refine own_tp (.int (1 : Int32)) 278 (fun _ q => XS.iload X152.here hx rfl (hb hby at_276) rfl q) ?_
      obtain ⟨Lz284, Xz284, Nz284⟩ : ∃ Lz, Stand p l e room_1 s m #[(.int p0), (.int p1)] below meth c T152 Lz 3 39 ∧ Fr n0 Lz := ⟨_, X152, N152⟩
      obtain ⟨cq285, kq285, q285a, q285b, q285c⟩ := isOf hZ e152 (K6.2.1.ext O152.2)
      obtain ⟨_, _, ⟨T285, L285, k285, n285⟩, -, X285, ⟨Lc285, hQ285, l285, y285, z285⟩, st285⟩ := Xz284.virtualBack hx (y := (⟨"com/example/unit_step/unitstep/IntegerType", "maxDigits", "(Z)I"⟩ : MethodName)) (z := (⟨"com/example/unit_step/unitstep/IntegerType", "maxDigits", "(Z)I"⟩ : MethodName)) hown (mvT hZ (hw _ (List.mem_of_getElem? (i := 32) rfl))) (mvT hZ (hw _ (List.mem_of_getElem? (i := 33) rfl))) (notFace_of_selects (args := #[]) (mvT hZ (hw _ (List.mem_of_getElem? (i := 35) rfl)))) (mvT hZ (hw _ (List.mem_of_getElem? (i := 35) rfl))) (mvT hZ (hw _ (List.mem_of_getElem? (i := 34) rfl))) (by decide) (backOf (W := 0) (rm1 l Z a0 hw [] ai6 (1 : Int32) (1 : Int32) (10 : Int32) h152 n0 (K6.2.2.1.ext O152.2) (K6.2.2.2.ext O152.2)) hZ (hw _ (List.mem_of_getElem? (i := 36) rfl)) (hw _ (List.mem_of_getElem? (i := 4) rfl)) (by decide) (by decide)) q285a q285c (g := (mkF m 278 L_281 [(.int (1 : Int32)), (.ref ai6)])) rfl (by rw [hml]; rfl) (Steps.refl _) (argsL := [(.int (1 : Int32))]) (rest := []) (lenOf pd0_0 rfl) rfl (by show 2 * 0 + _ ≤ _; exact Nat.le_of_eq rfl) (hb hby at_278) (fun _ _ => ⟨rfl, e152, (by decide : 3 + 0 ≤ _), (by decide : 39 + 0 ≤ _)⟩)
      dsimp only [Pt.U, Pt.locs, Pt.cells, Pt.slots] at X285 l285 y285 z285 st285 hQ285
      subst l285 y285 z285
      obtain ⟨rfl, Nq285, eq285⟩ := hQ285
      have N285 := Fr.app Nz284 Nq285
      refine own_csR [(.int (own_md (1 : Int32) (1 : Int32) (10 : Int32)))] 281 st285 ?_
      refine own_tp (.int (1 : Int32)) 283 (fun _ q => XS.iload X285.here hx rfl (hb hby at_281) rfl q) ?_
      refine own_d2 286 (fun _ q => XS.icmpNo X285.here hx rfl (hb hby at_283) rfl (teq (by decide +kernel)).2 q) ?_
      refine own_tp (.int (1 : Int32)) 287 (fun _ q => XS.iconst X285.here hx rfl (hb hby at_286) q) ?_
      refine own_d0 291 (fun _ q => XS.goto X285.here hx rfl (pc0 := 287) (pc' := 291) rfl (hb hby at_287) (by decide) (by decide) q) ?_
      exact own_retN (t := .boolean) X285 hx hrt (hb hby at_291) (by simp) hlk (by decide) (by decide) eq285 (⟨rfl, N285⟩)
  ·
    rw [hk161]
    let L_286 : Array Slot := #[.val (.int p0), .val (.int p1), .val (.int (2147483647 : Int32)), .val (.ref b53), .val (.ref b94), .val (.ref b123), .val (.int (7 : Int32)), .unset, .unset]
    refine own_ls L_286 239 (fun _ q => XS.istore X152.here hx rfl (hb hby at_237) rfl (l' := L_286) rfl q) ?_
    refine own_tp (.int p1) 240 (fun _ q => XS.iloadN X152.here hx rfl (hb hby at_239) rfl q) ?_
    refine own_tp (.int (1 : Int32)) 241 (fun _ q => XS.iconst X152.here hx rfl (hb hby at_240) q) ?_
    refine own_t2 (.int (p1 &&& (1 : Int32))) 242 (fun _ q => XS.iand X152.here hx rfl (hb hby at_241) rfl q) ?_
    by_cases c287 : (p1 &&& (1 : Int32)) = (0 : Int32)
    ·
      refine own_d1 249 (fun _ q => XS.ifYes X152.here hx rfl (pc0 := 242) (pc' := 249) rfl (hb hby at_242) rfl ((if0 _ _).trans (teq c287).1) (by decide) (by decide) q) ?_
      refine own_tp (.int (0 : Int32)) 250 (fun _ q => XS.iconst X152.here hx rfl (hb hby at_249) q) ?_
      let L_288 : Array Slot := #[.val (.int p0), .val (.int p1), .val (.int (2147483647 : Int32)), .val (.ref b53), .val (.ref b94), .val (.ref b123), .val (.int (7 : Int32)), .val (.int (0 : Int32)), .unset]
      refine own_ls L_288 252 (fun _ q => XS.istore X152.here hx rfl (hb hby at_250) rfl (l' := L_288) rfl q) ?_
      refine own_tp (.int (0 : Int32)) 254 (fun _ q => XS.iload X152.here hx rfl (hb hby at_252) rfl q) ?_
      refine own_d1 265 (fun _ q => XS.ifYes X152.here hx rfl (pc0 := 254) (pc' := 265) rfl (hb hby at_254) rfl ((if0 _ _).trans (teq (by decide : (0 : Int32) = (0 : Int32))).1) (by decide) (by decide) q) ?_
      refine own_tp (.ref b123) 267 (fun _ q => XS.aload X152.here hx rfl (hb hby at_265) rfl rfl q) ?_
      refine own_tp (.int (7 : Int32)) 269 (fun _ q => XS.iload X152.here hx rfl (hb hby at_267) rfl q) ?_
      obtain ⟨cl289, Ar289, q289, S289, Nn289, H289, G289⟩ := (id V152')
      have hin289 : ¬ ((7 : Int32) < 0 ∨ cl289.slots.size ≤ ((7 : Int32)).toNatClampNeg) := inb_of S289 ⟨by decide, by decide⟩
      have hat289 : cl289.slots[((7 : Int32)).toNatClampNeg]? = some (.int (5 : Int32)) := H289.at hin289 rfl
      refine own_t2 (.int (5 : Int32)) 270 (fun _ q => X152.iaload hx (j := (7 : Int32)) (v := (.int (5 : Int32))) (by rw [e152]; exact Ar289.1) (State.isArrayOf_alike hZ.alike Ar289.2.1) Ar289.2.2 hin289 hat289 (g := (mkF m 269 L_288 [(.int (7 : Int32)), (.ref b123)])) rfl rfl (hb hby at_269) _ q) ?_
      let L_290 : Array Slot := #[.val (.int p0), .val (.int p1), .val (.int (2147483647 : Int32)), .val (.ref b53), .val (.ref b94), .val (.ref b123), .val (.int (7 : Int32)), .val (.int (0 : Int32)), .val (.int (5 : Int32))]
      refine own_ls L_290 272 (fun _ q => XS.istore X152.here hx rfl (hb hby at_270) rfl (l' := L_290) rfl q) ?_
      refine own_tp (.ref b53) 273 (fun _ q => XS.aloadN X152.here hx rfl (hb hby at_272) rfl rfl q) ?_
      refine own_tp (.int (7 : Int32)) 275 (fun _ q => XS.iload X152.here hx rfl (hb hby at_273) rfl q) ?_
      have f291 := ((((((((((((((f125.ext E123).other W128 ne124).other W130 ne124).other W132 ne124).other W134 ne124).other W136 ne124).other W138 ne124).other W140 ne124).other W142 ne124).other W144 ne124).other W146 ne124).other W148 ne124).other W150 ne124).other W152 ne124)
      obtain ⟨cl292, Ar292, q292, S292, Nn292, H292, G292⟩ := (id f291)
      have hin292 : ¬ ((7 : Int32) < 0 ∨ cl292.slots.size ≤ ((7 : Int32)).toNatClampNeg) := inb_of S292 ⟨by decide, by decide⟩
      have hat292 : cl292.slots[((7 : Int32)).toNatClampNeg]? = some (.ref ai7) := H292.at hin292 rfl
      refine own_t2 (.ref ai7) 276 (fun _ q => X152.aaload hx (j := (7 : Int32)) (v := (.ref ai7)) (by rw [e152]; exact Ar292.1) (State.isArrayOf_alike hZ.alike Ar292.2.1) rfl Ar292.2.2 hin292 hat292 (g := (mkF m 275 L_290 [(.int (7 : Int32)), (.ref b53)])) rfl rfl (hb hby at_275) _ q) ?_
      refine own_tp (.int (0 : Int32)) 278 (fun _ q => XS.iload X152.here hx rfl (hb hby at_276) rfl q) ?_
      obtain ⟨Lz293, Xz293, Nz293⟩ : ∃ Lz, Stand p l e room_1 s m #[(.int p0), (.int p1)] below meth c T152 Lz 3 39 ∧ Fr n0 Lz := ⟨_, X152, N152⟩
      obtain ⟨cq294, kq294, q294a, q294b, q294c⟩ := isOf hZ e152 (K7.2.1.ext O152.2)
      obtain ⟨_, _, ⟨T294, L294, k294, n294⟩, -, X294, ⟨Lc294, hQ294, l294, y294, z294⟩, st294⟩ := Xz293.virtualBack hx (y := (⟨"com/example/unit_step/unitstep/IntegerType", "maxDigits", "(Z)I"⟩ : MethodName)) (z := (⟨"com/example/unit_step/unitstep/IntegerType", "maxDigits", "(Z)I"⟩ : MethodName)) hown (mvT hZ (hw _ (List.mem_of_getElem? (i := 32) rfl))) (mvT hZ (hw _ (List.mem_of_getElem? (i := 33) rfl))) (notFace_of_selects (args := #[]) (mvT hZ (hw _ (List.mem_of_getElem? (i := 35) rfl)))) (mvT hZ (hw _ (List.mem_of_getElem? (i := 35) rfl))) (mvT hZ (hw _ (List.mem_of_getElem? (i := 34) rfl))) (by decide) (backOf (W := 0) (rm1 l Z a0 hw [] ai7 (0 : Int32) (1 : Int32) (5 : Int32) h152 n0 (K7.2.2.1.ext O152.2) (K7.2.2.2.ext O152.2)) hZ (hw _ (List.mem_of_getElem? (i := 36) rfl)) (hw _ (List.mem_of_getElem? (i := 4) rfl)) (by decide) (by decide)) q294a q294c (g := (mkF m 278 L_290 [(.int (0 : Int32)), (.ref ai7)])) rfl (by rw [hml]; rfl) (Steps.refl _) (argsL := [(.int (0 : Int32))]) (rest := []) (lenOf pd0_0 rfl) rfl (by show 2 * 0 + _ ≤ _; exact Nat.le_of_eq rfl) (hb hby at_278) (fun _ _ => ⟨rfl, e152, (by decide : 3 + 0 ≤ _), (by decide : 39 + 0 ≤ _)⟩)
      dsimp only [Pt.U, Pt.locs, Pt.cells, Pt.slots] at X294 l294 y294 z294 st294 hQ294
      subst l294 y294 z294
      obtain ⟨rfl, Nq294, eq294⟩ := hQ294
      have N294 := Fr.app Nz293 Nq294
      refine own_csR [(.int (own_md (0 : Int32) (1 : Int32) (5 : Int32)))] 281 st294 ?_
      refine own_tp (.int (5 : Int32)) 283 (fun _ q => XS.iload X294.here hx rfl (hb hby at_281) rfl q) ?_
      refine own_d2 286 (fun _ q => XS.icmpNo X294.here hx rfl (hb hby at_283) rfl (teq (by decide +kernel)).2 q) ?_
      refine own_tp (.int (1 : Int32)) 287 (fun _ q => XS.iconst X294.here hx rfl (hb hby at_286) q) ?_
      refine own_d0 291 (fun _ q => XS.goto X294.here hx rfl (pc0 := 287) (pc' := 291) rfl (hb hby at_287) (by decide) (by decide) q) ?_
      exact own_retN (t := .boolean) X294 hx hrt (hb hby at_291) (by simp) hlk (by decide) (by decide) eq294 (⟨rfl, N294⟩)
    ·
      refine own_d1 245 (fun _ q => XS.ifNo X152.here hx rfl (hb hby at_242) rfl ((if0 _ _).trans (feq c287).1) q) ?_
      refine own_tp (.int (1 : Int32)) 246 (fun _ q => XS.iconst X152.here hx rfl (hb hby at_245) q) ?_
      refine own_d0 250 (fun _ q => XS.goto X152.here hx rfl (pc0 := 246) (pc' := 250) rfl (hb hby at_246) (by decide) (by decide) q) ?_
      let L_295 : Array Slot := #[.val (.int p0), .val (.int p1), .val (.int (2147483647 : Int32)), .val (.ref b53), .val (.ref b94), .val (.ref b123), .val (.int (7 : Int32)), .val (.int (1 : Int32)), .unset]
      refine own_ls L_295 252 (fun _ q => XS.istore X152.here hx rfl (hb hby at_250) rfl (l' := L_295) rfl q) ?_
      refine own_tp (.int (1 : Int32)) 254 (fun _ q => XS.iload X152.here hx rfl (hb hby at_252) rfl q) ?_
      refine own_d1 257 (fun _ q => XS.ifNo X152.here hx rfl (hb hby at_254) rfl ((if0 _ _).trans (feq (by decide : ¬ ((1 : Int32) = (0 : Int32)))).1) q) ?_
      refine own_tp (.ref b94) 259 (fun _ q => XS.aload X152.here hx rfl (hb hby at_257) rfl rfl q) ?_
      refine own_tp (.int (7 : Int32)) 261 (fun _ q => XS.iload X152.here hx rfl (hb hby at_259) rfl q) ?_
      have f296 := ((((((((((((((V121'.ext E123).other W128 ne126).other W130 ne126).other W132 ne126).other W134 ne126).other W136 ne126).other W138 ne126).other W140 ne126).other W142 ne126).other W144 ne126).other W146 ne126).other W148 ne126).other W150 ne126).other W152 ne126)
      obtain ⟨cl297, Ar297, q297, S297, Nn297, H297, G297⟩ := (id f296)
      have hin297 : ¬ ((7 : Int32) < 0 ∨ cl297.slots.size ≤ ((7 : Int32)).toNatClampNeg) := inb_of S297 ⟨by decide, by decide⟩
      have hat297 : cl297.slots[((7 : Int32)).toNatClampNeg]? = some (.int (1 : Int32)) := H297.at hin297 rfl
      refine own_t2 (.int (1 : Int32)) 262 (fun _ q => X152.iaload hx (j := (7 : Int32)) (v := (.int (1 : Int32))) (by rw [e152]; exact Ar297.1) (State.isArrayOf_alike hZ.alike Ar297.2.1) Ar297.2.2 hin297 hat297 (g := (mkF m 261 L_295 [(.int (7 : Int32)), (.ref b94)])) rfl rfl (hb hby at_261) _ q) ?_
      refine own_d0 270 (fun _ q => XS.goto X152.here hx rfl (pc0 := 262) (pc' := 270) rfl (hb hby at_262) (by decide) (by decide) q) ?_
      let L_298 : Array Slot := #[.val (.int p0), .val (.int p1), .val (.int (2147483647 : Int32)), .val (.ref b53), .val (.ref b94), .val (.ref b123), .val (.int (7 : Int32)), .val (.int (1 : Int32)), .val (.int (1 : Int32))]
      refine own_ls L_298 272 (fun _ q => XS.istore X152.here hx rfl (hb hby at_270) rfl (l' := L_298) rfl q) ?_
      refine own_tp (.ref b53) 273 (fun _ q => XS.aloadN X152.here hx rfl (hb hby at_272) rfl rfl q) ?_
      refine own_tp (.int (7 : Int32)) 275 (fun _ q => XS.iload X152.here hx rfl (hb hby at_273) rfl q) ?_
      have f299 := ((((((((((((((f125.ext E123).other W128 ne124).other W130 ne124).other W132 ne124).other W134 ne124).other W136 ne124).other W138 ne124).other W140 ne124).other W142 ne124).other W144 ne124).other W146 ne124).other W148 ne124).other W150 ne124).other W152 ne124)
      obtain ⟨cl300, Ar300, q300, S300, Nn300, H300, G300⟩ := (id f299)
      have hin300 : ¬ ((7 : Int32) < 0 ∨ cl300.slots.size ≤ ((7 : Int32)).toNatClampNeg) := inb_of S300 ⟨by decide, by decide⟩
      have hat300 : cl300.slots[((7 : Int32)).toNatClampNeg]? = some (.ref ai7) := H300.at hin300 rfl
      refine own_t2 (.ref ai7) 276 (fun _ q => X152.aaload hx (j := (7 : Int32)) (v := (.ref ai7)) (by rw [e152]; exact Ar300.1) (State.isArrayOf_alike hZ.alike Ar300.2.1) rfl Ar300.2.2 hin300 hat300 (g := (mkF m 275 L_298 [(.int (7 : Int32)), (.ref b53)])) rfl rfl (hb hby at_275) _ q) ?_
      refine own_tp (.int (1 : Int32)) 278 (fun _ q => XS.iload X152.here hx rfl (hb hby at_276) rfl q) ?_
      obtain ⟨Lz301, Xz301, Nz301⟩ : ∃ Lz, Stand p l e room_1 s m #[(.int p0), (.int p1)] below meth c T152 Lz 3 39 ∧ Fr n0 Lz := ⟨_, X152, N152⟩
      obtain ⟨cq302, kq302, q302a, q302b, q302c⟩ := isOf hZ e152 (K7.2.1.ext O152.2)
      obtain ⟨_, _, ⟨T302, L302, k302, n302⟩, -, X302, ⟨Lc302, hQ302, l302, y302, z302⟩, st302⟩ := Xz301.virtualBack hx (y := (⟨"com/example/unit_step/unitstep/IntegerType", "maxDigits", "(Z)I"⟩ : MethodName)) (z := (⟨"com/example/unit_step/unitstep/IntegerType", "maxDigits", "(Z)I"⟩ : MethodName)) hown (mvT hZ (hw _ (List.mem_of_getElem? (i := 32) rfl))) (mvT hZ (hw _ (List.mem_of_getElem? (i := 33) rfl))) (notFace_of_selects (args := #[]) (mvT hZ (hw _ (List.mem_of_getElem? (i := 35) rfl)))) (mvT hZ (hw _ (List.mem_of_getElem? (i := 35) rfl))) (mvT hZ (hw _ (List.mem_of_getElem? (i := 34) rfl))) (by decide) (backOf (W := 0) (rm1 l Z a0 hw [] ai7 (1 : Int32) (1 : Int32) (5 : Int32) h152 n0 (K7.2.2.1.ext O152.2) (K7.2.2.2.ext O152.2)) hZ (hw _ (List.mem_of_getElem? (i := 36) rfl)) (hw _ (List.mem_of_getElem? (i := 4) rfl)) (by decide) (by decide)) q302a q302c (g := (mkF m 278 L_298 [(.int (1 : Int32)), (.ref ai7)])) rfl (by rw [hml]; rfl) (Steps.refl _) (argsL := [(.int (1 : Int32))]) (rest := []) (lenOf pd0_0 rfl) rfl (by show 2 * 0 + _ ≤ _; exact Nat.le_of_eq rfl) (hb hby at_278) (fun _ _ => ⟨rfl, e152, (by decide : 3 + 0 ≤ _), (by decide : 39 + 0 ≤ _)⟩)
      dsimp only [Pt.U, Pt.locs, Pt.cells, Pt.slots] at X302 l302 y302 z302 st302 hQ302
      subst l302 y302 z302
      obtain ⟨rfl, Nq302, eq302⟩ := hQ302
      have N302 := Fr.app Nz301 Nq302
      refine own_csR [(.int (own_md (1 : Int32) (1 : Int32) (5 : Int32)))] 281 st302 ?_
      refine own_tp (.int (1 : Int32)) 283 (fun _ q => XS.iload X302.here hx rfl (hb hby at_281) rfl q) ?_
      refine own_d2 286 (fun _ q => XS.icmpNo X302.here hx rfl (hb hby at_283) rfl (teq (by decide +kernel)).2 q) ?_
      refine own_tp (.int (1 : Int32)) 287 (fun _ q => XS.iconst X302.here hx rfl (hb hby at_286) q) ?_
      refine own_d0 291 (fun _ q => XS.goto X302.here hx rfl (pc0 := 287) (pc' := 291) rfl (hb hby at_287) (by decide) (by decide) q) ?_
      exact own_retN (t := .boolean) X302 hx hrt (hb hby at_291) (by simp) hlk (by decide) (by decide) eq302 (⟨rfl, N302⟩)
  ·
    rw [hk162]
    let L_303 : Array Slot := #[.val (.int p0), .val (.int p1), .val (.int (2147483647 : Int32)), .val (.ref b53), .val (.ref b94), .val (.ref b123), .val (.int (8 : Int32)), .unset, .unset]
    refine own_ls L_303 239 (fun _ q => XS.istore X152.here hx rfl (hb hby at_237) rfl (l' := L_303) rfl q) ?_
    refine own_tp (.int p1) 240 (fun _ q => XS.iloadN X152.here hx rfl (hb hby at_239) rfl q) ?_
    refine own_tp (.int (1 : Int32)) 241 (fun _ q => XS.iconst X152.here hx rfl (hb hby at_240) q) ?_
    refine own_t2 (.int (p1 &&& (1 : Int32))) 242 (fun _ q => XS.iand X152.here hx rfl (hb hby at_241) rfl q) ?_
    by_cases c304 : (p1 &&& (1 : Int32)) = (0 : Int32)
    ·
      refine own_d1 249 (fun _ q => XS.ifYes X152.here hx rfl (pc0 := 242) (pc' := 249) rfl (hb hby at_242) rfl ((if0 _ _).trans (teq c304).1) (by decide) (by decide) q) ?_
      refine own_tp (.int (0 : Int32)) 250 (fun _ q => XS.iconst X152.here hx rfl (hb hby at_249) q) ?_
      let L_305 : Array Slot := #[.val (.int p0), .val (.int p1), .val (.int (2147483647 : Int32)), .val (.ref b53), .val (.ref b94), .val (.ref b123), .val (.int (8 : Int32)), .val (.int (0 : Int32)), .unset]
      refine own_ls L_305 252 (fun _ q => XS.istore X152.here hx rfl (hb hby at_250) rfl (l' := L_305) rfl q) ?_
      refine own_tp (.int (0 : Int32)) 254 (fun _ q => XS.iload X152.here hx rfl (hb hby at_252) rfl q) ?_
      refine own_d1 265 (fun _ q => XS.ifYes X152.here hx rfl (pc0 := 254) (pc' := 265) rfl (hb hby at_254) rfl ((if0 _ _).trans (teq (by decide : (0 : Int32) = (0 : Int32))).1) (by decide) (by decide) q) ?_
      refine own_tp (.ref b123) 267 (fun _ q => XS.aload X152.here hx rfl (hb hby at_265) rfl rfl q) ?_
      refine own_tp (.int (8 : Int32)) 269 (fun _ q => XS.iload X152.here hx rfl (hb hby at_267) rfl q) ?_
      obtain ⟨cl306, Ar306, q306, S306, Nn306, H306, G306⟩ := (id V152')
      have hin306 : ¬ ((8 : Int32) < 0 ∨ cl306.slots.size ≤ ((8 : Int32)).toNatClampNeg) := inb_of S306 ⟨by decide, by decide⟩
      have hat306 : cl306.slots[((8 : Int32)).toNatClampNeg]? = some (.int (3 : Int32)) := H306.at hin306 rfl
      refine own_t2 (.int (3 : Int32)) 270 (fun _ q => X152.iaload hx (j := (8 : Int32)) (v := (.int (3 : Int32))) (by rw [e152]; exact Ar306.1) (State.isArrayOf_alike hZ.alike Ar306.2.1) Ar306.2.2 hin306 hat306 (g := (mkF m 269 L_305 [(.int (8 : Int32)), (.ref b123)])) rfl rfl (hb hby at_269) _ q) ?_
      let L_307 : Array Slot := #[.val (.int p0), .val (.int p1), .val (.int (2147483647 : Int32)), .val (.ref b53), .val (.ref b94), .val (.ref b123), .val (.int (8 : Int32)), .val (.int (0 : Int32)), .val (.int (3 : Int32))]
      refine own_ls L_307 272 (fun _ q => XS.istore X152.here hx rfl (hb hby at_270) rfl (l' := L_307) rfl q) ?_
      refine own_tp (.ref b53) 273 (fun _ q => XS.aloadN X152.here hx rfl (hb hby at_272) rfl rfl q) ?_
      refine own_tp (.int (8 : Int32)) 275 (fun _ q => XS.iload X152.here hx rfl (hb hby at_273) rfl q) ?_
      have f308 := ((((((((((((((f125.ext E123).other W128 ne124).other W130 ne124).other W132 ne124).other W134 ne124).other W136 ne124).other W138 ne124).other W140 ne124).other W142 ne124).other W144 ne124).other W146 ne124).other W148 ne124).other W150 ne124).other W152 ne124)
      obtain ⟨cl309, Ar309, q309, S309, Nn309, H309, G309⟩ := (id f308)
      have hin309 : ¬ ((8 : Int32) < 0 ∨ cl309.slots.size ≤ ((8 : Int32)).toNatClampNeg) := inb_of S309 ⟨by decide, by decide⟩
      have hat309 : cl309.slots[((8 : Int32)).toNatClampNeg]? = some (.ref ai8) := H309.at hin309 rfl
      refine own_t2 (.ref ai8) 276 (fun _ q => X152.aaload hx (j := (8 : Int32)) (v := (.ref ai8)) (by rw [e152]; exact Ar309.1) (State.isArrayOf_alike hZ.alike Ar309.2.1) rfl Ar309.2.2 hin309 hat309 (g := (mkF m 275 L_307 [(.int (8 : Int32)), (.ref b53)])) rfl rfl (hb hby at_275) _ q) ?_
      refine own_tp (.int (0 : Int32)) 278 (fun _ q => XS.iload X152.here hx rfl (hb hby at_276) rfl q) ?_
      obtain ⟨Lz310, Xz310, Nz310⟩ : ∃ Lz, Stand p l e room_1 s m #[(.int p0), (.int p1)] below meth c T152 Lz 3 39 ∧ Fr n0 Lz := ⟨_, X152, N152⟩
      obtain ⟨cq311, kq311, q311a, q311b, q311c⟩ := isOf hZ e152 (K8.2.1.ext O152.2)
      obtain ⟨_, _, ⟨T311, L311, k311, n311⟩, -, X311, ⟨Lc311, hQ311, l311, y311, z311⟩, st311⟩ := Xz310.virtualBack hx (y := (⟨"com/example/unit_step/unitstep/IntegerType", "maxDigits", "(Z)I"⟩ : MethodName)) (z := (⟨"com/example/unit_step/unitstep/IntegerType", "maxDigits", "(Z)I"⟩ : MethodName)) hown (mvT hZ (hw _ (List.mem_of_getElem? (i := 32) rfl))) (mvT hZ (hw _ (List.mem_of_getElem? (i := 33) rfl))) (notFace_of_selects (args := #[]) (mvT hZ (hw _ (List.mem_of_getElem? (i := 35) rfl)))) (mvT hZ (hw _ (List.mem_of_getElem? (i := 35) rfl))) (mvT hZ (hw _ (List.mem_of_getElem? (i := 34) rfl))) (by decide) (backOf (W := 0) (rm1 l Z a0 hw [] ai8 (0 : Int32) (1 : Int32) (3 : Int32) h152 n0 (K8.2.2.1.ext O152.2) (K8.2.2.2.ext O152.2)) hZ (hw _ (List.mem_of_getElem? (i := 36) rfl)) (hw _ (List.mem_of_getElem? (i := 4) rfl)) (by decide) (by decide)) q311a q311c (g := (mkF m 278 L_307 [(.int (0 : Int32)), (.ref ai8)])) rfl (by rw [hml]; rfl) (Steps.refl _) (argsL := [(.int (0 : Int32))]) (rest := []) (lenOf pd0_0 rfl) rfl (by show 2 * 0 + _ ≤ _; exact Nat.le_of_eq rfl) (hb hby at_278) (fun _ _ => ⟨rfl, e152, (by decide : 3 + 0 ≤ _), (by decide : 39 + 0 ≤ _)⟩)
      dsimp only [Pt.U, Pt.locs, Pt.cells, Pt.slots] at X311 l311 y311 z311 st311 hQ311
      subst l311 y311 z311
      obtain ⟨rfl, Nq311, eq311⟩ := hQ311
      have N311 := Fr.app Nz310 Nq311
      refine own_csR [(.int (own_md (0 : Int32) (1 : Int32) (3 : Int32)))] 281 st311 ?_
      refine own_tp (.int (3 : Int32)) 283 (fun _ q => XS.iload X311.here hx rfl (hb hby at_281) rfl q) ?_
      refine own_d2 286 (fun _ q => XS.icmpNo X311.here hx rfl (hb hby at_283) rfl (teq (by decide +kernel)).2 q) ?_
      refine own_tp (.int (1 : Int32)) 287 (fun _ q => XS.iconst X311.here hx rfl (hb hby at_286) q) ?_
      refine own_d0 291 (fun _ q => XS.goto X311.here hx rfl (pc0 := 287) (pc' := 291) rfl (hb hby at_287) (by decide) (by decide) q) ?_
      exact own_retN (t := .boolean) X311 hx hrt (hb hby at_291) (by simp) hlk (by decide) (by decide) eq311 (⟨rfl, N311⟩)
    ·
      refine own_d1 245 (fun _ q => XS.ifNo X152.here hx rfl (hb hby at_242) rfl ((if0 _ _).trans (feq c304).1) q) ?_
      refine own_tp (.int (1 : Int32)) 246 (fun _ q => XS.iconst X152.here hx rfl (hb hby at_245) q) ?_
      refine own_d0 250 (fun _ q => XS.goto X152.here hx rfl (pc0 := 246) (pc' := 250) rfl (hb hby at_246) (by decide) (by decide) q) ?_
      let L_312 : Array Slot := #[.val (.int p0), .val (.int p1), .val (.int (2147483647 : Int32)), .val (.ref b53), .val (.ref b94), .val (.ref b123), .val (.int (8 : Int32)), .val (.int (1 : Int32)), .unset]
      refine own_ls L_312 252 (fun _ q => XS.istore X152.here hx rfl (hb hby at_250) rfl (l' := L_312) rfl q) ?_
      refine own_tp (.int (1 : Int32)) 254 (fun _ q => XS.iload X152.here hx rfl (hb hby at_252) rfl q) ?_
      refine own_d1 257 (fun _ q => XS.ifNo X152.here hx rfl (hb hby at_254) rfl ((if0 _ _).trans (feq (by decide : ¬ ((1 : Int32) = (0 : Int32)))).1) q) ?_
      refine own_tp (.ref b94) 259 (fun _ q => XS.aload X152.here hx rfl (hb hby at_257) rfl rfl q) ?_
      refine own_tp (.int (8 : Int32)) 261 (fun _ q => XS.iload X152.here hx rfl (hb hby at_259) rfl q) ?_
      have f313 := ((((((((((((((V121'.ext E123).other W128 ne126).other W130 ne126).other W132 ne126).other W134 ne126).other W136 ne126).other W138 ne126).other W140 ne126).other W142 ne126).other W144 ne126).other W146 ne126).other W148 ne126).other W150 ne126).other W152 ne126)
      obtain ⟨cl314, Ar314, q314, S314, Nn314, H314, G314⟩ := (id f313)
      have hin314 : ¬ ((8 : Int32) < 0 ∨ cl314.slots.size ≤ ((8 : Int32)).toNatClampNeg) := inb_of S314 ⟨by decide, by decide⟩
      have hat314 : cl314.slots[((8 : Int32)).toNatClampNeg]? = some (.int (1 : Int32)) := H314.at hin314 rfl
      refine own_t2 (.int (1 : Int32)) 262 (fun _ q => X152.iaload hx (j := (8 : Int32)) (v := (.int (1 : Int32))) (by rw [e152]; exact Ar314.1) (State.isArrayOf_alike hZ.alike Ar314.2.1) Ar314.2.2 hin314 hat314 (g := (mkF m 261 L_312 [(.int (8 : Int32)), (.ref b94)])) rfl rfl (hb hby at_261) _ q) ?_
      refine own_d0 270 (fun _ q => XS.goto X152.here hx rfl (pc0 := 262) (pc' := 270) rfl (hb hby at_262) (by decide) (by decide) q) ?_
      let L_315 : Array Slot := #[.val (.int p0), .val (.int p1), .val (.int (2147483647 : Int32)), .val (.ref b53), .val (.ref b94), .val (.ref b123), .val (.int (8 : Int32)), .val (.int (1 : Int32)), .val (.int (1 : Int32))]
      refine own_ls L_315 272 (fun _ q => XS.istore X152.here hx rfl (hb hby at_270) rfl (l' := L_315) rfl q) ?_
      refine own_tp (.ref b53) 273 (fun _ q => XS.aloadN X152.here hx rfl (hb hby at_272) rfl rfl q) ?_
      refine own_tp (.int (8 : Int32)) 275 (fun _ q => XS.iload X152.here hx rfl (hb hby at_273) rfl q) ?_
      have f316 := ((((((((((((((f125.ext E123).other W128 ne124).other W130 ne124).other W132 ne124).other W134 ne124).other W136 ne124).other W138 ne124).other W140 ne124).other W142 ne124).other W144 ne124).other W146 ne124).other W148 ne124).other W150 ne124).other W152 ne124)
      obtain ⟨cl317, Ar317, q317, S317, Nn317, H317, G317⟩ := (id f316)
      have hin317 : ¬ ((8 : Int32) < 0 ∨ cl317.slots.size ≤ ((8 : Int32)).toNatClampNeg) := inb_of S317 ⟨by decide, by decide⟩
      have hat317 : cl317.slots[((8 : Int32)).toNatClampNeg]? = some (.ref ai8) := H317.at hin317 rfl
      refine own_t2 (.ref ai8) 276 (fun _ q => X152.aaload hx (j := (8 : Int32)) (v := (.ref ai8)) (by rw [e152]; exact Ar317.1) (State.isArrayOf_alike hZ.alike Ar317.2.1) rfl Ar317.2.2 hin317 hat317 (g := (mkF m 275 L_315 [(.int (8 : Int32)), (.ref b53)])) rfl rfl (hb hby at_275) _ q) ?_
      refine own_tp (.int (1 : Int32)) 278 (fun _ q => XS.iload X152.here hx rfl (hb hby at_276) rfl q) ?_
      obtain ⟨Lz318, Xz318, Nz318⟩ : ∃ Lz, Stand p l e room_1 s m #[(.int p0), (.int p1)] below meth c T152 Lz 3 39 ∧ Fr n0 Lz := ⟨_, X152, N152⟩
      obtain ⟨cq319, kq319, q319a, q319b, q319c⟩ := isOf hZ e152 (K8.2.1.ext O152.2)
      obtain ⟨_, _, ⟨T319, L319, k319, n319⟩, -, X319, ⟨Lc319, hQ319, l319, y319, z319⟩, st319⟩ := Xz318.virtualBack hx (y := (⟨"com/example/unit_step/unitstep/IntegerType", "maxDigits", "(Z)I"⟩ : MethodName)) (z := (⟨"com/example/unit_step/unitstep/IntegerType", "maxDigits", "(Z)I"⟩ : MethodName)) hown (mvT hZ (hw _ (List.mem_of_getElem? (i := 32) rfl))) (mvT hZ (hw _ (List.mem_of_getElem? (i := 33) rfl))) (notFace_of_selects (args := #[]) (mvT hZ (hw _ (List.mem_of_getElem? (i := 35) rfl)))) (mvT hZ (hw _ (List.mem_of_getElem? (i := 35) rfl))) (mvT hZ (hw _ (List.mem_of_getElem? (i := 34) rfl))) (by decide) (backOf (W := 0) (rm1 l Z a0 hw [] ai8 (1 : Int32) (1 : Int32) (3 : Int32) h152 n0 (K8.2.2.1.ext O152.2) (K8.2.2.2.ext O152.2)) hZ (hw _ (List.mem_of_getElem? (i := 36) rfl)) (hw _ (List.mem_of_getElem? (i := 4) rfl)) (by decide) (by decide)) q319a q319c (g := (mkF m 278 L_315 [(.int (1 : Int32)), (.ref ai8)])) rfl (by rw [hml]; rfl) (Steps.refl _) (argsL := [(.int (1 : Int32))]) (rest := []) (lenOf pd0_0 rfl) rfl (by show 2 * 0 + _ ≤ _; exact Nat.le_of_eq rfl) (hb hby at_278) (fun _ _ => ⟨rfl, e152, (by decide : 3 + 0 ≤ _), (by decide : 39 + 0 ≤ _)⟩)
      dsimp only [Pt.U, Pt.locs, Pt.cells, Pt.slots] at X319 l319 y319 z319 st319 hQ319
      subst l319 y319 z319
      obtain ⟨rfl, Nq319, eq319⟩ := hQ319
      have N319 := Fr.app Nz318 Nq319
      refine own_csR [(.int (own_md (1 : Int32) (1 : Int32) (3 : Int32)))] 281 st319 ?_
      refine own_tp (.int (1 : Int32)) 283 (fun _ q => XS.iload X319.here hx rfl (hb hby at_281) rfl q) ?_
      refine own_d2 286 (fun _ q => XS.icmpNo X319.here hx rfl (hb hby at_283) rfl (teq (by decide +kernel)).2 q) ?_
      refine own_tp (.int (1 : Int32)) 287 (fun _ q => XS.iconst X319.here hx rfl (hb hby at_286) q) ?_
      refine own_d0 291 (fun _ q => XS.goto X319.here hx rfl (pc0 := 287) (pc' := 291) rfl (hb hby at_287) (by decide) (by decide) q) ?_
      exact own_retN (t := .boolean) X319 hx hrt (hb hby at_291) (by simp) hlk (by decide) (by decide) eq319 (⟨rfl, N319⟩)
  ·
    rw [hk163]
    let L_320 : Array Slot := #[.val (.int p0), .val (.int p1), .val (.int (2147483647 : Int32)), .val (.ref b53), .val (.ref b94), .val (.ref b123), .val (.int (9 : Int32)), .unset, .unset]
    refine own_ls L_320 239 (fun _ q => XS.istore X152.here hx rfl (hb hby at_237) rfl (l' := L_320) rfl q) ?_
    refine own_tp (.int p1) 240 (fun _ q => XS.iloadN X152.here hx rfl (hb hby at_239) rfl q) ?_
    refine own_tp (.int (1 : Int32)) 241 (fun _ q => XS.iconst X152.here hx rfl (hb hby at_240) q) ?_
    refine own_t2 (.int (p1 &&& (1 : Int32))) 242 (fun _ q => XS.iand X152.here hx rfl (hb hby at_241) rfl q) ?_
    by_cases c321 : (p1 &&& (1 : Int32)) = (0 : Int32)
    ·
      refine own_d1 249 (fun _ q => XS.ifYes X152.here hx rfl (pc0 := 242) (pc' := 249) rfl (hb hby at_242) rfl ((if0 _ _).trans (teq c321).1) (by decide) (by decide) q) ?_
      refine own_tp (.int (0 : Int32)) 250 (fun _ q => XS.iconst X152.here hx rfl (hb hby at_249) q) ?_
      let L_322 : Array Slot := #[.val (.int p0), .val (.int p1), .val (.int (2147483647 : Int32)), .val (.ref b53), .val (.ref b94), .val (.ref b123), .val (.int (9 : Int32)), .val (.int (0 : Int32)), .unset]
      refine own_ls L_322 252 (fun _ q => XS.istore X152.here hx rfl (hb hby at_250) rfl (l' := L_322) rfl q) ?_
      refine own_tp (.int (0 : Int32)) 254 (fun _ q => XS.iload X152.here hx rfl (hb hby at_252) rfl q) ?_
      refine own_d1 265 (fun _ q => XS.ifYes X152.here hx rfl (pc0 := 254) (pc' := 265) rfl (hb hby at_254) rfl ((if0 _ _).trans (teq (by decide : (0 : Int32) = (0 : Int32))).1) (by decide) (by decide) q) ?_
      refine own_tp (.ref b123) 267 (fun _ q => XS.aload X152.here hx rfl (hb hby at_265) rfl rfl q) ?_
      refine own_tp (.int (9 : Int32)) 269 (fun _ q => XS.iload X152.here hx rfl (hb hby at_267) rfl q) ?_
      obtain ⟨cl323, Ar323, q323, S323, Nn323, H323, G323⟩ := (id V152')
      have hin323 : ¬ ((9 : Int32) < 0 ∨ cl323.slots.size ≤ ((9 : Int32)).toNatClampNeg) := inb_of S323 ⟨by decide, by decide⟩
      have hat323 : cl323.slots[((9 : Int32)).toNatClampNeg]? = some (.int (2147483647 : Int32)) := H323.at hin323 rfl
      refine own_t2 (.int (2147483647 : Int32)) 270 (fun _ q => X152.iaload hx (j := (9 : Int32)) (v := (.int (2147483647 : Int32))) (by rw [e152]; exact Ar323.1) (State.isArrayOf_alike hZ.alike Ar323.2.1) Ar323.2.2 hin323 hat323 (g := (mkF m 269 L_322 [(.int (9 : Int32)), (.ref b123)])) rfl rfl (hb hby at_269) _ q) ?_
      let L_324 : Array Slot := #[.val (.int p0), .val (.int p1), .val (.int (2147483647 : Int32)), .val (.ref b53), .val (.ref b94), .val (.ref b123), .val (.int (9 : Int32)), .val (.int (0 : Int32)), .val (.int (2147483647 : Int32))]
      refine own_ls L_324 272 (fun _ q => XS.istore X152.here hx rfl (hb hby at_270) rfl (l' := L_324) rfl q) ?_
      refine own_tp (.ref b53) 273 (fun _ q => XS.aloadN X152.here hx rfl (hb hby at_272) rfl rfl q) ?_
      refine own_tp (.int (9 : Int32)) 275 (fun _ q => XS.iload X152.here hx rfl (hb hby at_273) rfl q) ?_
      have f325 := ((((((((((((((f125.ext E123).other W128 ne124).other W130 ne124).other W132 ne124).other W134 ne124).other W136 ne124).other W138 ne124).other W140 ne124).other W142 ne124).other W144 ne124).other W146 ne124).other W148 ne124).other W150 ne124).other W152 ne124)
      obtain ⟨cl326, Ar326, q326, S326, Nn326, H326, G326⟩ := (id f325)
      have hin326 : ¬ ((9 : Int32) < 0 ∨ cl326.slots.size ≤ ((9 : Int32)).toNatClampNeg) := inb_of S326 ⟨by decide, by decide⟩
      have hat326 : cl326.slots[((9 : Int32)).toNatClampNeg]? = some (.ref ai9) := H326.at hin326 rfl
      refine own_t2 (.ref ai9) 276 (fun _ q => X152.aaload hx (j := (9 : Int32)) (v := (.ref ai9)) (by rw [e152]; exact Ar326.1) (State.isArrayOf_alike hZ.alike Ar326.2.1) rfl Ar326.2.2 hin326 hat326 (g := (mkF m 275 L_324 [(.int (9 : Int32)), (.ref b53)])) rfl rfl (hb hby at_275) _ q) ?_
      refine own_tp (.int (0 : Int32)) 278 (fun _ q => XS.iload X152.here hx rfl (hb hby at_276) rfl q) ?_
      obtain ⟨Lz327, Xz327, Nz327⟩ : ∃ Lz, Stand p l e room_1 s m #[(.int p0), (.int p1)] below meth c T152 Lz 3 39 ∧ Fr n0 Lz := ⟨_, X152, N152⟩
      obtain ⟨cq328, kq328, q328a, q328b, q328c⟩ := isOf hZ e152 (K9.2.1.ext O152.2)
      obtain ⟨_, _, ⟨T328, L328, k328, n328⟩, -, X328, ⟨Lc328, hQ328, l328, y328, z328⟩, st328⟩ := Xz327.virtualBack hx (y := (⟨"com/example/unit_step/unitstep/IntegerType", "maxDigits", "(Z)I"⟩ : MethodName)) (z := (⟨"com/example/unit_step/unitstep/IntegerType", "maxDigits", "(Z)I"⟩ : MethodName)) hown (mvT hZ (hw _ (List.mem_of_getElem? (i := 32) rfl))) (mvT hZ (hw _ (List.mem_of_getElem? (i := 33) rfl))) (notFace_of_selects (args := #[]) (mvT hZ (hw _ (List.mem_of_getElem? (i := 35) rfl)))) (mvT hZ (hw _ (List.mem_of_getElem? (i := 35) rfl))) (mvT hZ (hw _ (List.mem_of_getElem? (i := 34) rfl))) (by decide) (backOf (W := 0) (rm1 l Z a0 hw [] ai9 (0 : Int32) (1 : Int32) (2147483647 : Int32) h152 n0 (K9.2.2.1.ext O152.2) (K9.2.2.2.ext O152.2)) hZ (hw _ (List.mem_of_getElem? (i := 36) rfl)) (hw _ (List.mem_of_getElem? (i := 4) rfl)) (by decide) (by decide)) q328a q328c (g := (mkF m 278 L_324 [(.int (0 : Int32)), (.ref ai9)])) rfl (by rw [hml]; rfl) (Steps.refl _) (argsL := [(.int (0 : Int32))]) (rest := []) (lenOf pd0_0 rfl) rfl (by show 2 * 0 + _ ≤ _; exact Nat.le_of_eq rfl) (hb hby at_278) (fun _ _ => ⟨rfl, e152, (by decide : 3 + 0 ≤ _), (by decide : 39 + 0 ≤ _)⟩)
      dsimp only [Pt.U, Pt.locs, Pt.cells, Pt.slots] at X328 l328 y328 z328 st328 hQ328
      subst l328 y328 z328
      obtain ⟨rfl, Nq328, eq328⟩ := hQ328
      have N328 := Fr.app Nz327 Nq328
      refine own_csR [(.int (own_md (0 : Int32) (1 : Int32) (2147483647 : Int32)))] 281 st328 ?_
      refine own_tp (.int (2147483647 : Int32)) 283 (fun _ q => XS.iload X328.here hx rfl (hb hby at_281) rfl q) ?_
      refine own_d2 286 (fun _ q => XS.icmpNo X328.here hx rfl (hb hby at_283) rfl (teq (by decide +kernel)).2 q) ?_
      refine own_tp (.int (1 : Int32)) 287 (fun _ q => XS.iconst X328.here hx rfl (hb hby at_286) q) ?_
      refine own_d0 291 (fun _ q => XS.goto X328.here hx rfl (pc0 := 287) (pc' := 291) rfl (hb hby at_287) (by decide) (by decide) q) ?_
      exact own_retN (t := .boolean) X328 hx hrt (hb hby at_291) (by simp) hlk (by decide) (by decide) eq328 (⟨rfl, N328⟩)
    ·
      refine own_d1 245 (fun _ q => XS.ifNo X152.here hx rfl (hb hby at_242) rfl ((if0 _ _).trans (feq c321).1) q) ?_
      refine own_tp (.int (1 : Int32)) 246 (fun _ q => XS.iconst X152.here hx rfl (hb hby at_245) q) ?_
      refine own_d0 250 (fun _ q => XS.goto X152.here hx rfl (pc0 := 246) (pc' := 250) rfl (hb hby at_246) (by decide) (by decide) q) ?_
      let L_329 : Array Slot := #[.val (.int p0), .val (.int p1), .val (.int (2147483647 : Int32)), .val (.ref b53), .val (.ref b94), .val (.ref b123), .val (.int (9 : Int32)), .val (.int (1 : Int32)), .unset]
      refine own_ls L_329 252 (fun _ q => XS.istore X152.here hx rfl (hb hby at_250) rfl (l' := L_329) rfl q) ?_
      refine own_tp (.int (1 : Int32)) 254 (fun _ q => XS.iload X152.here hx rfl (hb hby at_252) rfl q) ?_
      refine own_d1 257 (fun _ q => XS.ifNo X152.here hx rfl (hb hby at_254) rfl ((if0 _ _).trans (feq (by decide : ¬ ((1 : Int32) = (0 : Int32)))).1) q) ?_
      refine own_tp (.ref b94) 259 (fun _ q => XS.aload X152.here hx rfl (hb hby at_257) rfl rfl q) ?_
      refine own_tp (.int (9 : Int32)) 261 (fun _ q => XS.iload X152.here hx rfl (hb hby at_259) rfl q) ?_
      have f330 := ((((((((((((((V121'.ext E123).other W128 ne126).other W130 ne126).other W132 ne126).other W134 ne126).other W136 ne126).other W138 ne126).other W140 ne126).other W142 ne126).other W144 ne126).other W146 ne126).other W148 ne126).other W150 ne126).other W152 ne126)
      obtain ⟨cl331, Ar331, q331, S331, Nn331, H331, G331⟩ := (id f330)
      have hin331 : ¬ ((9 : Int32) < 0 ∨ cl331.slots.size ≤ ((9 : Int32)).toNatClampNeg) := inb_of S331 ⟨by decide, by decide⟩
      have hat331 : cl331.slots[((9 : Int32)).toNatClampNeg]? = some (.int (1 : Int32)) := H331.at hin331 rfl
      refine own_t2 (.int (1 : Int32)) 262 (fun _ q => X152.iaload hx (j := (9 : Int32)) (v := (.int (1 : Int32))) (by rw [e152]; exact Ar331.1) (State.isArrayOf_alike hZ.alike Ar331.2.1) Ar331.2.2 hin331 hat331 (g := (mkF m 261 L_329 [(.int (9 : Int32)), (.ref b94)])) rfl rfl (hb hby at_261) _ q) ?_
      refine own_d0 270 (fun _ q => XS.goto X152.here hx rfl (pc0 := 262) (pc' := 270) rfl (hb hby at_262) (by decide) (by decide) q) ?_
      let L_332 : Array Slot := #[.val (.int p0), .val (.int p1), .val (.int (2147483647 : Int32)), .val (.ref b53), .val (.ref b94), .val (.ref b123), .val (.int (9 : Int32)), .val (.int (1 : Int32)), .val (.int (1 : Int32))]
      refine own_ls L_332 272 (fun _ q => XS.istore X152.here hx rfl (hb hby at_270) rfl (l' := L_332) rfl q) ?_
      refine own_tp (.ref b53) 273 (fun _ q => XS.aloadN X152.here hx rfl (hb hby at_272) rfl rfl q) ?_
      refine own_tp (.int (9 : Int32)) 275 (fun _ q => XS.iload X152.here hx rfl (hb hby at_273) rfl q) ?_
      have f333 := ((((((((((((((f125.ext E123).other W128 ne124).other W130 ne124).other W132 ne124).other W134 ne124).other W136 ne124).other W138 ne124).other W140 ne124).other W142 ne124).other W144 ne124).other W146 ne124).other W148 ne124).other W150 ne124).other W152 ne124)
      obtain ⟨cl334, Ar334, q334, S334, Nn334, H334, G334⟩ := (id f333)
      have hin334 : ¬ ((9 : Int32) < 0 ∨ cl334.slots.size ≤ ((9 : Int32)).toNatClampNeg) := inb_of S334 ⟨by decide, by decide⟩
      have hat334 : cl334.slots[((9 : Int32)).toNatClampNeg]? = some (.ref ai9) := H334.at hin334 rfl
      refine own_t2 (.ref ai9) 276 (fun _ q => X152.aaload hx (j := (9 : Int32)) (v := (.ref ai9)) (by rw [e152]; exact Ar334.1) (State.isArrayOf_alike hZ.alike Ar334.2.1) rfl Ar334.2.2 hin334 hat334 (g := (mkF m 275 L_332 [(.int (9 : Int32)), (.ref b53)])) rfl rfl (hb hby at_275) _ q) ?_
      refine own_tp (.int (1 : Int32)) 278 (fun _ q => XS.iload X152.here hx rfl (hb hby at_276) rfl q) ?_
      obtain ⟨Lz335, Xz335, Nz335⟩ : ∃ Lz, Stand p l e room_1 s m #[(.int p0), (.int p1)] below meth c T152 Lz 3 39 ∧ Fr n0 Lz := ⟨_, X152, N152⟩
      obtain ⟨cq336, kq336, q336a, q336b, q336c⟩ := isOf hZ e152 (K9.2.1.ext O152.2)
      obtain ⟨_, _, ⟨T336, L336, k336, n336⟩, -, X336, ⟨Lc336, hQ336, l336, y336, z336⟩, st336⟩ := Xz335.virtualBack hx (y := (⟨"com/example/unit_step/unitstep/IntegerType", "maxDigits", "(Z)I"⟩ : MethodName)) (z := (⟨"com/example/unit_step/unitstep/IntegerType", "maxDigits", "(Z)I"⟩ : MethodName)) hown (mvT hZ (hw _ (List.mem_of_getElem? (i := 32) rfl))) (mvT hZ (hw _ (List.mem_of_getElem? (i := 33) rfl))) (notFace_of_selects (args := #[]) (mvT hZ (hw _ (List.mem_of_getElem? (i := 35) rfl)))) (mvT hZ (hw _ (List.mem_of_getElem? (i := 35) rfl))) (mvT hZ (hw _ (List.mem_of_getElem? (i := 34) rfl))) (by decide) (backOf (W := 0) (rm1 l Z a0 hw [] ai9 (1 : Int32) (1 : Int32) (2147483647 : Int32) h152 n0 (K9.2.2.1.ext O152.2) (K9.2.2.2.ext O152.2)) hZ (hw _ (List.mem_of_getElem? (i := 36) rfl)) (hw _ (List.mem_of_getElem? (i := 4) rfl)) (by decide) (by decide)) q336a q336c (g := (mkF m 278 L_332 [(.int (1 : Int32)), (.ref ai9)])) rfl (by rw [hml]; rfl) (Steps.refl _) (argsL := [(.int (1 : Int32))]) (rest := []) (lenOf pd0_0 rfl) rfl (by show 2 * 0 + _ ≤ _; exact Nat.le_of_eq rfl) (hb hby at_278) (fun _ _ => ⟨rfl, e152, (by decide : 3 + 0 ≤ _), (by decide : 39 + 0 ≤ _)⟩)
      dsimp only [Pt.U, Pt.locs, Pt.cells, Pt.slots] at X336 l336 y336 z336 st336 hQ336
      subst l336 y336 z336
      obtain ⟨rfl, Nq336, eq336⟩ := hQ336
      have N336 := Fr.app Nz335 Nq336
      refine own_csR [(.int (own_md (1 : Int32) (1 : Int32) (2147483647 : Int32)))] 281 st336 ?_
      refine own_tp (.int (1 : Int32)) 283 (fun _ q => XS.iload X336.here hx rfl (hb hby at_281) rfl q) ?_
      refine own_d2 286 (fun _ q => XS.icmpNo X336.here hx rfl (hb hby at_283) rfl (teq (by decide +kernel)).2 q) ?_
      refine own_tp (.int (1 : Int32)) 287 (fun _ q => XS.iconst X336.here hx rfl (hb hby at_286) q) ?_
      refine own_d0 291 (fun _ q => XS.goto X336.here hx rfl (pc0 := 287) (pc' := 291) rfl (hb hby at_287) (by decide) (by decide) q) ?_
      exact own_retN (t := .boolean) X336 hx hrt (hb hby at_291) (by simp) hlk (by decide) (by decide) eq336 (⟨rfl, N336⟩)
  ·
    rw [hk164]
    let L_337 : Array Slot := #[.val (.int p0), .val (.int p1), .val (.int (2147483647 : Int32)), .val (.ref b53), .val (.ref b94), .val (.ref b123), .val (.int (10 : Int32)), .unset, .unset]
    refine own_ls L_337 239 (fun _ q => XS.istore X152.here hx rfl (hb hby at_237) rfl (l' := L_337) rfl q) ?_
    refine own_tp (.int p1) 240 (fun _ q => XS.iloadN X152.here hx rfl (hb hby at_239) rfl q) ?_
    refine own_tp (.int (1 : Int32)) 241 (fun _ q => XS.iconst X152.here hx rfl (hb hby at_240) q) ?_
    refine own_t2 (.int (p1 &&& (1 : Int32))) 242 (fun _ q => XS.iand X152.here hx rfl (hb hby at_241) rfl q) ?_
    by_cases c338 : (p1 &&& (1 : Int32)) = (0 : Int32)
    ·
      refine own_d1 249 (fun _ q => XS.ifYes X152.here hx rfl (pc0 := 242) (pc' := 249) rfl (hb hby at_242) rfl ((if0 _ _).trans (teq c338).1) (by decide) (by decide) q) ?_
      refine own_tp (.int (0 : Int32)) 250 (fun _ q => XS.iconst X152.here hx rfl (hb hby at_249) q) ?_
      let L_339 : Array Slot := #[.val (.int p0), .val (.int p1), .val (.int (2147483647 : Int32)), .val (.ref b53), .val (.ref b94), .val (.ref b123), .val (.int (10 : Int32)), .val (.int (0 : Int32)), .unset]
      refine own_ls L_339 252 (fun _ q => XS.istore X152.here hx rfl (hb hby at_250) rfl (l' := L_339) rfl q) ?_
      refine own_tp (.int (0 : Int32)) 254 (fun _ q => XS.iload X152.here hx rfl (hb hby at_252) rfl q) ?_
      refine own_d1 265 (fun _ q => XS.ifYes X152.here hx rfl (pc0 := 254) (pc' := 265) rfl (hb hby at_254) rfl ((if0 _ _).trans (teq (by decide : (0 : Int32) = (0 : Int32))).1) (by decide) (by decide) q) ?_
      refine own_tp (.ref b123) 267 (fun _ q => XS.aload X152.here hx rfl (hb hby at_265) rfl rfl q) ?_
      refine own_tp (.int (10 : Int32)) 269 (fun _ q => XS.iload X152.here hx rfl (hb hby at_267) rfl q) ?_
      obtain ⟨cl340, Ar340, q340, S340, Nn340, H340, G340⟩ := (id V152')
      have hin340 : ¬ ((10 : Int32) < 0 ∨ cl340.slots.size ≤ ((10 : Int32)).toNatClampNeg) := inb_of S340 ⟨by decide, by decide⟩
      have hat340 : cl340.slots[((10 : Int32)).toNatClampNeg]? = some (.int (2147483647 : Int32)) := H340.at hin340 rfl
      refine own_t2 (.int (2147483647 : Int32)) 270 (fun _ q => X152.iaload hx (j := (10 : Int32)) (v := (.int (2147483647 : Int32))) (by rw [e152]; exact Ar340.1) (State.isArrayOf_alike hZ.alike Ar340.2.1) Ar340.2.2 hin340 hat340 (g := (mkF m 269 L_339 [(.int (10 : Int32)), (.ref b123)])) rfl rfl (hb hby at_269) _ q) ?_
      let L_341 : Array Slot := #[.val (.int p0), .val (.int p1), .val (.int (2147483647 : Int32)), .val (.ref b53), .val (.ref b94), .val (.ref b123), .val (.int (10 : Int32)), .val (.int (0 : Int32)), .val (.int (2147483647 : Int32))]
      refine own_ls L_341 272 (fun _ q => XS.istore X152.here hx rfl (hb hby at_270) rfl (l' := L_341) rfl q) ?_
      refine own_tp (.ref b53) 273 (fun _ q => XS.aloadN X152.here hx rfl (hb hby at_272) rfl rfl q) ?_
      refine own_tp (.int (10 : Int32)) 275 (fun _ q => XS.iload X152.here hx rfl (hb hby at_273) rfl q) ?_
      have f342 := ((((((((((((((f125.ext E123).other W128 ne124).other W130 ne124).other W132 ne124).other W134 ne124).other W136 ne124).other W138 ne124).other W140 ne124).other W142 ne124).other W144 ne124).other W146 ne124).other W148 ne124).other W150 ne124).other W152 ne124)
      obtain ⟨cl343, Ar343, q343, S343, Nn343, H343, G343⟩ := (id f342)
      have hin343 : ¬ ((10 : Int32) < 0 ∨ cl343.slots.size ≤ ((10 : Int32)).toNatClampNeg) := inb_of S343 ⟨by decide, by decide⟩
      have hat343 : cl343.slots[((10 : Int32)).toNatClampNeg]? = some (.ref ai10) := H343.at hin343 rfl
      refine own_t2 (.ref ai10) 276 (fun _ q => X152.aaload hx (j := (10 : Int32)) (v := (.ref ai10)) (by rw [e152]; exact Ar343.1) (State.isArrayOf_alike hZ.alike Ar343.2.1) rfl Ar343.2.2 hin343 hat343 (g := (mkF m 275 L_341 [(.int (10 : Int32)), (.ref b53)])) rfl rfl (hb hby at_275) _ q) ?_
      refine own_tp (.int (0 : Int32)) 278 (fun _ q => XS.iload X152.here hx rfl (hb hby at_276) rfl q) ?_
      obtain ⟨Lz344, Xz344, Nz344⟩ : ∃ Lz, Stand p l e room_1 s m #[(.int p0), (.int p1)] below meth c T152 Lz 3 39 ∧ Fr n0 Lz := ⟨_, X152, N152⟩
      obtain ⟨cq345, kq345, q345a, q345b, q345c⟩ := isOf hZ e152 (K10.2.1.ext O152.2)
      obtain ⟨_, _, ⟨T345, L345, k345, n345⟩, -, X345, ⟨Lc345, hQ345, l345, y345, z345⟩, st345⟩ := Xz344.virtualBack hx (y := (⟨"com/example/unit_step/unitstep/IntegerType", "maxDigits", "(Z)I"⟩ : MethodName)) (z := (⟨"com/example/unit_step/unitstep/IntegerType", "maxDigits", "(Z)I"⟩ : MethodName)) hown (mvT hZ (hw _ (List.mem_of_getElem? (i := 32) rfl))) (mvT hZ (hw _ (List.mem_of_getElem? (i := 33) rfl))) (notFace_of_selects (args := #[]) (mvT hZ (hw _ (List.mem_of_getElem? (i := 35) rfl)))) (mvT hZ (hw _ (List.mem_of_getElem? (i := 35) rfl))) (mvT hZ (hw _ (List.mem_of_getElem? (i := 34) rfl))) (by decide) (backOf (W := 0) (rm1 l Z a0 hw [] ai10 (0 : Int32) (1 : Int32) (2147483647 : Int32) h152 n0 (K10.2.2.1.ext O152.2) (K10.2.2.2.ext O152.2)) hZ (hw _ (List.mem_of_getElem? (i := 36) rfl)) (hw _ (List.mem_of_getElem? (i := 4) rfl)) (by decide) (by decide)) q345a q345c (g := (mkF m 278 L_341 [(.int (0 : Int32)), (.ref ai10)])) rfl (by rw [hml]; rfl) (Steps.refl _) (argsL := [(.int (0 : Int32))]) (rest := []) (lenOf pd0_0 rfl) rfl (by show 2 * 0 + _ ≤ _; exact Nat.le_of_eq rfl) (hb hby at_278) (fun _ _ => ⟨rfl, e152, (by decide : 3 + 0 ≤ _), (by decide : 39 + 0 ≤ _)⟩)
      dsimp only [Pt.U, Pt.locs, Pt.cells, Pt.slots] at X345 l345 y345 z345 st345 hQ345
      subst l345 y345 z345
      obtain ⟨rfl, Nq345, eq345⟩ := hQ345
      have N345 := Fr.app Nz344 Nq345
      refine own_csR [(.int (own_md (0 : Int32) (1 : Int32) (2147483647 : Int32)))] 281 st345 ?_
      refine own_tp (.int (2147483647 : Int32)) 283 (fun _ q => XS.iload X345.here hx rfl (hb hby at_281) rfl q) ?_
      refine own_d2 286 (fun _ q => XS.icmpNo X345.here hx rfl (hb hby at_283) rfl (teq (by decide +kernel)).2 q) ?_
      refine own_tp (.int (1 : Int32)) 287 (fun _ q => XS.iconst X345.here hx rfl (hb hby at_286) q) ?_
      refine own_d0 291 (fun _ q => XS.goto X345.here hx rfl (pc0 := 287) (pc' := 291) rfl (hb hby at_287) (by decide) (by decide) q) ?_
      exact own_retN (t := .boolean) X345 hx hrt (hb hby at_291) (by simp) hlk (by decide) (by decide) eq345 (⟨rfl, N345⟩)
    ·
      refine own_d1 245 (fun _ q => XS.ifNo X152.here hx rfl (hb hby at_242) rfl ((if0 _ _).trans (feq c338).1) q) ?_
      refine own_tp (.int (1 : Int32)) 246 (fun _ q => XS.iconst X152.here hx rfl (hb hby at_245) q) ?_
      refine own_d0 250 (fun _ q => XS.goto X152.here hx rfl (pc0 := 246) (pc' := 250) rfl (hb hby at_246) (by decide) (by decide) q) ?_
      let L_346 : Array Slot := #[.val (.int p0), .val (.int p1), .val (.int (2147483647 : Int32)), .val (.ref b53), .val (.ref b94), .val (.ref b123), .val (.int (10 : Int32)), .val (.int (1 : Int32)), .unset]
      refine own_ls L_346 252 (fun _ q => XS.istore X152.here hx rfl (hb hby at_250) rfl (l' := L_346) rfl q) ?_
      refine own_tp (.int (1 : Int32)) 254 (fun _ q => XS.iload X152.here hx rfl (hb hby at_252) rfl q) ?_
      refine own_d1 257 (fun _ q => XS.ifNo X152.here hx rfl (hb hby at_254) rfl ((if0 _ _).trans (feq (by decide : ¬ ((1 : Int32) = (0 : Int32)))).1) q) ?_
      refine own_tp (.ref b94) 259 (fun _ q => XS.aload X152.here hx rfl (hb hby at_257) rfl rfl q) ?_
      refine own_tp (.int (10 : Int32)) 261 (fun _ q => XS.iload X152.here hx rfl (hb hby at_259) rfl q) ?_
      have f347 := ((((((((((((((V121'.ext E123).other W128 ne126).other W130 ne126).other W132 ne126).other W134 ne126).other W136 ne126).other W138 ne126).other W140 ne126).other W142 ne126).other W144 ne126).other W146 ne126).other W148 ne126).other W150 ne126).other W152 ne126)
      obtain ⟨cl348, Ar348, q348, S348, Nn348, H348, G348⟩ := (id f347)
      have hin348 : ¬ ((10 : Int32) < 0 ∨ cl348.slots.size ≤ ((10 : Int32)).toNatClampNeg) := inb_of S348 ⟨by decide, by decide⟩
      have hat348 : cl348.slots[((10 : Int32)).toNatClampNeg]? = some (.int (1 : Int32)) := H348.at hin348 rfl
      refine own_t2 (.int (1 : Int32)) 262 (fun _ q => X152.iaload hx (j := (10 : Int32)) (v := (.int (1 : Int32))) (by rw [e152]; exact Ar348.1) (State.isArrayOf_alike hZ.alike Ar348.2.1) Ar348.2.2 hin348 hat348 (g := (mkF m 261 L_346 [(.int (10 : Int32)), (.ref b94)])) rfl rfl (hb hby at_261) _ q) ?_
      refine own_d0 270 (fun _ q => XS.goto X152.here hx rfl (pc0 := 262) (pc' := 270) rfl (hb hby at_262) (by decide) (by decide) q) ?_
      let L_349 : Array Slot := #[.val (.int p0), .val (.int p1), .val (.int (2147483647 : Int32)), .val (.ref b53), .val (.ref b94), .val (.ref b123), .val (.int (10 : Int32)), .val (.int (1 : Int32)), .val (.int (1 : Int32))]
      refine own_ls L_349 272 (fun _ q => XS.istore X152.here hx rfl (hb hby at_270) rfl (l' := L_349) rfl q) ?_
      refine own_tp (.ref b53) 273 (fun _ q => XS.aloadN X152.here hx rfl (hb hby at_272) rfl rfl q) ?_
      refine own_tp (.int (10 : Int32)) 275 (fun _ q => XS.iload X152.here hx rfl (hb hby at_273) rfl q) ?_
      have f350 := ((((((((((((((f125.ext E123).other W128 ne124).other W130 ne124).other W132 ne124).other W134 ne124).other W136 ne124).other W138 ne124).other W140 ne124).other W142 ne124).other W144 ne124).other W146 ne124).other W148 ne124).other W150 ne124).other W152 ne124)
      obtain ⟨cl351, Ar351, q351, S351, Nn351, H351, G351⟩ := (id f350)
      have hin351 : ¬ ((10 : Int32) < 0 ∨ cl351.slots.size ≤ ((10 : Int32)).toNatClampNeg) := inb_of S351 ⟨by decide, by decide⟩
      have hat351 : cl351.slots[((10 : Int32)).toNatClampNeg]? = some (.ref ai10) := H351.at hin351 rfl
      refine own_t2 (.ref ai10) 276 (fun _ q => X152.aaload hx (j := (10 : Int32)) (v := (.ref ai10)) (by rw [e152]; exact Ar351.1) (State.isArrayOf_alike hZ.alike Ar351.2.1) rfl Ar351.2.2 hin351 hat351 (g := (mkF m 275 L_349 [(.int (10 : Int32)), (.ref b53)])) rfl rfl (hb hby at_275) _ q) ?_
      refine own_tp (.int (1 : Int32)) 278 (fun _ q => XS.iload X152.here hx rfl (hb hby at_276) rfl q) ?_
      obtain ⟨Lz352, Xz352, Nz352⟩ : ∃ Lz, Stand p l e room_1 s m #[(.int p0), (.int p1)] below meth c T152 Lz 3 39 ∧ Fr n0 Lz := ⟨_, X152, N152⟩
      obtain ⟨cq353, kq353, q353a, q353b, q353c⟩ := isOf hZ e152 (K10.2.1.ext O152.2)
      obtain ⟨_, _, ⟨T353, L353, k353, n353⟩, -, X353, ⟨Lc353, hQ353, l353, y353, z353⟩, st353⟩ := Xz352.virtualBack hx (y := (⟨"com/example/unit_step/unitstep/IntegerType", "maxDigits", "(Z)I"⟩ : MethodName)) (z := (⟨"com/example/unit_step/unitstep/IntegerType", "maxDigits", "(Z)I"⟩ : MethodName)) hown (mvT hZ (hw _ (List.mem_of_getElem? (i := 32) rfl))) (mvT hZ (hw _ (List.mem_of_getElem? (i := 33) rfl))) (notFace_of_selects (args := #[]) (mvT hZ (hw _ (List.mem_of_getElem? (i := 35) rfl)))) (mvT hZ (hw _ (List.mem_of_getElem? (i := 35) rfl))) (mvT hZ (hw _ (List.mem_of_getElem? (i := 34) rfl))) (by decide) (backOf (W := 0) (rm1 l Z a0 hw [] ai10 (1 : Int32) (1 : Int32) (2147483647 : Int32) h152 n0 (K10.2.2.1.ext O152.2) (K10.2.2.2.ext O152.2)) hZ (hw _ (List.mem_of_getElem? (i := 36) rfl)) (hw _ (List.mem_of_getElem? (i := 4) rfl)) (by decide) (by decide)) q353a q353c (g := (mkF m 278 L_349 [(.int (1 : Int32)), (.ref ai10)])) rfl (by rw [hml]; rfl) (Steps.refl _) (argsL := [(.int (1 : Int32))]) (rest := []) (lenOf pd0_0 rfl) rfl (by show 2 * 0 + _ ≤ _; exact Nat.le_of_eq rfl) (hb hby at_278) (fun _ _ => ⟨rfl, e152, (by decide : 3 + 0 ≤ _), (by decide : 39 + 0 ≤ _)⟩)
      dsimp only [Pt.U, Pt.locs, Pt.cells, Pt.slots] at X353 l353 y353 z353 st353 hQ353
      subst l353 y353 z353
      obtain ⟨rfl, Nq353, eq353⟩ := hQ353
      have N353 := Fr.app Nz352 Nq353
      refine own_csR [(.int (own_md (1 : Int32) (1 : Int32) (2147483647 : Int32)))] 281 st353 ?_
      refine own_tp (.int (1 : Int32)) 283 (fun _ q => XS.iload X353.here hx rfl (hb hby at_281) rfl q) ?_
      refine own_d2 286 (fun _ q => XS.icmpNo X353.here hx rfl (hb hby at_283) rfl (teq (by decide +kernel)).2 q) ?_
      refine own_tp (.int (1 : Int32)) 287 (fun _ q => XS.iconst X353.here hx rfl (hb hby at_286) q) ?_
      refine own_d0 291 (fun _ q => XS.goto X353.here hx rfl (pc0 := 287) (pc' := 291) rfl (hb hby at_287) (by decide) (by decide) q) ?_
      exact own_retN (t := .boolean) X353 hx hrt (hb hby at_291) (by simp) hlk (by decide) (by decide) eq353 (⟨rfl, N353⟩)
  ·
    rw [hk165]
    let L_354 : Array Slot := #[.val (.int p0), .val (.int p1), .val (.int (2147483647 : Int32)), .val (.ref b53), .val (.ref b94), .val (.ref b123), .val (.int (11 : Int32)), .unset, .unset]
    refine own_ls L_354 239 (fun _ q => XS.istore X152.here hx rfl (hb hby at_237) rfl (l' := L_354) rfl q) ?_
    refine own_tp (.int p1) 240 (fun _ q => XS.iloadN X152.here hx rfl (hb hby at_239) rfl q) ?_
    refine own_tp (.int (1 : Int32)) 241 (fun _ q => XS.iconst X152.here hx rfl (hb hby at_240) q) ?_
    refine own_t2 (.int (p1 &&& (1 : Int32))) 242 (fun _ q => XS.iand X152.here hx rfl (hb hby at_241) rfl q) ?_
    by_cases c355 : (p1 &&& (1 : Int32)) = (0 : Int32)
    ·
      refine own_d1 249 (fun _ q => XS.ifYes X152.here hx rfl (pc0 := 242) (pc' := 249) rfl (hb hby at_242) rfl ((if0 _ _).trans (teq c355).1) (by decide) (by decide) q) ?_
      refine own_tp (.int (0 : Int32)) 250 (fun _ q => XS.iconst X152.here hx rfl (hb hby at_249) q) ?_
      let L_356 : Array Slot := #[.val (.int p0), .val (.int p1), .val (.int (2147483647 : Int32)), .val (.ref b53), .val (.ref b94), .val (.ref b123), .val (.int (11 : Int32)), .val (.int (0 : Int32)), .unset]
      refine own_ls L_356 252 (fun _ q => XS.istore X152.here hx rfl (hb hby at_250) rfl (l' := L_356) rfl q) ?_
      refine own_tp (.int (0 : Int32)) 254 (fun _ q => XS.iload X152.here hx rfl (hb hby at_252) rfl q) ?_
      refine own_d1 265 (fun _ q => XS.ifYes X152.here hx rfl (pc0 := 254) (pc' := 265) rfl (hb hby at_254) rfl ((if0 _ _).trans (teq (by decide : (0 : Int32) = (0 : Int32))).1) (by decide) (by decide) q) ?_
      refine own_tp (.ref b123) 267 (fun _ q => XS.aload X152.here hx rfl (hb hby at_265) rfl rfl q) ?_
      refine own_tp (.int (11 : Int32)) 269 (fun _ q => XS.iload X152.here hx rfl (hb hby at_267) rfl q) ?_
      obtain ⟨cl357, Ar357, q357, S357, Nn357, H357, G357⟩ := (id V152')
      have hin357 : ¬ ((11 : Int32) < 0 ∨ cl357.slots.size ≤ ((11 : Int32)).toNatClampNeg) := inb_of S357 ⟨by decide, by decide⟩
      have hat357 : cl357.slots[((11 : Int32)).toNatClampNeg]? = some (.int (1 : Int32)) := H357.at hin357 rfl
      refine own_t2 (.int (1 : Int32)) 270 (fun _ q => X152.iaload hx (j := (11 : Int32)) (v := (.int (1 : Int32))) (by rw [e152]; exact Ar357.1) (State.isArrayOf_alike hZ.alike Ar357.2.1) Ar357.2.2 hin357 hat357 (g := (mkF m 269 L_356 [(.int (11 : Int32)), (.ref b123)])) rfl rfl (hb hby at_269) _ q) ?_
      let L_358 : Array Slot := #[.val (.int p0), .val (.int p1), .val (.int (2147483647 : Int32)), .val (.ref b53), .val (.ref b94), .val (.ref b123), .val (.int (11 : Int32)), .val (.int (0 : Int32)), .val (.int (1 : Int32))]
      refine own_ls L_358 272 (fun _ q => XS.istore X152.here hx rfl (hb hby at_270) rfl (l' := L_358) rfl q) ?_
      refine own_tp (.ref b53) 273 (fun _ q => XS.aloadN X152.here hx rfl (hb hby at_272) rfl rfl q) ?_
      refine own_tp (.int (11 : Int32)) 275 (fun _ q => XS.iload X152.here hx rfl (hb hby at_273) rfl q) ?_
      have f359 := ((((((((((((((f125.ext E123).other W128 ne124).other W130 ne124).other W132 ne124).other W134 ne124).other W136 ne124).other W138 ne124).other W140 ne124).other W142 ne124).other W144 ne124).other W146 ne124).other W148 ne124).other W150 ne124).other W152 ne124)
      obtain ⟨cl360, Ar360, q360, S360, Nn360, H360, G360⟩ := (id f359)
      have hin360 : ¬ ((11 : Int32) < 0 ∨ cl360.slots.size ≤ ((11 : Int32)).toNatClampNeg) := inb_of S360 ⟨by decide, by decide⟩
      have hat360 : cl360.slots[((11 : Int32)).toNatClampNeg]? = some (.ref ai11) := H360.at hin360 rfl
      refine own_t2 (.ref ai11) 276 (fun _ q => X152.aaload hx (j := (11 : Int32)) (v := (.ref ai11)) (by rw [e152]; exact Ar360.1) (State.isArrayOf_alike hZ.alike Ar360.2.1) rfl Ar360.2.2 hin360 hat360 (g := (mkF m 275 L_358 [(.int (11 : Int32)), (.ref b53)])) rfl rfl (hb hby at_275) _ q) ?_
      refine own_tp (.int (0 : Int32)) 278 (fun _ q => XS.iload X152.here hx rfl (hb hby at_276) rfl q) ?_
      obtain ⟨Lz361, Xz361, Nz361⟩ : ∃ Lz, Stand p l e room_1 s m #[(.int p0), (.int p1)] below meth c T152 Lz 3 39 ∧ Fr n0 Lz := ⟨_, X152, N152⟩
      obtain ⟨cq362, kq362, q362a, q362b, q362c⟩ := isOf hZ e152 (K11.2.1.ext O152.2)
      obtain ⟨_, _, ⟨T362, L362, k362, n362⟩, -, X362, ⟨Lc362, hQ362, l362, y362, z362⟩, st362⟩ := Xz361.virtualBack hx (y := (⟨"com/example/unit_step/unitstep/IntegerType", "maxDigits", "(Z)I"⟩ : MethodName)) (z := (⟨"com/example/unit_step/unitstep/IntegerType", "maxDigits", "(Z)I"⟩ : MethodName)) hown (mvT hZ (hw _ (List.mem_of_getElem? (i := 32) rfl))) (mvT hZ (hw _ (List.mem_of_getElem? (i := 33) rfl))) (notFace_of_selects (args := #[]) (mvT hZ (hw _ (List.mem_of_getElem? (i := 35) rfl)))) (mvT hZ (hw _ (List.mem_of_getElem? (i := 35) rfl))) (mvT hZ (hw _ (List.mem_of_getElem? (i := 34) rfl))) (by decide) (backOf (W := 0) (rm1 l Z a0 hw [] ai11 (0 : Int32) (2147483647 : Int32) (1 : Int32) h152 n0 (K11.2.2.1.ext O152.2) (K11.2.2.2.ext O152.2)) hZ (hw _ (List.mem_of_getElem? (i := 36) rfl)) (hw _ (List.mem_of_getElem? (i := 4) rfl)) (by decide) (by decide)) q362a q362c (g := (mkF m 278 L_358 [(.int (0 : Int32)), (.ref ai11)])) rfl (by rw [hml]; rfl) (Steps.refl _) (argsL := [(.int (0 : Int32))]) (rest := []) (lenOf pd0_0 rfl) rfl (by show 2 * 0 + _ ≤ _; exact Nat.le_of_eq rfl) (hb hby at_278) (fun _ _ => ⟨rfl, e152, (by decide : 3 + 0 ≤ _), (by decide : 39 + 0 ≤ _)⟩)
      dsimp only [Pt.U, Pt.locs, Pt.cells, Pt.slots] at X362 l362 y362 z362 st362 hQ362
      subst l362 y362 z362
      obtain ⟨rfl, Nq362, eq362⟩ := hQ362
      have N362 := Fr.app Nz361 Nq362
      refine own_csR [(.int (own_md (0 : Int32) (2147483647 : Int32) (1 : Int32)))] 281 st362 ?_
      refine own_tp (.int (1 : Int32)) 283 (fun _ q => XS.iload X362.here hx rfl (hb hby at_281) rfl q) ?_
      refine own_d2 286 (fun _ q => XS.icmpNo X362.here hx rfl (hb hby at_283) rfl (teq (by decide +kernel)).2 q) ?_
      refine own_tp (.int (1 : Int32)) 287 (fun _ q => XS.iconst X362.here hx rfl (hb hby at_286) q) ?_
      refine own_d0 291 (fun _ q => XS.goto X362.here hx rfl (pc0 := 287) (pc' := 291) rfl (hb hby at_287) (by decide) (by decide) q) ?_
      exact own_retN (t := .boolean) X362 hx hrt (hb hby at_291) (by simp) hlk (by decide) (by decide) eq362 (⟨rfl, N362⟩)
    ·
      refine own_d1 245 (fun _ q => XS.ifNo X152.here hx rfl (hb hby at_242) rfl ((if0 _ _).trans (feq c355).1) q) ?_
      refine own_tp (.int (1 : Int32)) 246 (fun _ q => XS.iconst X152.here hx rfl (hb hby at_245) q) ?_
      refine own_d0 250 (fun _ q => XS.goto X152.here hx rfl (pc0 := 246) (pc' := 250) rfl (hb hby at_246) (by decide) (by decide) q) ?_
      let L_363 : Array Slot := #[.val (.int p0), .val (.int p1), .val (.int (2147483647 : Int32)), .val (.ref b53), .val (.ref b94), .val (.ref b123), .val (.int (11 : Int32)), .val (.int (1 : Int32)), .unset]
      refine own_ls L_363 252 (fun _ q => XS.istore X152.here hx rfl (hb hby at_250) rfl (l' := L_363) rfl q) ?_
      refine own_tp (.int (1 : Int32)) 254 (fun _ q => XS.iload X152.here hx rfl (hb hby at_252) rfl q) ?_
      refine own_d1 257 (fun _ q => XS.ifNo X152.here hx rfl (hb hby at_254) rfl ((if0 _ _).trans (feq (by decide : ¬ ((1 : Int32) = (0 : Int32)))).1) q) ?_
      refine own_tp (.ref b94) 259 (fun _ q => XS.aload X152.here hx rfl (hb hby at_257) rfl rfl q) ?_
      refine own_tp (.int (11 : Int32)) 261 (fun _ q => XS.iload X152.here hx rfl (hb hby at_259) rfl q) ?_
      have f364 := ((((((((((((((V121'.ext E123).other W128 ne126).other W130 ne126).other W132 ne126).other W134 ne126).other W136 ne126).other W138 ne126).other W140 ne126).other W142 ne126).other W144 ne126).other W146 ne126).other W148 ne126).other W150 ne126).other W152 ne126)
      obtain ⟨cl365, Ar365, q365, S365, Nn365, H365, G365⟩ := (id f364)
      have hin365 : ¬ ((11 : Int32) < 0 ∨ cl365.slots.size ≤ ((11 : Int32)).toNatClampNeg) := inb_of S365 ⟨by decide, by decide⟩
      have hat365 : cl365.slots[((11 : Int32)).toNatClampNeg]? = some (.int (2147483647 : Int32)) := H365.at hin365 rfl
      refine own_t2 (.int (2147483647 : Int32)) 262 (fun _ q => X152.iaload hx (j := (11 : Int32)) (v := (.int (2147483647 : Int32))) (by rw [e152]; exact Ar365.1) (State.isArrayOf_alike hZ.alike Ar365.2.1) Ar365.2.2 hin365 hat365 (g := (mkF m 261 L_363 [(.int (11 : Int32)), (.ref b94)])) rfl rfl (hb hby at_261) _ q) ?_
      refine own_d0 270 (fun _ q => XS.goto X152.here hx rfl (pc0 := 262) (pc' := 270) rfl (hb hby at_262) (by decide) (by decide) q) ?_
      let L_366 : Array Slot := #[.val (.int p0), .val (.int p1), .val (.int (2147483647 : Int32)), .val (.ref b53), .val (.ref b94), .val (.ref b123), .val (.int (11 : Int32)), .val (.int (1 : Int32)), .val (.int (2147483647 : Int32))]
      refine own_ls L_366 272 (fun _ q => XS.istore X152.here hx rfl (hb hby at_270) rfl (l' := L_366) rfl q) ?_
      refine own_tp (.ref b53) 273 (fun _ q => XS.aloadN X152.here hx rfl (hb hby at_272) rfl rfl q) ?_
      refine own_tp (.int (11 : Int32)) 275 (fun _ q => XS.iload X152.here hx rfl (hb hby at_273) rfl q) ?_
      have f367 := ((((((((((((((f125.ext E123).other W128 ne124).other W130 ne124).other W132 ne124).other W134 ne124).other W136 ne124).other W138 ne124).other W140 ne124).other W142 ne124).other W144 ne124).other W146 ne124).other W148 ne124).other W150 ne124).other W152 ne124)
      obtain ⟨cl368, Ar368, q368, S368, Nn368, H368, G368⟩ := (id f367)
      have hin368 : ¬ ((11 : Int32) < 0 ∨ cl368.slots.size ≤ ((11 : Int32)).toNatClampNeg) := inb_of S368 ⟨by decide, by decide⟩
      have hat368 : cl368.slots[((11 : Int32)).toNatClampNeg]? = some (.ref ai11) := H368.at hin368 rfl
      refine own_t2 (.ref ai11) 276 (fun _ q => X152.aaload hx (j := (11 : Int32)) (v := (.ref ai11)) (by rw [e152]; exact Ar368.1) (State.isArrayOf_alike hZ.alike Ar368.2.1) rfl Ar368.2.2 hin368 hat368 (g := (mkF m 275 L_366 [(.int (11 : Int32)), (.ref b53)])) rfl rfl (hb hby at_275) _ q) ?_
      refine own_tp (.int (1 : Int32)) 278 (fun _ q => XS.iload X152.here hx rfl (hb hby at_276) rfl q) ?_
      obtain ⟨Lz369, Xz369, Nz369⟩ : ∃ Lz, Stand p l e room_1 s m #[(.int p0), (.int p1)] below meth c T152 Lz 3 39 ∧ Fr n0 Lz := ⟨_, X152, N152⟩
      obtain ⟨cq370, kq370, q370a, q370b, q370c⟩ := isOf hZ e152 (K11.2.1.ext O152.2)
      obtain ⟨_, _, ⟨T370, L370, k370, n370⟩, -, X370, ⟨Lc370, hQ370, l370, y370, z370⟩, st370⟩ := Xz369.virtualBack hx (y := (⟨"com/example/unit_step/unitstep/IntegerType", "maxDigits", "(Z)I"⟩ : MethodName)) (z := (⟨"com/example/unit_step/unitstep/IntegerType", "maxDigits", "(Z)I"⟩ : MethodName)) hown (mvT hZ (hw _ (List.mem_of_getElem? (i := 32) rfl))) (mvT hZ (hw _ (List.mem_of_getElem? (i := 33) rfl))) (notFace_of_selects (args := #[]) (mvT hZ (hw _ (List.mem_of_getElem? (i := 35) rfl)))) (mvT hZ (hw _ (List.mem_of_getElem? (i := 35) rfl))) (mvT hZ (hw _ (List.mem_of_getElem? (i := 34) rfl))) (by decide) (backOf (W := 0) (rm1 l Z a0 hw [] ai11 (1 : Int32) (2147483647 : Int32) (1 : Int32) h152 n0 (K11.2.2.1.ext O152.2) (K11.2.2.2.ext O152.2)) hZ (hw _ (List.mem_of_getElem? (i := 36) rfl)) (hw _ (List.mem_of_getElem? (i := 4) rfl)) (by decide) (by decide)) q370a q370c (g := (mkF m 278 L_366 [(.int (1 : Int32)), (.ref ai11)])) rfl (by rw [hml]; rfl) (Steps.refl _) (argsL := [(.int (1 : Int32))]) (rest := []) (lenOf pd0_0 rfl) rfl (by show 2 * 0 + _ ≤ _; exact Nat.le_of_eq rfl) (hb hby at_278) (fun _ _ => ⟨rfl, e152, (by decide : 3 + 0 ≤ _), (by decide : 39 + 0 ≤ _)⟩)
      dsimp only [Pt.U, Pt.locs, Pt.cells, Pt.slots] at X370 l370 y370 z370 st370 hQ370
      subst l370 y370 z370
      obtain ⟨rfl, Nq370, eq370⟩ := hQ370
      have N370 := Fr.app Nz369 Nq370
      refine own_csR [(.int (own_md (1 : Int32) (2147483647 : Int32) (1 : Int32)))] 281 st370 ?_
      refine own_tp (.int (2147483647 : Int32)) 283 (fun _ q => XS.iload X370.here hx rfl (hb hby at_281) rfl q) ?_
      refine own_d2 286 (fun _ q => XS.icmpNo X370.here hx rfl (hb hby at_283) rfl (teq (by decide +kernel)).2 q) ?_
      refine own_tp (.int (1 : Int32)) 287 (fun _ q => XS.iconst X370.here hx rfl (hb hby at_286) q) ?_
      refine own_d0 291 (fun _ q => XS.goto X370.here hx rfl (pc0 := 287) (pc' := 291) rfl (hb hby at_287) (by decide) (by decide) q) ?_
      exact own_retN (t := .boolean) X370 hx hrt (hb hby at_291) (by simp) hlk (by decide) (by decide) eq370 (⟨rfl, N370⟩)
  ·
    rw [hk166]
    let L_371 : Array Slot := #[.val (.int p0), .val (.int p1), .val (.int (2147483647 : Int32)), .val (.ref b53), .val (.ref b94), .val (.ref b123), .val (.int (12 : Int32)), .unset, .unset]
    refine own_ls L_371 239 (fun _ q => XS.istore X152.here hx rfl (hb hby at_237) rfl (l' := L_371) rfl q) ?_
    refine own_tp (.int p1) 240 (fun _ q => XS.iloadN X152.here hx rfl (hb hby at_239) rfl q) ?_
    refine own_tp (.int (1 : Int32)) 241 (fun _ q => XS.iconst X152.here hx rfl (hb hby at_240) q) ?_
    refine own_t2 (.int (p1 &&& (1 : Int32))) 242 (fun _ q => XS.iand X152.here hx rfl (hb hby at_241) rfl q) ?_
    by_cases c372 : (p1 &&& (1 : Int32)) = (0 : Int32)
    ·
      refine own_d1 249 (fun _ q => XS.ifYes X152.here hx rfl (pc0 := 242) (pc' := 249) rfl (hb hby at_242) rfl ((if0 _ _).trans (teq c372).1) (by decide) (by decide) q) ?_
      refine own_tp (.int (0 : Int32)) 250 (fun _ q => XS.iconst X152.here hx rfl (hb hby at_249) q) ?_
      let L_373 : Array Slot := #[.val (.int p0), .val (.int p1), .val (.int (2147483647 : Int32)), .val (.ref b53), .val (.ref b94), .val (.ref b123), .val (.int (12 : Int32)), .val (.int (0 : Int32)), .unset]
      refine own_ls L_373 252 (fun _ q => XS.istore X152.here hx rfl (hb hby at_250) rfl (l' := L_373) rfl q) ?_
      refine own_tp (.int (0 : Int32)) 254 (fun _ q => XS.iload X152.here hx rfl (hb hby at_252) rfl q) ?_
      refine own_d1 265 (fun _ q => XS.ifYes X152.here hx rfl (pc0 := 254) (pc' := 265) rfl (hb hby at_254) rfl ((if0 _ _).trans (teq (by decide : (0 : Int32) = (0 : Int32))).1) (by decide) (by decide) q) ?_
      refine own_tp (.ref b123) 267 (fun _ q => XS.aload X152.here hx rfl (hb hby at_265) rfl rfl q) ?_
      refine own_tp (.int (12 : Int32)) 269 (fun _ q => XS.iload X152.here hx rfl (hb hby at_267) rfl q) ?_
      obtain ⟨cl374, Ar374, q374, S374, Nn374, H374, G374⟩ := (id V152')
      have hin374 : ¬ ((12 : Int32) < 0 ∨ cl374.slots.size ≤ ((12 : Int32)).toNatClampNeg) := inb_of S374 ⟨by decide, by decide⟩
      have hat374 : cl374.slots[((12 : Int32)).toNatClampNeg]? = some (.int (1 : Int32)) := H374.at hin374 rfl
      refine own_t2 (.int (1 : Int32)) 270 (fun _ q => X152.iaload hx (j := (12 : Int32)) (v := (.int (1 : Int32))) (by rw [e152]; exact Ar374.1) (State.isArrayOf_alike hZ.alike Ar374.2.1) Ar374.2.2 hin374 hat374 (g := (mkF m 269 L_373 [(.int (12 : Int32)), (.ref b123)])) rfl rfl (hb hby at_269) _ q) ?_
      let L_375 : Array Slot := #[.val (.int p0), .val (.int p1), .val (.int (2147483647 : Int32)), .val (.ref b53), .val (.ref b94), .val (.ref b123), .val (.int (12 : Int32)), .val (.int (0 : Int32)), .val (.int (1 : Int32))]
      refine own_ls L_375 272 (fun _ q => XS.istore X152.here hx rfl (hb hby at_270) rfl (l' := L_375) rfl q) ?_
      refine own_tp (.ref b53) 273 (fun _ q => XS.aloadN X152.here hx rfl (hb hby at_272) rfl rfl q) ?_
      refine own_tp (.int (12 : Int32)) 275 (fun _ q => XS.iload X152.here hx rfl (hb hby at_273) rfl q) ?_
      have f376 := ((((((((((((((f125.ext E123).other W128 ne124).other W130 ne124).other W132 ne124).other W134 ne124).other W136 ne124).other W138 ne124).other W140 ne124).other W142 ne124).other W144 ne124).other W146 ne124).other W148 ne124).other W150 ne124).other W152 ne124)
      obtain ⟨cl377, Ar377, q377, S377, Nn377, H377, G377⟩ := (id f376)
      have hin377 : ¬ ((12 : Int32) < 0 ∨ cl377.slots.size ≤ ((12 : Int32)).toNatClampNeg) := inb_of S377 ⟨by decide, by decide⟩
      have hat377 : cl377.slots[((12 : Int32)).toNatClampNeg]? = some (.ref ai12) := H377.at hin377 rfl
      refine own_t2 (.ref ai12) 276 (fun _ q => X152.aaload hx (j := (12 : Int32)) (v := (.ref ai12)) (by rw [e152]; exact Ar377.1) (State.isArrayOf_alike hZ.alike Ar377.2.1) rfl Ar377.2.2 hin377 hat377 (g := (mkF m 275 L_375 [(.int (12 : Int32)), (.ref b53)])) rfl rfl (hb hby at_275) _ q) ?_
      refine own_tp (.int (0 : Int32)) 278 (fun _ q => XS.iload X152.here hx rfl (hb hby at_276) rfl q) ?_
      obtain ⟨Lz378, Xz378, Nz378⟩ : ∃ Lz, Stand p l e room_1 s m #[(.int p0), (.int p1)] below meth c T152 Lz 3 39 ∧ Fr n0 Lz := ⟨_, X152, N152⟩
      obtain ⟨cq379, kq379, q379a, q379b, q379c⟩ := isOf hZ e152 (K12.2.1.ext O152.2)
      obtain ⟨_, _, ⟨T379, L379, k379, n379⟩, -, X379, ⟨Lc379, hQ379, l379, y379, z379⟩, st379⟩ := Xz378.virtualBack hx (y := (⟨"com/example/unit_step/unitstep/IntegerType", "maxDigits", "(Z)I"⟩ : MethodName)) (z := (⟨"com/example/unit_step/unitstep/IntegerType", "maxDigits", "(Z)I"⟩ : MethodName)) hown (mvT hZ (hw _ (List.mem_of_getElem? (i := 32) rfl))) (mvT hZ (hw _ (List.mem_of_getElem? (i := 33) rfl))) (notFace_of_selects (args := #[]) (mvT hZ (hw _ (List.mem_of_getElem? (i := 35) rfl)))) (mvT hZ (hw _ (List.mem_of_getElem? (i := 35) rfl))) (mvT hZ (hw _ (List.mem_of_getElem? (i := 34) rfl))) (by decide) (backOf (W := 0) (rm1 l Z a0 hw [] ai12 (0 : Int32) (2147483647 : Int32) (1 : Int32) h152 n0 (K12.2.2.1.ext O152.2) (K12.2.2.2.ext O152.2)) hZ (hw _ (List.mem_of_getElem? (i := 36) rfl)) (hw _ (List.mem_of_getElem? (i := 4) rfl)) (by decide) (by decide)) q379a q379c (g := (mkF m 278 L_375 [(.int (0 : Int32)), (.ref ai12)])) rfl (by rw [hml]; rfl) (Steps.refl _) (argsL := [(.int (0 : Int32))]) (rest := []) (lenOf pd0_0 rfl) rfl (by show 2 * 0 + _ ≤ _; exact Nat.le_of_eq rfl) (hb hby at_278) (fun _ _ => ⟨rfl, e152, (by decide : 3 + 0 ≤ _), (by decide : 39 + 0 ≤ _)⟩)
      dsimp only [Pt.U, Pt.locs, Pt.cells, Pt.slots] at X379 l379 y379 z379 st379 hQ379
      subst l379 y379 z379
      obtain ⟨rfl, Nq379, eq379⟩ := hQ379
      have N379 := Fr.app Nz378 Nq379
      refine own_csR [(.int (own_md (0 : Int32) (2147483647 : Int32) (1 : Int32)))] 281 st379 ?_
      refine own_tp (.int (1 : Int32)) 283 (fun _ q => XS.iload X379.here hx rfl (hb hby at_281) rfl q) ?_
      refine own_d2 286 (fun _ q => XS.icmpNo X379.here hx rfl (hb hby at_283) rfl (teq (by decide +kernel)).2 q) ?_
      refine own_tp (.int (1 : Int32)) 287 (fun _ q => XS.iconst X379.here hx rfl (hb hby at_286) q) ?_
      refine own_d0 291 (fun _ q => XS.goto X379.here hx rfl (pc0 := 287) (pc' := 291) rfl (hb hby at_287) (by decide) (by decide) q) ?_
      exact own_retN (t := .boolean) X379 hx hrt (hb hby at_291) (by simp) hlk (by decide) (by decide) eq379 (⟨rfl, N379⟩)
    ·
      refine own_d1 245 (fun _ q => XS.ifNo X152.here hx rfl (hb hby at_242) rfl ((if0 _ _).trans (feq c372).1) q) ?_
      refine own_tp (.int (1 : Int32)) 246 (fun _ q => XS.iconst X152.here hx rfl (hb hby at_245) q) ?_
      refine own_d0 250 (fun _ q => XS.goto X152.here hx rfl (pc0 := 246) (pc' := 250) rfl (hb hby at_246) (by decide) (by decide) q) ?_
      let L_380 : Array Slot := #[.val (.int p0), .val (.int p1), .val (.int (2147483647 : Int32)), .val (.ref b53), .val (.ref b94), .val (.ref b123), .val (.int (12 : Int32)), .val (.int (1 : Int32)), .unset]
      refine own_ls L_380 252 (fun _ q => XS.istore X152.here hx rfl (hb hby at_250) rfl (l' := L_380) rfl q) ?_
      refine own_tp (.int (1 : Int32)) 254 (fun _ q => XS.iload X152.here hx rfl (hb hby at_252) rfl q) ?_
      refine own_d1 257 (fun _ q => XS.ifNo X152.here hx rfl (hb hby at_254) rfl ((if0 _ _).trans (feq (by decide : ¬ ((1 : Int32) = (0 : Int32)))).1) q) ?_
      refine own_tp (.ref b94) 259 (fun _ q => XS.aload X152.here hx rfl (hb hby at_257) rfl rfl q) ?_
      refine own_tp (.int (12 : Int32)) 261 (fun _ q => XS.iload X152.here hx rfl (hb hby at_259) rfl q) ?_
      have f381 := ((((((((((((((V121'.ext E123).other W128 ne126).other W130 ne126).other W132 ne126).other W134 ne126).other W136 ne126).other W138 ne126).other W140 ne126).other W142 ne126).other W144 ne126).other W146 ne126).other W148 ne126).other W150 ne126).other W152 ne126)
      obtain ⟨cl382, Ar382, q382, S382, Nn382, H382, G382⟩ := (id f381)
      have hin382 : ¬ ((12 : Int32) < 0 ∨ cl382.slots.size ≤ ((12 : Int32)).toNatClampNeg) := inb_of S382 ⟨by decide, by decide⟩
      have hat382 : cl382.slots[((12 : Int32)).toNatClampNeg]? = some (.int (2147483647 : Int32)) := H382.at hin382 rfl
      refine own_t2 (.int (2147483647 : Int32)) 262 (fun _ q => X152.iaload hx (j := (12 : Int32)) (v := (.int (2147483647 : Int32))) (by rw [e152]; exact Ar382.1) (State.isArrayOf_alike hZ.alike Ar382.2.1) Ar382.2.2 hin382 hat382 (g := (mkF m 261 L_380 [(.int (12 : Int32)), (.ref b94)])) rfl rfl (hb hby at_261) _ q) ?_
      refine own_d0 270 (fun _ q => XS.goto X152.here hx rfl (pc0 := 262) (pc' := 270) rfl (hb hby at_262) (by decide) (by decide) q) ?_
      let L_383 : Array Slot := #[.val (.int p0), .val (.int p1), .val (.int (2147483647 : Int32)), .val (.ref b53), .val (.ref b94), .val (.ref b123), .val (.int (12 : Int32)), .val (.int (1 : Int32)), .val (.int (2147483647 : Int32))]
      refine own_ls L_383 272 (fun _ q => XS.istore X152.here hx rfl (hb hby at_270) rfl (l' := L_383) rfl q) ?_
      refine own_tp (.ref b53) 273 (fun _ q => XS.aloadN X152.here hx rfl (hb hby at_272) rfl rfl q) ?_
      refine own_tp (.int (12 : Int32)) 275 (fun _ q => XS.iload X152.here hx rfl (hb hby at_273) rfl q) ?_
      have f384 := ((((((((((((((f125.ext E123).other W128 ne124).other W130 ne124).other W132 ne124).other W134 ne124).other W136 ne124).other W138 ne124).other W140 ne124).other W142 ne124).other W144 ne124).other W146 ne124).other W148 ne124).other W150 ne124).other W152 ne124)
      obtain ⟨cl385, Ar385, q385, S385, Nn385, H385, G385⟩ := (id f384)
      have hin385 : ¬ ((12 : Int32) < 0 ∨ cl385.slots.size ≤ ((12 : Int32)).toNatClampNeg) := inb_of S385 ⟨by decide, by decide⟩
      have hat385 : cl385.slots[((12 : Int32)).toNatClampNeg]? = some (.ref ai12) := H385.at hin385 rfl
      refine own_t2 (.ref ai12) 276 (fun _ q => X152.aaload hx (j := (12 : Int32)) (v := (.ref ai12)) (by rw [e152]; exact Ar385.1) (State.isArrayOf_alike hZ.alike Ar385.2.1) rfl Ar385.2.2 hin385 hat385 (g := (mkF m 275 L_383 [(.int (12 : Int32)), (.ref b53)])) rfl rfl (hb hby at_275) _ q) ?_
      refine own_tp (.int (1 : Int32)) 278 (fun _ q => XS.iload X152.here hx rfl (hb hby at_276) rfl q) ?_
      obtain ⟨Lz386, Xz386, Nz386⟩ : ∃ Lz, Stand p l e room_1 s m #[(.int p0), (.int p1)] below meth c T152 Lz 3 39 ∧ Fr n0 Lz := ⟨_, X152, N152⟩
      obtain ⟨cq387, kq387, q387a, q387b, q387c⟩ := isOf hZ e152 (K12.2.1.ext O152.2)
      obtain ⟨_, _, ⟨T387, L387, k387, n387⟩, -, X387, ⟨Lc387, hQ387, l387, y387, z387⟩, st387⟩ := Xz386.virtualBack hx (y := (⟨"com/example/unit_step/unitstep/IntegerType", "maxDigits", "(Z)I"⟩ : MethodName)) (z := (⟨"com/example/unit_step/unitstep/IntegerType", "maxDigits", "(Z)I"⟩ : MethodName)) hown (mvT hZ (hw _ (List.mem_of_getElem? (i := 32) rfl))) (mvT hZ (hw _ (List.mem_of_getElem? (i := 33) rfl))) (notFace_of_selects (args := #[]) (mvT hZ (hw _ (List.mem_of_getElem? (i := 35) rfl)))) (mvT hZ (hw _ (List.mem_of_getElem? (i := 35) rfl))) (mvT hZ (hw _ (List.mem_of_getElem? (i := 34) rfl))) (by decide) (backOf (W := 0) (rm1 l Z a0 hw [] ai12 (1 : Int32) (2147483647 : Int32) (1 : Int32) h152 n0 (K12.2.2.1.ext O152.2) (K12.2.2.2.ext O152.2)) hZ (hw _ (List.mem_of_getElem? (i := 36) rfl)) (hw _ (List.mem_of_getElem? (i := 4) rfl)) (by decide) (by decide)) q387a q387c (g := (mkF m 278 L_383 [(.int (1 : Int32)), (.ref ai12)])) rfl (by rw [hml]; rfl) (Steps.refl _) (argsL := [(.int (1 : Int32))]) (rest := []) (lenOf pd0_0 rfl) rfl (by show 2 * 0 + _ ≤ _; exact Nat.le_of_eq rfl) (hb hby at_278) (fun _ _ => ⟨rfl, e152, (by decide : 3 + 0 ≤ _), (by decide : 39 + 0 ≤ _)⟩)
      dsimp only [Pt.U, Pt.locs, Pt.cells, Pt.slots] at X387 l387 y387 z387 st387 hQ387
      subst l387 y387 z387
      obtain ⟨rfl, Nq387, eq387⟩ := hQ387
      have N387 := Fr.app Nz386 Nq387
      refine own_csR [(.int (own_md (1 : Int32) (2147483647 : Int32) (1 : Int32)))] 281 st387 ?_
      refine own_tp (.int (2147483647 : Int32)) 283 (fun _ q => XS.iload X387.here hx rfl (hb hby at_281) rfl q) ?_
      refine own_d2 286 (fun _ q => XS.icmpNo X387.here hx rfl (hb hby at_283) rfl (teq (by decide +kernel)).2 q) ?_
      refine own_tp (.int (1 : Int32)) 287 (fun _ q => XS.iconst X387.here hx rfl (hb hby at_286) q) ?_
      refine own_d0 291 (fun _ q => XS.goto X387.here hx rfl (pc0 := 287) (pc' := 291) rfl (hb hby at_287) (by decide) (by decide) q) ?_
      exact own_retN (t := .boolean) X387 hx hrt (hb hby at_291) (by simp) hlk (by decide) (by decide) eq387 (⟨rfl, N387⟩)

set_option maxRecDepth 65536 in
set_option maxHeartbeats 40000000 in
theorem comes_1 {Post : Tables → Env → Array Value → State → Outcome → State → Prop} (hpost : ∀ tb e args s v u, (limb_1_1.after args s (.returned v) u = true ∧ limb_1_2.after args s (.returned v) u = true ∧ True) → FrameEnd s (.returned v) u (Jvm.fieldLocs frame_1_writes args s ++ Jvm.arrayLocs frame_1_arrays args s ++ Jvm.staticLocs frame_1_statics s) 16 192 → Post tb e args s (.returned v) u) :
    ArmFor flags0 classFile x code maxLocals ret World_1 tables_1 room_1 Calls_1 rest_1 Pre_1 Post := by
  intro l hfl _ _ p e ha hc hk s m args below hf hA hF happ hP
  obtain ⟨hcalls, hrest, hpre⟩ := hP
  obtain ⟨-, -, -, hnamed, -, -, -, hat⟩ := (Spec.applies_iff hf).mp happ
  obtain ⟨hg, hn⟩ := and_e (Cond.before_iff.mp (show (Jvm.Cond.and given_1 narrow_1).before args s = true from hpre))
  obtain ⟨hcount, hg0⟩ := and_e hg
  obtain ⟨hv0, hg1⟩ := and_e hg0
  obtain ⟨w0, w1, rfl⟩ : ∃ w0 w1 : Value, args = #[w0, w1] := by
    have hs : args.size = 2 := by simpa [Cond.value, given_1] using hcount
    obtain ⟨L⟩ := args
    match L, hs with
    | [w0, w1], _ => exact ⟨w0, w1, rfl⟩
  have hw := fun d (hd : d ∈ tables_1) => atoms_spec (ws := Jvm.Cond.code x code maxLocals ret :: tables_1) hat d (List.mem_cons_of_mem _ hd)
  have hfit : Fit s := fun {y c} hc i hi => by
    obtain ⟨ha, rfl⟩ := Array.getElem?_eq_some_iff.mp hc
    have q := List.all_eq_true.mp ((Array.all_eq_true_iff_forall_mem.mp hF) _ (Array.getElem_mem ha)) i (List.mem_range.mpr hi)
    simpa [Array.getElem?_eq_getElem hi] using q
  obtain ⟨i0, ei0⟩ := is_v hv0
  obtain rfl : w0 = (.int i0) := Option.some.inj ei0
  obtain ⟨i1, ei1⟩ := is_v hg1
  obtain rfl : w1 = (.int i1) := Option.some.inj ei1
  obtain ⟨n0, hn⟩ := and_e hn
  obtain ⟨n1, hn⟩ := and_e hn
  obtain ⟨n2, hn⟩ := and_e hn
  obtain ⟨n3, hn⟩ := and_e hn
  obtain ⟨n4, hn⟩ := and_e hn
  obtain ⟨n5, hn⟩ := and_e hn
  obtain ⟨n6, hn⟩ := and_e hn
  obtain ⟨n7, hn⟩ := and_e hn
  obtain ⟨n8, hn⟩ := and_e hn
  obtain ⟨n9, hn⟩ := and_e hn
  obtain ⟨n10, hn⟩ := and_e hn
  obtain ⟨n11, hn⟩ := and_e hn
  obtain ⟨n12, hn⟩ := and_e hn
  obtain ⟨na0, hn⟩ := and_e hn
  obtain ⟨nb0, hn⟩ := and_e hn
  obtain ⟨na1, hn⟩ := and_e hn
  obtain ⟨nb1, hn⟩ := and_e hn
  obtain ⟨na4, hn⟩ := and_e hn
  obtain ⟨nb4, hn⟩ := and_e hn
  obtain ⟨na3, hn⟩ := and_e hn
  obtain ⟨nb3, hn⟩ := and_e hn
  obtain ⟨na9, hn⟩ := and_e hn
  obtain ⟨nb9, hn⟩ := and_e hn
  obtain ⟨na5, hn⟩ := and_e hn
  obtain ⟨nb5, hn⟩ := and_e hn
  obtain ⟨na6, hn⟩ := and_e hn
  obtain ⟨nb6, hn⟩ := and_e hn
  obtain ⟨na8, hn⟩ := and_e hn
  obtain ⟨nb8, hn⟩ := and_e hn
  obtain ⟨na12, hn⟩ := and_e hn
  obtain ⟨nb12, hn⟩ := and_e hn
  obtain ⟨na2, hn⟩ := and_e hn
  obtain ⟨nb2, hn⟩ := and_e hn
  obtain ⟨na10, hn⟩ := and_e hn
  obtain ⟨nb10, hn⟩ := and_e hn
  obtain ⟨na11, hn⟩ := and_e hn
  obtain ⟨nb11, hn⟩ := and_e hn
  obtain ⟨na7, hn⟩ := and_e hn
  have nb7 := hn
  obtain ⟨ai0, v0, S0, E0⟩ := own_sta (hw _ (List.mem_of_getElem? (i := 4) rfl)) (hw _ (List.mem_of_getElem? (i := 5) rfl)) n0
  have K0 : own_K s "INTEGER" ai0 (2147483647 : Int32) (2147483647 : Int32) := ⟨S0, E0, own_fld v0 na0, own_fld v0 nb0⟩
  obtain ⟨ai1, v1, S1, E1⟩ := own_sta (hw _ (List.mem_of_getElem? (i := 4) rfl)) (hw _ (List.mem_of_getElem? (i := 8) rfl)) n1
  have K1 : own_K s "LONG" ai1 (19 : Int32) (19 : Int32) := ⟨S1, E1, own_fld v1 na1, own_fld v1 nb1⟩
  obtain ⟨ai2, v2, S2, E2⟩ := own_sta (hw _ (List.mem_of_getElem? (i := 4) rfl)) (hw _ (List.mem_of_getElem? (i := 10) rfl)) n2
  have K2 : own_K s "INT" ai2 (10 : Int32) (10 : Int32) := ⟨S2, E2, own_fld v2 na2, own_fld v2 nb2⟩
  obtain ⟨ai3, v3, S3, E3⟩ := own_sta (hw _ (List.mem_of_getElem? (i := 4) rfl)) (hw _ (List.mem_of_getElem? (i := 12) rfl)) n3
  have K3 : own_K s "SHORT" ai3 (5 : Int32) (5 : Int32) := ⟨S3, E3, own_fld v3 na3, own_fld v3 nb3⟩
  obtain ⟨ai4, v4, S4, E4⟩ := own_sta (hw _ (List.mem_of_getElem? (i := 4) rfl)) (hw _ (List.mem_of_getElem? (i := 14) rfl)) n4
  have K4 : own_K s "BYTE" ai4 (3 : Int32) (3 : Int32) := ⟨S4, E4, own_fld v4 na4, own_fld v4 nb4⟩
  obtain ⟨ai5, v5, S5, E5⟩ := own_sta (hw _ (List.mem_of_getElem? (i := 4) rfl)) (hw _ (List.mem_of_getElem? (i := 16) rfl)) n5
  have K5 : own_K s "UNSIGNED_LONG" ai5 (1 : Int32) (20 : Int32) := ⟨S5, E5, own_fld v5 na5, own_fld v5 nb5⟩
  obtain ⟨ai6, v6, S6, E6⟩ := own_sta (hw _ (List.mem_of_getElem? (i := 4) rfl)) (hw _ (List.mem_of_getElem? (i := 18) rfl)) n6
  have K6 : own_K s "UNSIGNED_INT" ai6 (1 : Int32) (10 : Int32) := ⟨S6, E6, own_fld v6 na6, own_fld v6 nb6⟩
  obtain ⟨ai7, v7, S7, E7⟩ := own_sta (hw _ (List.mem_of_getElem? (i := 4) rfl)) (hw _ (List.mem_of_getElem? (i := 20) rfl)) n7
  have K7 : own_K s "UNSIGNED_SHORT" ai7 (1 : Int32) (5 : Int32) := ⟨S7, E7, own_fld v7 na7, own_fld v7 nb7⟩
  obtain ⟨ai8, v8, S8, E8⟩ := own_sta (hw _ (List.mem_of_getElem? (i := 4) rfl)) (hw _ (List.mem_of_getElem? (i := 22) rfl)) n8
  have K8 : own_K s "UNSIGNED_BYTE" ai8 (1 : Int32) (3 : Int32) := ⟨S8, E8, own_fld v8 na8, own_fld v8 nb8⟩
  obtain ⟨ai9, v9, S9, E9⟩ := own_sta (hw _ (List.mem_of_getElem? (i := 4) rfl)) (hw _ (List.mem_of_getElem? (i := 24) rfl)) n9
  have K9 : own_K s "NON_NEGATIVE_INTEGER" ai9 (1 : Int32) (2147483647 : Int32) := ⟨S9, E9, own_fld v9 na9, own_fld v9 nb9⟩
  obtain ⟨ai10, v10, S10, E10⟩ := own_sta (hw _ (List.mem_of_getElem? (i := 4) rfl)) (hw _ (List.mem_of_getElem? (i := 26) rfl)) n10
  have K10 : own_K s "POSITIVE_INTEGER" ai10 (1 : Int32) (2147483647 : Int32) := ⟨S10, E10, own_fld v10 na10, own_fld v10 nb10⟩
  obtain ⟨ai11, v11, S11, E11⟩ := own_sta (hw _ (List.mem_of_getElem? (i := 4) rfl)) (hw _ (List.mem_of_getElem? (i := 28) rfl)) n11
  have K11 : own_K s "NON_POSITIVE_INTEGER" ai11 (2147483647 : Int32) (1 : Int32) := ⟨S11, E11, own_fld v11 na11, own_fld v11 nb11⟩
  obtain ⟨ai12, v12, S12, E12⟩ := own_sta (hw _ (List.mem_of_getElem? (i := 4) rfl)) (hw _ (List.mem_of_getElem? (i := 30) rfl)) n12
  have K12 : own_K s "NEGATIVE_INTEGER" ai12 (2147483647 : Int32) (1 : Int32) := ⟨S12, E12, own_fld v12 na12, own_fld v12 nb12⟩
  obtain ⟨n, o, h1, h2, h3, _, L, rfl, ⟨rfl, N⟩, hq⟩ := rm0 l s _ hw tables_1 i0 i1 s.heap s.heap.size (Nat.le_refl _) (Old.start s) ai0 ai1 ai2 ai3 ai4 ai5 ai6 ai7 ai8 ai9 ai10 ai11 ai12 K0 K1 K2 K3 K4 K5 K6 K7 K8 K9 K10 K11 K12 p e ha hc hk s m _ below hf ((Spec.applies_iff_loose hf).mp happ).1 ⟨rfl, State.Warmed39.refl s, rfl⟩ trivial
  refine ⟨n, _, h1, h2, h3, hpost _ _ _ _ _ _ ⟨Cond.after_iff.mpr rfl, Cond.after_iff.mpr (eq_i res_at (Term.int_eval (1)) rfl), trivial⟩ ⟨hq.1, hq.2.1, (hq.2.2.sift fun y hy => Or.inr (N y hy)).mono (by decide) (by decide)⟩⟩
theorem main_1_1 : Claimed_1_1 := comes_1 fun _ _ _ _ _ _ h hF => ⟨h.1, hF⟩
theorem main_1_2 : Claimed_1_2 := comes_1 fun _ _ _ _ _ _ h hF => ⟨h.2.1, hF⟩
end Jvm.Pilot.@@N@@
namespace Jvm.Pilot.@@N@@
open Jvm Jvm.ClassFile Sem Op Lib Jvm.Free Jvm.Stand Jvm.Pilot.@@N@@.Jvm.D
/-! MADE BY PROGRAM (witnessworld.py) out of the Statement's table words and the real class files: 13 classes; the members and pool entries that the words name. The judged class is class 1, her method 1. -/
namespace start1
open Jvm.ClassFile
def u (s : String) : CpInfo := .utf8 (stringToUtf16 s)
/-- a pool by its gaps: so many unusable entries, then the entry; so many at the end -/
def gap : Nat → List CpInfo → List CpInfo
  | 0, r => r
  | n + 1, r => .unusable :: gap n r
def poolList (es : List (Nat × CpInfo)) (last : Nat) : List CpInfo := es.foldr (fun e r => gap e.1 (e.2 :: r)) (gap last [])
def pool (es : List (Nat × CpInfo)) (last : Nat) : Array CpInfo := ⟨poolList es last⟩
def fileOf (pool : Array CpInfo) (this : Nat) (attrs : Array Attribute := #[]) (ms : Array MethodInfo := #[]) (fl : Nat := 33) (sup : Nat := 0) (ifs : Array Nat := #[]) (fds : Array FieldInfo := #[]) : ClassFile where
  minorVersion := 0
  majorVersion := 65
  constantPool := pool
  accessFlags := fl
  thisClass := this
  superClass := sup
  interfaces := ifs
  fields := fds
  methods := ms
  attributes := attrs
def plain (name : String) (sup : Option ClassId) : Class where
  name := name
  kind := .ordinary
  loader := none
  accessFlags := 33
  super := sup
  interfaces := #[]
  cf := none
  fields := #[]
  methods := #[]
  instanceTypes := #[]
  staticTypes := #[]
  resolved := #[]
  callSites := []
  init := .initialized
  statics := none
  mirror := none

def pool0 : Array CpInfo := pool [(5, u "<init>"), (0, u "()V"), (1, .class_ 10), (1, u "java/lang/Object")] 113

def k0m0 : Method := { name := "<init>", desc := "()V", sig := { parameters := [], returnType := none }, accessFlags := 1, code := none }
/-- java/lang/Object -/
def k0 : Class := { plain "java/lang/Object" none with
  accessFlags := 33
  interfaces := #[]
  cf := some (fileOf pool0 8 #[] #[{ accessFlags := 1, nameIndex := 5, descriptorIndex := 6, attributes := #[] }] 33 0 #[] #[])
  fields := #[]
  methods := #[k0m0]
  instanceTypes := #[]
  staticTypes := #[]
  resolved := Array.replicate 124 none
  statics := none }

def pool1 : Array CpInfo := pool [(2, .class_ 4), (1, u "java/lang/Object"), (0, u "<init>"), (0, u "()V"), (2, .integer 2147483647), (0, .class_ 11), (0, u "com/example/unit_step/unitstep/IntegerType"), (0, .fieldref 10 13), (0, .nameAndType 14 15), (0, u "INTEGER"), (0, u "Lcom/example/unit_step/unitstep/IntegerType;"), (0, .fieldref 10 17), (0, .nameAndType 18 15), (0, u "LONG"), (0, .fieldref 10 20), (0, .nameAndType 21 15), (0, u "INT"), (0, .fieldref 10 23), (0, .nameAndType 24 15), (0, u "SHORT"), (0, .fieldref 10 26), (0, .nameAndType 27 15), (0, u "BYTE"), (0, .fieldref 10 29), (0, .nameAndType 30 15), (0, u "UNSIGNED_LONG"), (0, .fieldref 10 32), (0, .nameAndType 33 15), (0, u "UNSIGNED_INT"), (0, .fieldref 10 35), (0, .nameAndType 36 15), (0, u "UNSIGNED_SHORT"), (0, .fieldref 10 38), (0, .nameAndType 39 15), (0, u "UNSIGNED_BYTE"), (0, .fieldref 10 41), (0, .nameAndType 42 15), (0, u "NON_NEGATIVE_INTEGER"), (0, .fieldref 10 44), (0, .nameAndType 45 15), (0, u "POSITIVE_INTEGER"), (0, .fieldref 10 47), (0, .nameAndType 48 15), (0, u "NON_POSITIVE_INTEGER"), (0, .fieldref 10 50), (0, .nameAndType 51 15), (0, u "NEGATIVE_INTEGER"), (0, .methodref 10 53), (0, .nameAndType 54 55), (0, u "maxDigits"), (0, u "(Z)I"), (0, .class_ 57), (0, u "com/example/unit_step/unitstep/IntegerTypeMaxDigitsPinLaw"), (2, u "law"), (0, u "(II)Z")] 7

def k1m0 : Method := { name := "<init>", desc := "()V", sig := { parameters := [], returnType := none }, accessFlags := 2, code := none }
def k1c1 : Code := { maxStack := 4, maxLocals := 9, code := code, exceptionTable := #[], attributes := #[] }
def k1m1 : Method := { name := "law", desc := "(II)Z", sig := { parameters := [.int, .int], returnType := some .boolean }, accessFlags := 9, code := some k1c1 }
/-- com/example/unit_step/unitstep/IntegerTypeMaxDigitsPinLaw -/
def k1 : Class := { plain "com/example/unit_step/unitstep/IntegerTypeMaxDigitsPinLaw" (some 0) with
  accessFlags := 49
  interfaces := #[]
  cf := some (fileOf pool1 56 #[] #[{ accessFlags := 2, nameIndex := 5, descriptorIndex := 6, attributes := #[] }, { accessFlags := 9, nameIndex := 60, descriptorIndex := 61, attributes := #[] }] 49 2 #[] #[])
  fields := #[]
  methods := #[k1m0, k1m1]
  instanceTypes := #[]
  staticTypes := #[]
  resolved := Array.replicate 69 none
  statics := none }

def pool2 : Array CpInfo := pool [(1, .class_ 2), (0, u "java/lang/constant/Constable"), (0, .class_ 4), (0, u "java/lang/Object")] 6

/-- java/lang/constant/Constable -/
def k2 : Class := { plain "java/lang/constant/Constable" (some 0) with
  accessFlags := 1537
  interfaces := #[]
  cf := some (fileOf pool2 1 #[] #[] 1537 3 #[] #[])
  fields := #[]
  methods := #[]
  instanceTypes := #[]
  staticTypes := #[]
  resolved := Array.replicate 11 none
  statics := none }

def pool3 : Array CpInfo := pool [(1, .class_ 2), (0, u "java/lang/Comparable"), (0, .class_ 4), (0, u "java/lang/Object")] 7

/-- java/lang/Comparable -/
def k3 : Class := { plain "java/lang/Comparable" (some 0) with
  accessFlags := 1537
  interfaces := #[]
  cf := some (fileOf pool3 1 #[] #[] 1537 3 #[] #[])
  fields := #[]
  methods := #[]
  instanceTypes := #[]
  staticTypes := #[]
  resolved := Array.replicate 12 none
  statics := none }

def pool4 : Array CpInfo := pool [(1, .class_ 2), (0, u "java/io/Serializable"), (0, .class_ 4), (0, u "java/lang/Object")] 2

/-- java/io/Serializable -/
def k4 : Class := { plain "java/io/Serializable" (some 0) with
  accessFlags := 1537
  interfaces := #[]
  cf := some (fileOf pool4 1 #[] #[] 1537 3 #[] #[])
  fields := #[]
  methods := #[]
  instanceTypes := #[]
  staticTypes := #[]
  resolved := Array.replicate 7 none
  statics := none }

def pool5 : Array CpInfo := pool [(2, .class_ 4), (1, u "java/lang/Enum"), (0, u "name"), (0, u "Ljava/lang/String;"), (2, u "ordinal"), (0, u "I"), (1, .class_ 14), (1, u "java/lang/Object"), (4, u "hash"), (86, .class_ 108), (1, u "java/lang/Enum$EnumDesc"), (2, .class_ 112), (0, u "java/lang/constant/Constable"), (0, .class_ 114), (0, u "java/lang/Comparable"), (0, .class_ 116), (0, u "java/io/Serializable")] 87

/-- java/lang/Enum -/
def k5 : Class := { plain "java/lang/Enum" (some 0) with
  accessFlags := 1057
  interfaces := #[2, 3, 4]
  cf := some (fileOf pool5 2 #[.nestMembers #[106]] #[] 1057 12 #[111, 113, 115] #[{ accessFlags := 18, nameIndex := 5, descriptorIndex := 6, attributes := #[] }, { accessFlags := 18, nameIndex := 9, descriptorIndex := 10, attributes := #[] }, { accessFlags := 2, nameIndex := 19, descriptorIndex := 10, attributes := #[] }])
  fields := #[{ name := "name", type := (.object "java/lang/String"), accessFlags := 18, slot := 0, constantValue := 0 }, { name := "ordinal", type := .int, accessFlags := 18, slot := 1, constantValue := 0 }, { name := "hash", type := .int, accessFlags := 2, slot := 2, constantValue := 0 }]
  methods := #[]
  instanceTypes := #[(.object "java/lang/String"), .int, .int]
  staticTypes := #[]
  resolved := Array.replicate 204 none
  statics := none }

def pool6 : Array CpInfo := pool [(1, .class_ 2), (0, u "com/example/unit_step/unitstep/IntegerType"), (2, u "INTEGER"), (0, u "Lcom/example/unit_step/unitstep/IntegerType;"), (2, u "LONG"), (2, u "INT"), (2, u "SHORT"), (2, u "BYTE"), (2, u "UNSIGNED_LONG"), (2, u "UNSIGNED_INT"), (2, u "UNSIGNED_SHORT"), (2, u "UNSIGNED_BYTE"), (2, u "NON_NEGATIVE_INTEGER"), (2, u "POSITIVE_INTEGER"), (2, u "NON_POSITIVE_INTEGER"), (2, u "NEGATIVE_INTEGER"), (2, u "$VALUES"), (0, u "[Lcom/example/unit_step/unitstep/IntegerType;"), (6, .class_ 55), (1, u "java/lang/Enum"), (8, u "typeName"), (0, u "Ljava/lang/String;"), (7, u "min"), (0, u "Ljava/math/BigInteger;"), (2, u "max"), (10, u "longMin"), (0, u "J"), (11, u "longMax"), (16, .fieldref 1 119), (0, .nameAndType 120 121), (0, u "minLength"), (0, u "I"), (0, .fieldref 1 123), (0, .nameAndType 124 121), (0, u "maxLength"), (88, u "maxDigits"), (0, u "(Z)I")] 8

def k6c0 : Code := { maxStack := 4, maxLocals := 3, code := prog_14_method_5_code, exceptionTable := #[], attributes := #[] }
def k6m0 : Method := { name := "maxDigits", desc := "(Z)I", sig := { parameters := [.boolean], returnType := some .int }, accessFlags := 0, code := some k6c0 }
/-- com/example/unit_step/unitstep/IntegerType -/
def k6 : Class := { plain "com/example/unit_step/unitstep/IntegerType" (some 5) with
  accessFlags := 16432
  interfaces := #[]
  cf := some (fileOf pool6 1 #[] #[{ accessFlags := 0, nameIndex := 213, descriptorIndex := 214, attributes := #[] }] 16432 53 #[] #[{ accessFlags := 16409, nameIndex := 5, descriptorIndex := 6, attributes := #[] }, { accessFlags := 16409, nameIndex := 9, descriptorIndex := 6, attributes := #[] }, { accessFlags := 16409, nameIndex := 12, descriptorIndex := 6, attributes := #[] }, { accessFlags := 16409, nameIndex := 15, descriptorIndex := 6, attributes := #[] }, { accessFlags := 16409, nameIndex := 18, descriptorIndex := 6, attributes := #[] }, { accessFlags := 16409, nameIndex := 21, descriptorIndex := 6, attributes := #[] }, { accessFlags := 16409, nameIndex := 24, descriptorIndex := 6, attributes := #[] }, { accessFlags := 16409, nameIndex := 27, descriptorIndex := 6, attributes := #[] }, { accessFlags := 16409, nameIndex := 30, descriptorIndex := 6, attributes := #[] }, { accessFlags := 16409, nameIndex := 33, descriptorIndex := 6, attributes := #[] }, { accessFlags := 16409, nameIndex := 36, descriptorIndex := 6, attributes := #[] }, { accessFlags := 16409, nameIndex := 39, descriptorIndex := 6, attributes := #[] }, { accessFlags := 16409, nameIndex := 42, descriptorIndex := 6, attributes := #[] }, { accessFlags := 18, nameIndex := 64, descriptorIndex := 65, attributes := #[] }, { accessFlags := 18, nameIndex := 73, descriptorIndex := 74, attributes := #[] }, { accessFlags := 18, nameIndex := 77, descriptorIndex := 74, attributes := #[] }, { accessFlags := 18, nameIndex := 88, descriptorIndex := 89, attributes := #[] }, { accessFlags := 18, nameIndex := 101, descriptorIndex := 89, attributes := #[] }, { accessFlags := 18, nameIndex := 120, descriptorIndex := 121, attributes := #[] }, { accessFlags := 18, nameIndex := 124, descriptorIndex := 121, attributes := #[] }, { accessFlags := 4122, nameIndex := 45, descriptorIndex := 46, attributes := #[] }])
  fields := #[{ name := "INTEGER", type := (.object "com/example/unit_step/unitstep/IntegerType"), accessFlags := 16409, slot := 0, constantValue := 0 }, { name := "LONG", type := (.object "com/example/unit_step/unitstep/IntegerType"), accessFlags := 16409, slot := 1, constantValue := 0 }, { name := "INT", type := (.object "com/example/unit_step/unitstep/IntegerType"), accessFlags := 16409, slot := 2, constantValue := 0 }, { name := "SHORT", type := (.object "com/example/unit_step/unitstep/IntegerType"), accessFlags := 16409, slot := 3, constantValue := 0 }, { name := "BYTE", type := (.object "com/example/unit_step/unitstep/IntegerType"), accessFlags := 16409, slot := 4, constantValue := 0 }, { name := "UNSIGNED_LONG", type := (.object "com/example/unit_step/unitstep/IntegerType"), accessFlags := 16409, slot := 5, constantValue := 0 }, { name := "UNSIGNED_INT", type := (.object "com/example/unit_step/unitstep/IntegerType"), accessFlags := 16409, slot := 6, constantValue := 0 }, { name := "UNSIGNED_SHORT", type := (.object "com/example/unit_step/unitstep/IntegerType"), accessFlags := 16409, slot := 7, constantValue := 0 }, { name := "UNSIGNED_BYTE", type := (.object "com/example/unit_step/unitstep/IntegerType"), accessFlags := 16409, slot := 8, constantValue := 0 }, { name := "NON_NEGATIVE_INTEGER", type := (.object "com/example/unit_step/unitstep/IntegerType"), accessFlags := 16409, slot := 9, constantValue := 0 }, { name := "POSITIVE_INTEGER", type := (.object "com/example/unit_step/unitstep/IntegerType"), accessFlags := 16409, slot := 10, constantValue := 0 }, { name := "NON_POSITIVE_INTEGER", type := (.object "com/example/unit_step/unitstep/IntegerType"), accessFlags := 16409, slot := 11, constantValue := 0 }, { name := "NEGATIVE_INTEGER", type := (.object "com/example/unit_step/unitstep/IntegerType"), accessFlags := 16409, slot := 12, constantValue := 0 }, { name := "typeName", type := (.object "java/lang/String"), accessFlags := 18, slot := 3, constantValue := 0 }, { name := "min", type := (.object "java/math/BigInteger"), accessFlags := 18, slot := 4, constantValue := 0 }, { name := "max", type := (.object "java/math/BigInteger"), accessFlags := 18, slot := 5, constantValue := 0 }, { name := "longMin", type := .long, accessFlags := 18, slot := 6, constantValue := 0 }, { name := "longMax", type := .long, accessFlags := 18, slot := 7, constantValue := 0 }, { name := "minLength", type := .int, accessFlags := 18, slot := 8, constantValue := 0 }, { name := "maxLength", type := .int, accessFlags := 18, slot := 9, constantValue := 0 }, { name := "$VALUES", type := (.array (.object "com/example/unit_step/unitstep/IntegerType")), accessFlags := 4122, slot := 13, constantValue := 0 }]
  methods := #[k6m0]
  instanceTypes := #[(.object "java/lang/String"), .int, .int, (.object "java/lang/String"), (.object "java/math/BigInteger"), (.object "java/math/BigInteger"), .long, .long, .int, .int]
  staticTypes := #[(.object "com/example/unit_step/unitstep/IntegerType"), (.object "com/example/unit_step/unitstep/IntegerType"), (.object "com/example/unit_step/unitstep/IntegerType"), (.object "com/example/unit_step/unitstep/IntegerType"), (.object "com/example/unit_step/unitstep/IntegerType"), (.object "com/example/unit_step/unitstep/IntegerType"), (.object "com/example/unit_step/unitstep/IntegerType"), (.object "com/example/unit_step/unitstep/IntegerType"), (.object "com/example/unit_step/unitstep/IntegerType"), (.object "com/example/unit_step/unitstep/IntegerType"), (.object "com/example/unit_step/unitstep/IntegerType"), (.object "com/example/unit_step/unitstep/IntegerType"), (.object "com/example/unit_step/unitstep/IntegerType"), (.array (.object "com/example/unit_step/unitstep/IntegerType"))]
  resolved := Array.replicate 223 none
  statics := some 0 }

def pool7 : Array CpInfo := pool [(1, u "java/lang/Cloneable"), (0, .class_ 1), (0, u "java/lang/Object"), (0, .class_ 3)] 3

/-- java/lang/Cloneable -/
def k7 : Class := { plain "java/lang/Cloneable" (some 0) with
  accessFlags := 1537
  interfaces := #[]
  cf := some (fileOf pool7 2 #[] #[] 1537 4 #[] #[])
  fields := #[]
  methods := #[]
  instanceTypes := #[]
  staticTypes := #[]
  resolved := Array.replicate 8 none
  statics := none }

/-- the primitive byte -/
def k8 : Class := { plain "byte" none with kind := .primitive 'B', accessFlags := 0x411 }
/-- [B -/
def k9 : Class := { plain "[B" (some 0) with kind := .array 8 .byte, interfaces := #[7, 4], accessFlags := 1041 }

/-- the primitive int -/
def k10 : Class := { plain "int" none with kind := .primitive 'I', accessFlags := 0x411 }
/-- [I -/
def k11 : Class := { plain "[I" (some 0) with kind := .array 10 .int, interfaces := #[7, 4], accessFlags := 1041 }

/-- [Lcom/example/unit_step/unitstep/IntegerType; -/
def k12 : Class := { plain "[Lcom/example/unit_step/unitstep/IntegerType;" (some 0) with kind := .array 6 (.object "com/example/unit_step/unitstep/IntegerType"), interfaces := #[7, 4], accessFlags := 1041 }

def heap : Heap := #[{ cls := 6, slots := #[.ref 1, .ref 2, .ref 3, .ref 4, .ref 5, .ref 6, .ref 7, .ref 8, .ref 9, .ref 10, .ref 11, .ref 12, .ref 13, .null], vm := .statics 6 },
  { cls := 6, slots := #[.null, .int 0, .int 0, .null, .null, .null, .long 0, .long 0, .int 2147483647, .int 2147483647], vm := .none },
  { cls := 6, slots := #[.null, .int 1, .int 0, .null, .null, .null, .long 0, .long 0, .int 19, .int 19], vm := .none },
  { cls := 6, slots := #[.null, .int 2, .int 0, .null, .null, .null, .long 0, .long 0, .int 10, .int 10], vm := .none },
  { cls := 6, slots := #[.null, .int 3, .int 0, .null, .null, .null, .long 0, .long 0, .int 5, .int 5], vm := .none },
  { cls := 6, slots := #[.null, .int 4, .int 0, .null, .null, .null, .long 0, .long 0, .int 3, .int 3], vm := .none },
  { cls := 6, slots := #[.null, .int 5, .int 0, .null, .null, .null, .long 0, .long 0, .int 1, .int 20], vm := .none },
  { cls := 6, slots := #[.null, .int 6, .int 0, .null, .null, .null, .long 0, .long 0, .int 1, .int 10], vm := .none },
  { cls := 6, slots := #[.null, .int 7, .int 0, .null, .null, .null, .long 0, .long 0, .int 1, .int 5], vm := .none },
  { cls := 6, slots := #[.null, .int 8, .int 0, .null, .null, .null, .long 0, .long 0, .int 1, .int 3], vm := .none },
  { cls := 6, slots := #[.null, .int 9, .int 0, .null, .null, .null, .long 0, .long 0, .int 1, .int 2147483647], vm := .none },
  { cls := 6, slots := #[.null, .int 10, .int 0, .null, .null, .null, .long 0, .long 0, .int 1, .int 2147483647], vm := .none },
  { cls := 6, slots := #[.null, .int 11, .int 0, .null, .null, .null, .long 0, .long 0, .int 2147483647, .int 1], vm := .none },
  { cls := 6, slots := #[.null, .int 12, .int 0, .null, .null, .null, .long 0, .long 0, .int 2147483647, .int 1], vm := .none }]
def classes : Array Class := #[k0, k1, k2, k3, k4, k5, k6, k7, k8, k9, k10, k11, k12]
def interned : List (Array UInt16 × Addr) := []
def slotsUsed : Nat := 144
def theMethod : MethodId := ⟨1, 1⟩
def args0 : Array Value := #[.int 5, .int 7]
def aboutOver (below : List Frame) : State where
  vm := { classes := classes, interned := interned.toArray }
  heap := heap
  slotsUsed := slotsUsed
  threads := #[{ frames := .invoking theMethod args0 :: below }]
def below0 : List Frame := [.native { method := ⟨0, 0⟩, args := #[] }]
def about1 : State := aboutOver below0
def p0 : Program := .bare "" "" ""
def e0 : Env := launch0.env 0 0 0
theorem w_frames : about1.frames = Frame.invoking theMethod args0 :: below0 := rfl
set_option maxRecDepth 65536 in
theorem w_args : argsFit about1.vm theMethod args0 = true := by decide +kernel
set_option maxRecDepth 65536 in
theorem w_heap : heapFits about1 = true := by decide +kernel
set_option maxRecDepth 65536 in
theorem w_runnable : about1.curStatus? = some .runnable := by decide +kernel
set_option maxRecDepth 65536 in
theorem w_alone : about1.alone = true := by decide +kernel
set_option maxRecDepth 65536 in
theorem w_named : about1.methodNamed? x = some theMethod := by decide +kernel
set_option maxRecDepth 65536 in
theorem w_hears : about1.hears theMethod below0 = true := by decide +kernel
set_option maxRecDepth 65536 in
theorem w_ripe : about1.ripe theMethod args0 below0 = true := by decide +kernel
theorem w_running : about1.status = .running := rfl
set_option maxRecDepth 65536 in
theorem w_room : about1.hasRoom e0.platform room_1 = true :=
  launch0.hasRoom_least _ room_1 (by decide +kernel) (by decide +kernel) (by decide +kernel) (by decide +kernel) (by decide +kernel) (by decide +kernel)
theorem allAtoms_all (ts : List Jvm.Cond) (a : Array Jvm.Value) (st : Jvm.State) : (allAtoms ts).before a st = ts.all (fun c => c.before a st) := by
  induction ts with
  | nil => rfl
  | cons c t ih =>
    show (Jvm.Cond.and c (allAtoms t)).before a st = _
    rw [Jvm.Cond.before_and, ih, List.all_cons]
def words1 : List Jvm.Cond := Jvm.Cond.code x code maxLocals ret :: tables_1
/-- a 'code' word, met by the world's own term for the bytes: nothing is compared byte by byte -/
theorem code_word {y : MethodName} {bytes : ByteArray} {mx : Nat} {rt : Option FieldType} {a : Array Value} {s : State} {m : MethodId} {meth : Method} {c : Code} (h1 : s.methodNamed? y = some m) (h2 : s.vm.method? m = some meth) (h3 : meth.code = some c) (h4 : c.code = bytes)
    (h5 : (c.maxLocals == mx && c.exceptionTable.isEmpty && decide (c.maxStack ≤ mostOperands) && decide (meth.sig.returnType = rt) && !meth.locks && decide (parseMethodDescriptor y.desc = some meth.sig)) = true) : (Jvm.Cond.code y bytes mx rt).before a s = true := by
  simp only [Bool.and_eq_true, beq_iff_eq, Bool.not_eq_true', decide_eq_true_eq] at h5
  obtain ⟨⟨⟨⟨⟨g1, g2⟩, g3⟩, g4⟩, g5⟩, g6⟩ := h5
  simp [Cond.before, Cond.holds, Cond.value, h1, h2, h3, h4, g1, g2, g3, g4, g5, g6]
def isCode : Jvm.Cond → Bool
  | .code _ _ _ _ => true
  | _ => false
theorem all_split {L : List Jvm.Cond} {P : Jvm.Cond → Bool} (h1 : L.all (fun c => isCode c || P c) = true) (h2 : ∀ c ∈ L.filter isCode, P c = true) : L.all P = true := by
  refine List.all_eq_true.mpr fun c hc => ?_
  have h := List.all_eq_true.mp h1 c hc
  rcases Bool.eq_false_or_eq_true (isCode c) with hi | hi
  · exact h2 c (List.mem_filter.mpr ⟨hc, hi⟩)
  · simpa [hi] using h
set_option maxRecDepth 65536 in
theorem w_c0 : (Jvm.Cond.code x code maxLocals ret).before args0 about1 = true := code_word (m := ⟨1, 1⟩) (meth := k1m1) (c := k1c1) (by decide +kernel) rfl rfl rfl (by decide +kernel)
set_option maxRecDepth 65536 in
theorem w_c1 : (Jvm.Cond.code ({ cls := "com/example/unit_step/unitstep/IntegerType", name := "maxDigits", desc := "(Z)I" } : Jvm.MethodName) prog_14_method_5_code (3 : Nat) (Option.some Jvm.ClassFile.FieldType.int)).before args0 about1 = true := code_word (m := ⟨6, 0⟩) (meth := k6m0) (c := k6c0) (by decide +kernel) rfl rfl rfl (by decide +kernel)
def codes1 : List Jvm.Cond := [Jvm.Cond.code x code maxLocals ret, Jvm.Cond.code ({ cls := "com/example/unit_step/unitstep/IntegerType", name := "maxDigits", desc := "(Z)I" } : Jvm.MethodName) prog_14_method_5_code (3 : Nat) (Option.some Jvm.ClassFile.FieldType.int)]
set_option maxRecDepth 65536 in
theorem codes_eq : words1.filter isCode = codes1 := rfl
theorem w_codes : ∀ c ∈ words1.filter isCode, c.before args0 about1 = true := by
  rw [codes_eq]
  intro c hc
  simp only [codes1, List.mem_cons, List.not_mem_nil, or_false] at hc
  rcases hc with rfl | rfl
  · exact w_c0
  · exact w_c1
set_option maxRecDepth 65536 in
theorem w_t1 : (words1.take 24).all (fun c => isCode c || c.before args0 about1) = true := by decide +kernel
set_option maxRecDepth 65536 in
theorem w_t2 : (words1.drop 24).all (fun c => isCode c || c.before args0 about1) = true := by decide +kernel
theorem w_tables : (allAtoms (Jvm.Cond.code x code maxLocals ret :: tables_1)).before args0 about1 = true := by
  rw [allAtoms_all]
  show words1.all (fun c => c.before args0 about1) = true
  refine all_split ?_ w_codes
  rw [← List.take_append_drop 24 words1, List.all_append, w_t1, w_t2]
  rfl
set_option maxRecDepth 65536 in
theorem w_case : (Jvm.Cond.and given_1 narrow_1).before args0 about1 = true := by decide +kernel
theorem w_applies : (headSpec (Jvm.Cond.code x code maxLocals ret :: tables_1) room_1).applies x e0.platform about1 = true :=
  (Spec.applies_iff w_frames).mpr ⟨w_running, w_runnable, w_alone, w_named, w_hears, w_ripe, w_room, w_tables⟩
theorem atStart : AtStart classFile x code maxLocals ret World_1 tables_1 room_1 Calls_1 rest_1 Pre_1 launch0 p0 e0 about1 theMethod args0 below0 :=
  ⟨lists_1, trivial, launch0.admits_env _ _ _, launch0.least_env, fairChoices_fair.cas, fairChoices_fair.clock, w_frames, w_args, w_heap, w_applies, trivial, trivial, w_case⟩
end start1
theorem witness_1 : WitnessClaimed_1 := ⟨start1.p0, start1.e0, start1.about1, start1.theMethod, start1.args0, start1.below0, start1.atStart⟩
end Jvm.Pilot.@@N@@
