import JvmDerived
import JvmDerived.Pilot.@@N@@Statement
import JvmDerived.Pilot.@@N@@Code
set_option linter.unusedVariables false
set_option linter.unusedSimpArgs false
namespace Jvm.Pilot.@@N@@
open Jvm Jvm.ClassFile Sem Op Lib Jvm.Free Jvm.Stand Jvm.LawKit Jvm.RoadKit Bundle Jvm.Pilot.@@N@@.Jvm.D
/-! from A on the run returns, and F holds of the end -/
def own_Goes (p : Program) (e : Env) (below : List Frame) (F : State → Outcome → Prop) (A : State) : Prop := ∃ s₂ o, Steps p.tables e below A s₂ ∧ s₂.status = .running ∧ Ended s₂ below o ∧ F s₂ o
/-- the narrow end: Q of what it returned, of the heap and of the places written; the frame -/
def own_FN (s : State) (Q : Option Value → Heap → List Loc → Prop) (k n : Nat) : State → Outcome → Prop := fun s₂ o => ∃ v L, o = .returned v ∧ Q v s₂.heap L ∧ FrameEnd s o s₂ L k n
section OwnGoes
variable {p : Program} {l : Launch} {e : Env} {R : Room} {s : State} {m : MethodId} {args : Array Value} {below : List Frame} {meth : Method} {c : Code} {T : State} {locs : List Loc} {cells slots : Nat} {Q : Option Value → Heap → List Loc → Prop} {k n : Nat} {F : State → Outcome → Prop}
theorem own_to {A B : State} (h : ∀ t, Steps p.tables e below B t → Steps p.tables e below A t) (g : own_Goes p e below F B) : own_Goes p e below F A := by
  obtain ⟨s₂, o, h1, r⟩ := g
  exact ⟨s₂, o, h _ h1, r⟩
theorem own_tr {A B : State} (h : Steps p.tables e below A B) (g : own_Goes p e below F B) : own_Goes p e below F A := own_to (fun t q => h.trans q) g
/-! the shapes of a step: what lies on the stack and in the locals behind it -/
theorem own_tp {T' : State} {pc : Nat} {L : Array Slot} {S : List Value} (w : Value) (pc' : Nat) (h : ∀ t, Steps p.tables e below (T'.setTop (mkF m pc' L (w :: S))) t → Steps p.tables e below (T.setTop (mkF m pc L S)) t) (g : own_Goes p e below F (T'.setTop (mkF m pc' L (w :: S)))) : own_Goes p e below F (T.setTop (mkF m pc L S)) := own_to h g
theorem own_t1 {T' : State} {pc : Nat} {L : Array Slot} {S : List Value} {x : Value} (w : Value) (pc' : Nat) (h : ∀ t, Steps p.tables e below (T'.setTop (mkF m pc' L (w :: S))) t → Steps p.tables e below (T.setTop (mkF m pc L (x :: S))) t) (g : own_Goes p e below F (T'.setTop (mkF m pc' L (w :: S)))) : own_Goes p e below F (T.setTop (mkF m pc L (x :: S))) := own_to h g
theorem own_t2 {T' : State} {pc : Nat} {L : Array Slot} {S : List Value} {x y : Value} (w : Value) (pc' : Nat) (h : ∀ t, Steps p.tables e below (T'.setTop (mkF m pc' L (w :: S))) t → Steps p.tables e below (T.setTop (mkF m pc L (x :: y :: S))) t) (g : own_Goes p e below F (T'.setTop (mkF m pc' L (w :: S)))) : own_Goes p e below F (T.setTop (mkF m pc L (x :: y :: S))) := own_to h g
theorem own_d0 {T' : State} {pc : Nat} {L : Array Slot} {S : List Value} (pc' : Nat) (h : ∀ t, Steps p.tables e below (T'.setTop (mkF m pc' L S)) t → Steps p.tables e below (T.setTop (mkF m pc L S)) t) (g : own_Goes p e below F (T'.setTop (mkF m pc' L S))) : own_Goes p e below F (T.setTop (mkF m pc L S)) := own_to h g
theorem own_d1 {T' : State} {pc : Nat} {L : Array Slot} {S : List Value} {x : Value} (pc' : Nat) (h : ∀ t, Steps p.tables e below (T'.setTop (mkF m pc' L S)) t → Steps p.tables e below (T.setTop (mkF m pc L (x :: S))) t) (g : own_Goes p e below F (T'.setTop (mkF m pc' L S))) : own_Goes p e below F (T.setTop (mkF m pc L (x :: S))) := own_to h g
theorem own_d2 {T' : State} {pc : Nat} {L : Array Slot} {S : List Value} {x y : Value} (pc' : Nat) (h : ∀ t, Steps p.tables e below (T'.setTop (mkF m pc' L S)) t → Steps p.tables e below (T.setTop (mkF m pc L (x :: y :: S))) t) (g : own_Goes p e below F (T'.setTop (mkF m pc' L S))) : own_Goes p e below F (T.setTop (mkF m pc L (x :: y :: S))) := own_to h g
theorem own_cs {T' : State} {pc : Nat} {L : Array Slot} {S : List Value} (S' : List Value) (pc' : Nat) (h : ∀ t, Steps p.tables e below (T'.setTop (mkF m pc' L S')) t → Steps p.tables e below (T.setTop (mkF m pc L S)) t) (g : own_Goes p e below F (T'.setTop (mkF m pc' L S'))) : own_Goes p e below F (T.setTop (mkF m pc L S)) := own_to h g
theorem own_csR {T' : State} {pc : Nat} {L : Array Slot} {S : List Value} (S' : List Value) (pc' : Nat) (h : Steps p.tables e below (T.setTop (mkF m pc L S)) (T'.setTop (mkF m pc' L S'))) (g : own_Goes p e below F (T'.setTop (mkF m pc' L S'))) : own_Goes p e below F (T.setTop (mkF m pc L S)) := own_tr h g
theorem own_ls {T' : State} {pc : Nat} {L : Array Slot} {S : List Value} {x : Value} (L' : Array Slot) (pc' : Nat) (h : ∀ t, Steps p.tables e below (T'.setTop (mkF m pc' L' S)) t → Steps p.tables e below (T.setTop (mkF m pc L (x :: S))) t) (g : own_Goes p e below F (T'.setTop (mkF m pc' L' S))) : own_Goes p e below F (T.setTop (mkF m pc L (x :: S))) := own_to h g
theorem own_li {T' : State} {pc : Nat} {L : Array Slot} {S : List Value} (L' : Array Slot) (pc' : Nat) (h : ∀ t, Steps p.tables e below (T'.setTop (mkF m pc' L' S)) t → Steps p.tables e below (T.setTop (mkF m pc L S)) t) (g : own_Goes p e below F (T'.setTop (mkF m pc' L' S))) : own_Goes p e below F (T.setTop (mkF m pc L S)) := own_to h g
theorem own_start {A B : State} (h : ∀ t, Steps p.tables e below B t → Steps p.tables e below A t) (g : own_Goes p e below (own_FN s Q k n) B) :
    ∃ s₂ o, Steps p.tables e below A s₂ ∧ s₂.status = .running ∧ Ended s₂ below o ∧ ∃ v L, o = .returned v ∧ Q v s₂.heap L ∧ FrameEnd s o s₂ L k n := own_to h g
theorem own_retN (X : Stand p l e R s m args below meth c T locs cells slots) (hx : p.tables.exec = Jvm.exec) {pc : Nat} {Ls : Array Slot} {z : Int32} {t : FieldType} {rest : List Value} (hret : meth.sig.returnType = some t)
    (hd : decode c.code pc = .ok (.ireturn, 1)) (ht : t = .boolean ∨ t = .byte ∨ t = .char ∨ t = .short) (hlk : meth.locks = false) (hk : cells ≤ k) (hn : slots ≤ n) {h : Heap} (eT : T.heap = h) (hQ : Q (some (.int (nar t z))) h locs) :
    own_Goes p e below (own_FN s Q k n) (T.setTop (mkF m pc Ls (.int z :: rest))) := by
  obtain ⟨fs, hr, hrun, hended, hW, hsame⟩ := X.leave (v := some (.int (nar t z))) (fun q => by rw [hret] at q; cases q) hlk
  subst eT
  exact ⟨_, _, retN X hx hret ht hd hr, hrun, hended, _, _, rfl, hQ, ⟨_, rfl⟩, hW, hsame.mono hk hn⟩
theorem own_retI (X : Stand p l e R s m args below meth c T locs cells slots) (hx : p.tables.exec = Jvm.exec) {pc : Nat} {Ls : Array Slot} {z : Int32} {rest : List Value} (hret : meth.sig.returnType = some .int)
    (hd : decode c.code pc = .ok (.ireturn, 1)) (hlk : meth.locks = false) (hk : cells ≤ k) (hn : slots ≤ n) {h : Heap} (eT : T.heap = h) (hQ : Q (some (.int z)) h locs) :
    own_Goes p e below (own_FN s Q k n) (T.setTop (mkF m pc Ls (.int z :: rest))) := by
  obtain ⟨fs, hr, hrun, hended, hW, hsame⟩ := X.leave (v := some (.int z)) (fun q => by rw [hret] at q; cases q) hlk
  subst eT
  exact ⟨_, _, retOut X hx hret rfl (Or.inl ⟨rfl, Or.inl rfl, z, rfl⟩) hd hr, hrun, hended, _, _, rfl, hQ, ⟨_, rfl⟩, hW, hsame.mono hk hn⟩
theorem own_retJ (X : Stand p l e R s m args below meth c T locs cells slots) (hx : p.tables.exec = Jvm.exec) {pc : Nat} {Ls : Array Slot} {z : Int64} {rest : List Value} (hret : meth.sig.returnType = some .long)
    (hd : decode c.code pc = .ok (.lreturn, 1)) (hlk : meth.locks = false) (hk : cells ≤ k) (hn : slots ≤ n) {h : Heap} (eT : T.heap = h) (hQ : Q (some (.long z)) h locs) :
    own_Goes p e below (own_FN s Q k n) (T.setTop (mkF m pc Ls (.long z :: rest))) := by
  obtain ⟨fs, hr, hrun, hended, hW, hsame⟩ := X.leave (v := some (.long z)) (fun q => by rw [hret] at q; cases q) hlk
  subst eT
  exact ⟨_, _, retOut X hx hret rfl (Or.inr (Or.inl ⟨rfl, rfl, z, rfl⟩)) hd hr, hrun, hended, _, _, rfl, hQ, ⟨_, rfl⟩, hW, hsame.mono hk hn⟩
theorem own_nref {t : FieldType} {w : Value} (ht : t.isReference = true) : narrow t w = w := by cases t <;> first | rfl | (exact Bool.noConfusion ht)
theorem own_fits {t : FieldType} {w : Value} (ht : t.isReference = true) (hw : w.isRef = true) : fits t w = true := by
  cases t <;> first | (exact Bool.noConfusion ht) | (cases w <;> first | rfl | (exact Bool.noConfusion hw))
theorem own_retR (X : Stand p l e R s m args below meth c T locs cells slots) (hx : p.tables.exec = Jvm.exec) {pc : Nat} {Ls : Array Slot} {w : Value} {t : FieldType} {rest : List Value} (hret : meth.sig.returnType = some t)
    (hd : decode c.code pc = .ok (.areturn, 1)) (ht : t.isReference = true) (hw : w.isRef = true) (hlk : meth.locks = false) (hk : cells ≤ k) (hn : slots ≤ n) {h : Heap} (eT : T.heap = h) (hQ : Q (some w) h locs) :
    own_Goes p e below (own_FN s Q k n) (T.setTop (mkF m pc Ls (w :: rest))) := by
  obtain ⟨fs, hr, hrun, hended, hW, hsame⟩ := X.leave (v := some w) (fun q => by rw [hret] at q; cases q) hlk
  subst eT
  exact ⟨_, _, retOut X hx hret (own_nref ht) (Or.inr (Or.inr (Or.inr (Or.inr ⟨rfl, ht, hw⟩)))) hd hr, hrun, hended, _, _, rfl, hQ, ⟨_, rfl⟩, hW, hsame.mono hk hn⟩
theorem own_retV (X : Stand p l e R s m args below meth c T locs cells slots) (hx : p.tables.exec = Jvm.exec) {pc : Nat} {Ls : Array Slot} (hret : meth.sig.returnType = none)
    (hd : decode c.code pc = .ok (.return_, 1)) (hlk : meth.locks = false) (hk : cells ≤ k) (hn : slots ≤ n) {h : Heap} (eT : T.heap = h) (hQ : Q none h locs) :
    own_Goes p e below (own_FN s Q k n) (T.setTop (mkF m pc Ls [])) := by
  obtain ⟨fs, hr, hrun, hended, hW, hsame⟩ := X.leave (v := none) (fun _ => rfl) hlk
  subst eT
  exact ⟨_, _, X.returnOut hx hret hd hr, hrun, hended, _, _, rfl, hQ, ⟨_, rfl⟩, hW, hsame.mono hk hn⟩
end OwnGoes

/-- a body's contract, in lawnew's form -/
abbrev own_Met (l : Launch) (y : MethodName) (bytes : ByteArray) (ml : Nat) (rt : Option FieldType) (ws : List Jvm.Cond) (rm : Room) (Z : State) (as' : Array Value) (h0 : Heap) (Q : Option Value → Heap → List Loc → Prop) : Prop :=
  MetFree l y (head1 (Jvm.Cond.code y bytes ml rt :: ws) rm) (fun a U => a = as' ∧ Z.Warmed39 U.vm ∧ U.heap = h0) (fun _ _ _ _ _ => True) (fun _ U o U' => ∃ v L, o = .returned v ∧ Q v U'.heap L ∧ FrameEnd U o U' L rm.cells rm.slots)
theorem own_enter {l : Launch} {y : MethodName} {bytes : ByteArray} {ml : Nat} {rt : Option FieldType} {ws : List Jvm.Cond} {rm : Room} {Z : State} {as' : Array Value} {h0 : Heap} {Q : Option Value → Heap → List Loc → Prop} (L0 : Array Slot) (hp : plainFor y = true) (ef : ∀ m, entryFrame m as' ml = mkF m 0 L0 [])
    (go : ∀ (p : Program) (e : Env) (s : State) (m : MethodId) (below : List Frame) (meth : Method) (c : Code) (s₁ : State), p.tables.exec = Jvm.exec → c.code = bytes → c.maxLocals = ml → s.vm.findClass y.cls = some m.cls → meth.name = y.name → Z.Warmed39 s.vm → meth.sig.returnType = rt → meth.locks = false → Stand p l e rm s m as' below meth c s₁ [] 0 0 → s₁.heap = h0 → own_Goes p e below (own_FN s Q rm.cells rm.slots) (s₁.setTop (mkF m 0 L0 []))) :
    own_Met l y bytes ml rt ws rm Z as' h0 Q := by
  refine MetFree.of_bodySF hp hisR ?_
  intro p e s m args below meth c s₁ Bd hml0 hP hK
  obtain ⟨rfl, hZ, hh⟩ := hP
  have g := go p e s m below meth c s₁ Bd.exec Bd.bytes hml0 (findClass_of_methodNamed Bd.named) (name_of_methodNamed Bd.named Bd.method).1 hZ Bd.returns Bd.notSynchronized (Stand.of_body Bd) (by rw [← hh, Bd.state]; rfl)
  exact own_start (fun t k => castTop (ef m) k) g

theorem own_cat1 {x : Value} (h : x.isRef = true) : x.category = 1 := by cases x <;> first | rfl | exact Bool.noConfusion h
theorem own_catI (z : Int32) : (Value.int z).category = 1 := rfl
theorem own_catJ (z : Int64) : (Value.long z).category = 2 := rfl
theorem own_catR (z : Addr) : (Value.ref z).category = 1 := rfl
def Q0 (h0 : Heap) (n0 : Nat) (v : Option Value) (h : Heap) (L : List Loc) : Prop := v = some (.int 1) ∧ Fr n0 L

theorem own_sta {s : State} {args : Array Value} {C n d K : String} (hi : (Cond.initialized C).before args s = true) (hl : (Cond.laysStatic C n d).before args s = true) (hx : (Cond.exactly (.static C n d) K).value args s none s [] = some true) : ∃ a, (Term.static C n d).eval args s none [] s = some (.ref a) ∧ Sta s s.heap C n d (.ref a) ∧ Exa s s.heap a K := by
  obtain ⟨a, ev⟩ := exa_v hx
  exact ⟨a, ev, Sta.start ev (Or.inr ⟨hi, hl⟩), Exa.start ev hx⟩
theorem own_fld {s : State} {args : Array Value} {t : Term} {a : Addr} {C n d : String} {z : Int32} (ev : t.eval args s none [] s = some (.ref a)) (h : (Cond.eq (.field t C n d) (.int z)).value args s none s [] = some true) : Fld s s.heap a C n d (.int z) := by
  obtain ⟨x, y, e1, e2, -, k⟩ := cmp_v (Or.inl h)
  obtain rfl : y = .int z := (Option.some.inj ((Term.int_eval z).symm.trans e2)).symm
  obtain ⟨w, rfl⟩ : ∃ w, x = .int w := k
  have hz : w = z := gotT (Cond.eq_ints e1 (Term.int_eval z)) h
  subst hz
  rw [fld_at ev] at e1
  exact Fld.start e1

def own_L (Z : State) (n0 : Nat) (h : Heap) (a b : Addr) (k : ClassId) (z g cap : Int32) (vs : List Value) : Prop :=
  Exa Z h a "java/util/ArrayList" ∧ Fld Z h a "java/util/ArrayList" "elementData" "[Ljava/lang/Object;" (.ref b) ∧ Fld Z h a "java/util/ArrayList" "size" "I" (.int z) ∧ Fld Z h a "java/util/AbstractList" "modCount" "I" (.int g) ∧ Arv Z h b k (.object "java/lang/Object") cap vs .null ∧ Ovr Z k "java/lang/Object" ∧ Exa Z h b "[Ljava/lang/Object;" ∧ n0 ≤ a ∧ n0 ≤ b ∧ a ≠ b
def own_L0 (Z : State) (n0 : Nat) (h : Heap) (a ad : Addr) (g : Int32) : Prop :=
  Exa Z h a "java/util/ArrayList" ∧ Fld Z h a "java/util/ArrayList" "elementData" "[Ljava/lang/Object;" (.ref ad) ∧ Fld Z h a "java/util/ArrayList" "size" "I" (.int (0 : Int32)) ∧ Fld Z h a "java/util/AbstractList" "modCount" "I" (.int g) ∧ n0 ≤ a
def own_at (z cap : Int32) (i n : Nat) : Prop := ¬ z < 0 ∧ z < cap ∧ z.toNatClampNeg = i ∧ i < n
theorem own_ltne {z c : Int32} (h : z < c) : ¬ z = c := fun q => by
  rw [Int32.lt_iff_toInt_lt, q] at h
  omega
def own_e (am aq : Addr) (b : Bool) : Addr := if b then aq else am
def own_v (am aq : Addr) (b : Bool) : Value := .ref (own_e am aq b)
def own_mon (b : Bool) : Int32 := if b then 3 else 1
theorem own_mon_ne (b : Bool) : own_mon b ≠ 0 := by cases b <;> decide
def own_ok (mt : Int32) : Int32 → List Bool → Bool
  | f, [] => decide (f = mt)
  | f, b :: r => decide (own_mon b < mt) && (decide (f % own_mon b = 0) && own_ok mt (f + own_mon b) r)
theorem own_ok0 {mt f : Int32} (h : own_ok mt f [] = true) : f = mt := of_decide_eq_true h
theorem own_ok1 {mt f : Int32} {b : Bool} {r : List Bool} (h : own_ok mt f (b :: r) = true) : own_mon b < mt ∧ f % own_mon b = 0 ∧ own_ok mt (f + own_mon b) r = true := by
  have q := Bool.and_eq_true_iff.mp h
  have q2 := Bool.and_eq_true_iff.mp q.2
  exact ⟨of_decide_eq_true q.1, of_decide_eq_true q2.1, q2.2⟩

/-- what an array holds at the start, said place by place (the places from i on) -/
def own_Els (args : Array Value) (s : State) (t : Term) : Nat → List Value → Prop
  | _, [] => True
  | i, v :: vs => (Term.elem t (.int (Int32.ofNat i))).eval args s none [] s = some v ∧ own_Els args s t (i + 1) vs
theorem own_elI {args : Array Value} {s : State} {t : Term} {a : Addr} {j z : Int32} (ev : t.eval args s none [] s = some (.ref a)) (h : (Cond.eq (.elem t (.int j)) (.int z)).value args s none s [] = some true) : (Term.elem t (.int j)).eval args s none [] s = some (.int z) := by
  obtain ⟨x, y, e1, e2, -, k⟩ := cmp_v (Or.inl h)
  obtain rfl : y = .int z := (Option.some.inj ((Term.int_eval z).symm.trans e2)).symm
  obtain ⟨w, rfl⟩ : ∃ w, x = .int w := k
  have hz : w = z := gotT (Cond.eq_ints e1 (Term.int_eval z)) h
  subst hz
  exact e1
theorem own_elR {args : Array Value} {s : State} {t u : Term} {a b : Addr} {j : Int32} (ev : t.eval args s none [] s = some (.ref a)) (eu : u.eval args s none [] s = some (.ref b)) (h : (Cond.eq (.elem t (.int j)) u).value args s none s [] = some true) : (Term.elem t (.int j)).eval args s none [] s = some (.ref b) := by
  obtain ⟨x, y, e1, e2, k1, k2⟩ := cmp_v (Or.inl h)
  cases eu.symm.trans e2
  have hx : x.isRef = true := k2.2
  have q := gotT (eq_R e1 e2 hx rfl) h
  rw [e1, q]
theorem own_ofn {i : Nat} (h : i < 2 ^ 31) : ¬ Int32.ofNat i < 0 ∧ (Int32.ofNat i).toNatClampNeg = i := by
  have e : (Int32.ofNat i).toInt = i := Int32.toInt_ofNat_small h
  have e0 : (0 : Int32).toInt = 0 := rfl
  have hn : ¬ Int32.ofNat i < 0 := by rw [Int32.lt_iff_toInt_lt, e, e0]; omega
  have q := nat_of hn
  exact ⟨hn, by omega⟩
theorem own_els {args : Array Value} {s : State} {t : Term} {a : Addr} {cl : Cell} (ev : t.eval args s none [] s = some (.ref a)) (hat : s.arrayAt? a = some cl) : ∀ (vs : List Value) (i : Nat), i + vs.length < 2 ^ 31 → own_Els args s t i vs → HasL cl i vs
  | [], _, _, _ => trivial
  | v :: vs, i, h, ⟨h1, h2⟩ => by
    have hi : i < 2 ^ 31 := by simp only [List.length_cons] at h; omega
    have o := own_ofn hi
    have q := elem_f (a := .int (Int32.ofNat i)) ev (Term.int_eval _) hat o.1
    rw [q, o.2] at h1
    exact ⟨h1, own_els ev hat vs (i + 1) (by simp only [List.length_cons] at h; omega) h2⟩
theorem own_starr {args : Array Value} {s : State} {t : Term} {a : Addr} {ty : FieldType} {z : Int32} {vs : List Value} {dv : Value} (hf : Fit s) (ev : t.eval args s none [] s = some (.ref a)) (ha : (Cond.arrayOf t ty).value args s none s [] = some true) (hl : (Cond.eq (.length t) (.int z)).value args s none s [] = some true)
    (hz : ¬ z < 0) (hlen : z.toNatClampNeg = vs.length) (he : own_Els args s t 0 vs) : ∃ k, Arv s s.heap a k ty z vs dv := by
  obtain ⟨cl, A⟩ := Arr.start ev ha
  have hat : s.arrayAt? a = some cl := A.fin (Vm.Alike.refl _)
  obtain ⟨x, y, e1, e2, -, k⟩ := cmp_v (Or.inl hl)
  obtain rfl : y = .int z := (Option.some.inj ((Term.int_eval z).symm.trans e2)).symm
  obtain ⟨w, rfl⟩ : ∃ w, x = .int w := k
  have hw : w = z := gotT (Cond.eq_ints e1 (Term.int_eval z)) hl
  subst hw
  have hs : cl.slots.size < 2 ^ 31 ∧ cl.slots.size.toInt32 = w := by
    have q := e1
    simp only [Term.eval, ev, hat, Option.bind_eq_bind, Option.bind_some] at q
    split at q
    · rename_i hq
      exact ⟨hq, by injection q with q; injection q⟩
    · cases q
  have hn := nat_of hz
  have r := rng32 w
  exact ⟨cl.cls, Arv.start hf A hs.1 hs.2 hz hlen (own_els ev hat vs 0 (by omega) he)⟩


def Mir0 (Z : State) (mr : Addr) : Prop := ∃ (c : ClassId) (k : Class), Z.vm.findClass "[Ljava/lang/Object;" = some c ∧ Z.vm.classes[c]? = some k ∧ k.mirror = some mr
section OwnMir
variable {p : Program} {l : Launch} {e : Env} {R : Room} {s : State} {m : MethodId} {args : Array Value} {below : List Frame} {meth : Method} {c : Code} {T : State} {locs : List Loc} {cells slots : Nat} {Z : State} {h : Heap} {a mr : Addr}
theorem own_mir (hZ : Z.Warmed39 s.vm) (M : Mir0 Z mr) : (Term.mirror "[Ljava/lang/Object;").eval args s none [] s = some (.ref mr) := by
  obtain ⟨c, k, h1, h2, h3⟩ := M
  obtain ⟨k', q, ek⟩ := hZ.alike.2.2 _ _ h2
  have f : s.vm.findClass "[Ljava/lang/Object;" = some c := by rw [hZ.alike.findClass]; exact h1
  have g : k'.mirror = some mr := by rw [ek]; exact h3
  simp [Term.eval, f, q, g]
theorem own_ldcM (X : Stand p l e R s m args below meth c T locs cells slots) (hx : p.tables.exec = Jvm.exec) (hZ : Z.Warmed39 s.vm) {a0 : Array Value} {own : String} {index : Nat} (hown : s.vm.findClass own = some m.cls) (w : (Cond.classLink own index "[Ljava/lang/Object;").before a0 Z = true) (M : Mir0 Z mr) (eT : T.heap = h)
    {g : JFrame} (hg : g.method = m) (hd : decode c.code g.pc = .ok (.ldc index, 2)) : ∃ T', Stand p l e R s m args below meth c T' locs cells slots ∧ T'.heap = h ∧ ∀ target, Steps p.tables e below (T'.setTop { g with pc := g.pc + 2, stack := .ref mr :: g.stack }) target → Steps p.tables e below (T.setTop g) target := by
  obtain ⟨vm', X', st⟩ := X.ldcMirror hx hown (mv hZ w) (own_mir hZ M) hg hd
  exact ⟨_, X', eT, st⟩
theorem own_getC (X : Stand p l e R s m args below meth c T locs cells slots) (hx : p.tables.exec = Jvm.exec) (hZ : Z.Warmed39 s.vm) {a0 : Array Value} {own : String} {index : Nat} (hown : s.vm.findClass own = some m.cls)
    (w1 : (Cond.methodLink own index ⟨"java/lang/Object", "getClass", "()Ljava/lang/Class;"⟩).before a0 Z = true) (w2 : (Cond.declares ⟨"java/lang/Object", "getClass", "()Ljava/lang/Class;"⟩).before a0 Z = true) (w4 : (Cond.selects "[Ljava/lang/Object;" ⟨"java/lang/Object", "getClass", "()Ljava/lang/Class;"⟩ ⟨"java/lang/Object", "getClass", "()Ljava/lang/Class;"⟩).before a0 Z = true)
    (w5 : (Cond.instanceMethod ⟨"java/lang/Object", "getClass", "()Ljava/lang/Class;"⟩).before a0 Z = true) (w6 : (Cond.native ⟨"java/lang/Object", "getClass", "()Ljava/lang/Class;"⟩).before a0 Z = true) (eT : T.heap = h) (E : Exa Z h a "[Ljava/lang/Object;") (M : Mir0 Z mr)
    {g : JFrame} (hg : g.method = m) (hsize : g.locals.size = c.maxLocals) {rest : List Value} (hs : g.stack = .ref a :: rest) (hd : decode c.code g.pc = .ok (.invokevirtual index, 3)) (hf : 1 ≤ R.frames) (hl : 2 * g.monitorRoom + (rest.map fun v => v.category).sum + (nativeFrameWords "java/lang/Object" "getClass" 1 + 11) ≤ R.locals) :
    ∃ T', Stand p l e R s m args below meth c T' locs cells slots ∧ T'.heap = h ∧ ∀ target, Steps p.tables e below (T'.setTop { g with pc := g.pc + 3, stack := .ref mr :: rest }) target → Steps p.tables e below (T.setTop g) target := by
  obtain ⟨cB, kB, i1, i2, i3⟩ := isOf hZ eT E
  obtain ⟨cc, kc, m1, m2, m3⟩ := M
  rw [hZ.alike.findClass] at i1
  cases i1.symm.trans m1
  obtain ⟨k', q, ek⟩ := hZ.alike.2.2 _ _ m2
  obtain ⟨vm', X', st⟩ := X.getClassOf hx hown (mvT hZ w1) (mvT hZ w2) (notFace_of_selects (args := #[]) (mvT hZ w4)) (mvT hZ w4) (mvT hZ w5) (mvT hZ w6) (by rw [hZ.alike.findClass]; exact m1) i3 q (by rw [ek]; exact m3) hg hsize hs hd hf hl
  exact ⟨_, X', eT, st⟩
end OwnMir

def Q1 (z : Int32) (h0 : Heap) (n0 : Nat) (v : Option Value) (h : Heap) (L : List Loc) : Prop := v = some (.int z) ∧ Fr n0 L ∧ h = h0

theorem d1_0 : decode jdk_29_method_65_code 0 = .ok (.iload_n 0, 1) := by decide +kernel
theorem d1_1 : decode jdk_29_method_65_code 1 = .ok (.iload_n 1, 1) := by decide +kernel
theorem d1_2 : decode jdk_29_method_65_code 2 = .ok (.if_icmp .lt 7, 3) := by decide +kernel
theorem d1_5 : decode jdk_29_method_65_code 5 = .ok (.iload_n 0, 1) := by decide +kernel
theorem d1_6 : decode jdk_29_method_65_code 6 = .ok (.goto 4, 3) := by decide +kernel
theorem d1_9 : decode jdk_29_method_65_code 9 = .ok (.iload_n 1, 1) := by decide +kernel
theorem d1_10 : decode jdk_29_method_65_code 10 = .ok (.ireturn, 1) := by decide +kernel
theorem ef1 (m : MethodId) (x0 : Int32) (x1 : Int32) : entryFrame m #[(.int x0), (.int x1)] 2 = mkF m 0 #[.val (.int x0), .val (.int x1)] [] := by first | (simp [entryFrame, mkF, argsToLocals, Value.category]; done) | rfl
set_option maxRecDepth 65536 in
set_option maxHeartbeats 40000000 in
theorem rm1 (l : Launch) (Z : State) (a0 : Array Value) (hw : ∀ d ∈ tables_1, d.before a0 Z = true) (ws : List Jvm.Cond) (p1 p2 z : Int32) (h0 : Heap) (n0 : Nat) (hz : (p1 < p2 → z = p2) ∧ (¬ p1 < p2 → z = p1)) :
    own_Met l (⟨"java/lang/Math", "max", "(II)I"⟩ : MethodName) jdk_29_method_65_code 2 (some .int) ws ({ frames := 0, cells := 0, slots := 0, locals := 0 } : Room) Z #[(.int p1), (.int p2)] h0 (Q1 z h0 n0) := by
  refine own_enter #[.val (.int p1), .val (.int p2)] (Jvm.Free.JP.mathPlain rfl (by decide +kernel)) (fun m => ef1 m p1 p2) ?_
  intro p e s m below meth c s₁ hx hby hml hown hnm hZ hrt hlk X0 e0
  have N0 := Fr.nil n0
  refine own_tp (.int p1) 1 (fun _ q => XS.iloadN X0.here hx rfl (hb hby d1_0) rfl q) ?_
  refine own_tp (.int p2) 2 (fun _ q => XS.iloadN X0.here hx rfl (hb hby d1_1) rfl q) ?_
  by_cases c51 : p1 < p2
  ·
    refine own_d2 9 (fun _ q => XS.icmpYes X0.here hx rfl (pc0 := 2) (pc' := 9) rfl (hb hby d1_2) rfl (tlt c51).1 (by decide) (by decide) q) ?_
    refine own_tp (.int p2) 10 (fun _ q => XS.iloadN X0.here hx rfl (hb hby d1_9) rfl q) ?_
    exact own_retI X0 hx hrt (hb hby d1_10) hlk (by decide) (by decide) e0 (⟨by rw [hz.1 c51], N0, rfl⟩)
  ·
    refine own_d2 5 (fun _ q => XS.icmpNo X0.here hx rfl (hb hby d1_2) rfl (flt c51).1 q) ?_
    refine own_tp (.int p1) 6 (fun _ q => XS.iloadN X0.here hx rfl (hb hby d1_5) rfl q) ?_
    refine own_d0 10 (fun _ q => XS.goto X0.here hx rfl (pc0 := 6) (pc' := 10) rfl (hb hby d1_6) (by decide) (by decide) q) ?_
    exact own_retI X0 hx hrt (hb hby d1_10) hlk (by decide) (by decide) e0 (⟨by rw [hz.2 c51], N0, rfl⟩)

def Q12 (z : Int32) (h0 : Heap) (n0 : Nat) (v : Option Value) (h : Heap) (L : List Loc) : Prop := v = some (.int z) ∧ Fr n0 L ∧ h = h0

theorem d12_0 : decode jdk_29_method_69_code 0 = .ok (.iload_n 0, 1) := by decide +kernel
theorem d12_1 : decode jdk_29_method_69_code 1 = .ok (.iload_n 1, 1) := by decide +kernel
theorem d12_2 : decode jdk_29_method_69_code 2 = .ok (.if_icmp .gt 7, 3) := by decide +kernel
theorem d12_5 : decode jdk_29_method_69_code 5 = .ok (.iload_n 0, 1) := by decide +kernel
theorem d12_6 : decode jdk_29_method_69_code 6 = .ok (.goto 4, 3) := by decide +kernel
theorem d12_9 : decode jdk_29_method_69_code 9 = .ok (.iload_n 1, 1) := by decide +kernel
theorem d12_10 : decode jdk_29_method_69_code 10 = .ok (.ireturn, 1) := by decide +kernel
theorem ef12 (m : MethodId) (x0 : Int32) (x1 : Int32) : entryFrame m #[(.int x0), (.int x1)] 2 = mkF m 0 #[.val (.int x0), .val (.int x1)] [] := by first | (simp [entryFrame, mkF, argsToLocals, Value.category]; done) | rfl
set_option maxRecDepth 65536 in
set_option maxHeartbeats 40000000 in
theorem rm12 (l : Launch) (Z : State) (a0 : Array Value) (hw : ∀ d ∈ tables_1, d.before a0 Z = true) (ws : List Jvm.Cond) (p1 p2 z : Int32) (h0 : Heap) (n0 : Nat) (hz : (p2 < p1 → z = p2) ∧ (¬ p2 < p1 → z = p1)) :
    own_Met l (⟨"java/lang/Math", "min", "(II)I"⟩ : MethodName) jdk_29_method_69_code 2 (some .int) ws ({ frames := 0, cells := 0, slots := 0, locals := 0 } : Room) Z #[(.int p1), (.int p2)] h0 (Q12 z h0 n0) := by
  refine own_enter #[.val (.int p1), .val (.int p2)] (Jvm.Free.JP.mathPlain rfl (by decide +kernel)) (fun m => ef12 m p1 p2) ?_
  intro p e s m below meth c s₁ hx hby hml hown hnm hZ hrt hlk X0 e0
  have N0 := Fr.nil n0
  refine own_tp (.int p1) 1 (fun _ q => XS.iloadN X0.here hx rfl (hb hby d12_0) rfl q) ?_
  refine own_tp (.int p2) 2 (fun _ q => XS.iloadN X0.here hx rfl (hb hby d12_1) rfl q) ?_
  by_cases c51 : p2 < p1
  ·
    refine own_d2 9 (fun _ q => XS.icmpYes X0.here hx rfl (pc0 := 2) (pc' := 9) rfl (hb hby d12_2) rfl (tlt c51).2.2.1 (by decide) (by decide) q) ?_
    refine own_tp (.int p2) 10 (fun _ q => XS.iloadN X0.here hx rfl (hb hby d12_9) rfl q) ?_
    exact own_retI X0 hx hrt (hb hby d12_10) hlk (by decide) (by decide) e0 (⟨by rw [hz.1 c51], N0, rfl⟩)
  ·
    refine own_d2 5 (fun _ q => XS.icmpNo X0.here hx rfl (hb hby d12_2) rfl (flt c51).2.2.1 q) ?_
    refine own_tp (.int p1) 6 (fun _ q => XS.iloadN X0.here hx rfl (hb hby d12_5) rfl q) ?_
    refine own_d0 10 (fun _ q => XS.goto X0.here hx rfl (pc0 := 6) (pc' := 10) rfl (hb hby d12_6) (by decide) (by decide) q) ?_
    exact own_retI X0 hx hrt (hb hby d12_10) hlk (by decide) (by decide) e0 (⟨by rw [hz.2 c51], N0, rfl⟩)

def Q2  (h0 : Heap) (n0 : Nat) (v : Option Value) (h : Heap) (L : List Loc) : Prop := v = none ∧ Fr n0 L ∧ h = h0

theorem d2_0 : decode jdk_22_method_1_code 0 = .ok (.aload_n 0, 1) := by decide +kernel
theorem d2_1 : decode jdk_22_method_1_code 1 = .ok (.invokespecial 1, 3) := by decide +kernel
theorem d2_4 : decode jdk_22_method_1_code 4 = .ok (.return_, 1) := by decide +kernel
theorem pn2 : plainName "java/util/AbstractCollection" = true := by first | (simp [plainName, overriddenIn]; done) | decide +kernel
theorem ef2 (m : MethodId) (x0 : Addr) : entryFrame m #[(.ref x0)] 1 = mkF m 0 #[.val (.ref x0)] [] := by first | (simp [entryFrame, mkF, argsToLocals, Value.category]; done) | rfl
set_option maxRecDepth 65536 in
set_option maxHeartbeats 40000000 in
theorem rm2 (l : Launch) (Z : State) (a0 : Array Value) (hw : ∀ d ∈ tables_1, d.before a0 Z = true) (ws : List Jvm.Cond) (a1 : Addr) (h0 : Heap) (n0 : Nat)  :
    own_Met l (⟨"java/util/AbstractCollection", "<init>", "()V"⟩ : MethodName) jdk_22_method_1_code 1 none ws ({ frames := 1, cells := 0, slots := 0, locals := 12 } : Room) Z #[(.ref a1)] h0 (Q2 h0 n0) := by
  refine own_enter #[.val (.ref a1)] (plainFor_of_name pn2) (fun m => ef2 m a1) ?_
  intro p e s m below meth c s₁ hx hby hml hown hnm hZ hrt hlk X0 e0
  have N0 := Fr.nil n0
  refine own_tp (.ref a1) 1 (fun _ q => XS.aloadN X0.here hx rfl (hb hby d2_0) rfl rfl q) ?_
  obtain ⟨T51, X51, e51, st51⟩ := initO X0 hx hZ hown (hw _ (List.mem_of_getElem? (i := 18) rfl)) (hw _ (List.mem_of_getElem? (i := 19) rfl)) (hw _ (List.mem_of_getElem? (i := 20) rfl)) e0 (g := (mkF m 1 #[.val (.ref a1)] [(.ref a1)])) rfl (by rw [hml]; rfl) rfl (hb hby d2_1) (by decide) (W := 0) (by show 2 * 0 + _ ≤ _; exact Nat.le_of_eq rfl) (by decide)
  refine own_d1 4 st51 ?_
  exact own_retV X51 hx hrt (hb hby d2_4) hlk (by decide) (by decide) e51 (⟨rfl, N0, rfl⟩)

def Q3 (Z : State) (a1 : Addr) (h0 : Heap) (n0 : Nat) (v : Option Value) (h : Heap) (L : List Loc) : Prop := v = none ∧ Fr n0 L ∧ Old Z n0 h ∧ Exa Z h a1 "java/util/ArrayList" ∧ Fld Z h a1 "java/util/ArrayList" "elementData" "[Ljava/lang/Object;" .null ∧ Fld Z h a1 "java/util/ArrayList" "size" "I" (.int (0 : Int32)) ∧ Fld Z h a1 "java/util/AbstractList" "modCount" "I" (.int (0 : Int32))

theorem d3_0 : decode jdk_39_method_1_code 0 = .ok (.aload_n 0, 1) := by decide +kernel
theorem d3_1 : decode jdk_39_method_1_code 1 = .ok (.invokespecial 1, 3) := by decide +kernel
theorem d3_4 : decode jdk_39_method_1_code 4 = .ok (.aload_n 0, 1) := by decide +kernel
theorem d3_5 : decode jdk_39_method_1_code 5 = .ok (.iconst 0, 1) := by decide +kernel
theorem d3_6 : decode jdk_39_method_1_code 6 = .ok (.putfield 7, 3) := by decide +kernel
theorem d3_9 : decode jdk_39_method_1_code 9 = .ok (.return_, 1) := by decide +kernel
theorem pn3 : plainName "java/util/AbstractList" = true := by first | (simp [plainName, overriddenIn]; done) | decide +kernel
theorem pd3_0 : parseMethodDescriptor "()V" = some ⟨[], none⟩ := by decide +kernel
theorem ef3 (m : MethodId) (x0 : Addr) : entryFrame m #[(.ref x0)] 1 = mkF m 0 #[.val (.ref x0)] [] := by first | (simp [entryFrame, mkF, argsToLocals, Value.category]; done) | rfl
set_option maxRecDepth 65536 in
set_option maxHeartbeats 40000000 in
theorem rm3 (l : Launch) (Z : State) (a0 : Array Value) (hw : ∀ d ∈ tables_1, d.before a0 Z = true) (ws : List Jvm.Cond) (a1 : Addr) (h0 : Heap) (n0 : Nat) (O0 : Old Z n0 h0) (E1 : Exa Z h0 a1 "java/util/ArrayList") (Fe : Fld Z h0 a1 "java/util/ArrayList" "elementData" "[Ljava/lang/Object;" .null) (Fs : Fld Z h0 a1 "java/util/ArrayList" "size" "I" (.int (0 : Int32))) (Fg : Fld Z h0 a1 "java/util/AbstractList" "modCount" "I" (.int (0 : Int32))) (ga : n0 ≤ a1) :
    own_Met l (⟨"java/util/AbstractList", "<init>", "()V"⟩ : MethodName) jdk_39_method_1_code 1 none ws ({ frames := 2, cells := 0, slots := 0, locals := 24 } : Room) Z #[(.ref a1)] h0 (Q3 Z a1 h0 n0) := by
  refine own_enter #[.val (.ref a1)] (plainFor_of_name pn3) (fun m => ef3 m a1) ?_
  intro p e s m below meth c s₁ hx hby hml hown hnm hZ hrt hlk X0 e0
  have N0 := Fr.nil n0
  refine own_tp (.ref a1) 1 (fun _ q => XS.aloadN X0.here hx rfl (hb hby d3_0) rfl rfl q) ?_
  obtain ⟨_, _, ⟨T51, L51, k51, n51⟩, -, X51, ⟨Lc51, hQ51, l51, y51, z51⟩, st51⟩ := X0.specialBack hx (y := (⟨"java/util/AbstractCollection", "<init>", "()V"⟩ : MethodName)) rfl hown (mvT hZ (hw _ (List.mem_of_getElem? (i := 12) rfl))) (mvT hZ (hw _ (List.mem_of_getElem? (i := 13) rfl))) (mvT hZ (hw _ (List.mem_of_getElem? (i := 17) rfl))) (by decide) (backOf (W := 0) (rm2 l Z a0 hw [] a1 h0 n0) hZ (hw _ (List.mem_of_getElem? (i := 17) rfl)) (hw _ (List.mem_of_getElem? (i := 16) rfl)) (by decide) (by decide)) (g := (mkF m 1 #[.val (.ref a1)] [(.ref a1)])) rfl (by rw [hml]; rfl) (Steps.refl _) (a := a1) (argsL := []) (rest := []) (lenOf pd3_0 rfl) rfl (by show 2 * 0 + _ ≤ _; exact Nat.le_of_eq rfl) (hb hby d3_1) (fun _ _ => ⟨rfl, e0, (by decide : 0 + 0 ≤ _), (by decide : 0 + 0 ≤ _)⟩)
  dsimp only [Pt.U, Pt.locs, Pt.cells, Pt.slots] at X51 l51 y51 z51 st51 hQ51
  subst l51 y51 z51
  obtain ⟨rfl, Nq51, eq51⟩ := hQ51
  have N51 := Fr.app N0 Nq51
  refine own_csR [] 4 st51 ?_
  refine own_tp (.ref a1) 5 (fun _ q => XS.aloadN X51.here hx rfl (hb hby d3_4) rfl rfl q) ?_
  refine own_tp (.int (0 : Int32)) 6 (fun _ q => XS.iconst X51.here hx rfl (hb hby d3_5) q) ?_
  obtain ⟨T52, h52, X52, e52, W52, st52⟩ := putF X51 hx hZ hown (host := "") (Or.inl (hw _ (List.mem_of_getElem? (i := 21) rfl))) Via.refl eq51 Fg E1 (Or.inl (hw _ (List.mem_of_getElem? (i := 22) rfl))) (hw _ (List.mem_of_getElem? (i := 1) rfl)) (ty := .int) (by decide) rfl rfl (g := (mkF m 6 #[.val (.ref a1)] [(.int (0 : Int32)), (.ref a1)])) rfl rfl (hb hby d3_6)
  have Fw52 := Fg.same W52
  have N52 := Fr.snoc X52 N51 ga
  have O52 := Old.wr O0 W52 ga
  refine own_d2 9 st52 ?_
  have f53 := (E1.wr W52)
  have f54 := (Fe.other W52 (Or.inr (slot_ne (Or.inl (hw _ (List.mem_of_getElem? (i := 25) rfl))) (Or.inl (hw _ (List.mem_of_getElem? (i := 22) rfl))) (by decide) (t := (.array (.object "java/lang/Object"))) (t' := .int) (by decide) (by decide))))
  have f55 := (Fs.other W52 (Or.inr (slot_ne (Or.inl (hw _ (List.mem_of_getElem? (i := 45) rfl))) (Or.inl (hw _ (List.mem_of_getElem? (i := 22) rfl))) (by decide) (t := .int) (t' := .int) (by decide) (by decide))))
  exact own_retV X52 hx hrt (hb hby d3_9) hlk (by decide) (by decide) e52 (⟨rfl, N52, O52, f53, f54, f55, Fw52⟩)

def Q4 (Z : State) (a1 ad : Addr) (h0 : Heap) (n0 : Nat) (v : Option Value) (h : Heap) (L : List Loc) : Prop := v = none ∧ Fr n0 L ∧ Old Z n0 h ∧ own_L0 Z n0 h a1 ad (0 : Int32)

theorem d4_0 : decode jdk_38_method_2_code 0 = .ok (.aload_n 0, 1) := by decide +kernel
theorem d4_1 : decode jdk_38_method_2_code 1 = .ok (.invokespecial 1, 3) := by decide +kernel
theorem d4_4 : decode jdk_38_method_2_code 4 = .ok (.aload_n 0, 1) := by decide +kernel
theorem d4_5 : decode jdk_38_method_2_code 5 = .ok (.getstatic 39, 3) := by decide +kernel
theorem d4_8 : decode jdk_38_method_2_code 8 = .ok (.putfield 9, 3) := by decide +kernel
theorem d4_11 : decode jdk_38_method_2_code 11 = .ok (.return_, 1) := by decide +kernel
theorem pn4 : plainName "java/util/ArrayList" = true := by first | (simp [plainName, overriddenIn]; done) | decide +kernel
theorem pd4_0 : parseMethodDescriptor "()V" = some ⟨[], none⟩ := by decide +kernel
theorem ef4 (m : MethodId) (x0 : Addr) : entryFrame m #[(.ref x0)] 1 = mkF m 0 #[.val (.ref x0)] [] := by first | (simp [entryFrame, mkF, argsToLocals, Value.category]; done) | rfl
set_option maxRecDepth 65536 in
set_option maxHeartbeats 40000000 in
theorem rm4 (l : Launch) (Z : State) (a0 : Array Value) (hw : ∀ d ∈ tables_1, d.before a0 Z = true) (ws : List Jvm.Cond) (a1 : Addr) (h0 : Heap) (n0 : Nat) (O0 : Old Z n0 h0) (E1 : Exa Z h0 a1 "java/util/ArrayList") (Fe : Fld Z h0 a1 "java/util/ArrayList" "elementData" "[Ljava/lang/Object;" .null) (Fs : Fld Z h0 a1 "java/util/ArrayList" "size" "I" (.int (0 : Int32))) (Fg : Fld Z h0 a1 "java/util/AbstractList" "modCount" "I" (.int (0 : Int32))) (ga : n0 ≤ a1) (ad : Addr) (kd : ClassId) (Sd : Sta Z Z.heap "java/util/ArrayList" "DEFAULTCAPACITY_EMPTY_ELEMENTDATA" "[Ljava/lang/Object;" (.ref ad)) (Vd : Arv Z Z.heap ad kd (.object "java/lang/Object") (0 : Int32) [] .null) :
    own_Met l (⟨"java/util/ArrayList", "<init>", "()V"⟩ : MethodName) jdk_38_method_2_code 1 none ws ({ frames := 3, cells := 0, slots := 0, locals := 36 } : Room) Z #[(.ref a1)] h0 (Q4 Z a1 ad h0 n0) := by
  refine own_enter #[.val (.ref a1)] (plainFor_of_name pn4) (fun m => ef4 m a1) ?_
  intro p e s m below meth c s₁ hx hby hml hown hnm hZ hrt hlk X0 e0
  have N0 := Fr.nil n0
  refine own_tp (.ref a1) 1 (fun _ q => XS.aloadN X0.here hx rfl (hb hby d4_0) rfl rfl q) ?_
  obtain ⟨_, _, ⟨T51, L51, k51, n51⟩, -, X51, ⟨Lc51, hQ51, l51, y51, z51⟩, st51⟩ := X0.specialBack hx (y := (⟨"java/util/AbstractList", "<init>", "()V"⟩ : MethodName)) rfl hown (mvT hZ (hw _ (List.mem_of_getElem? (i := 6) rfl))) (mvT hZ (hw _ (List.mem_of_getElem? (i := 7) rfl))) (mvT hZ (hw _ (List.mem_of_getElem? (i := 11) rfl))) (by decide) (backOf (W := 0) (rm3 l Z a0 hw [] a1 h0 n0 O0 E1 Fe Fs Fg ga) hZ (hw _ (List.mem_of_getElem? (i := 11) rfl)) (hw _ (List.mem_of_getElem? (i := 10) rfl)) (by decide) (by decide)) (g := (mkF m 1 #[.val (.ref a1)] [(.ref a1)])) rfl (by rw [hml]; rfl) (Steps.refl _) (a := a1) (argsL := []) (rest := []) (lenOf pd4_0 rfl) rfl (by show 2 * 0 + _ ≤ _; exact Nat.le_of_eq rfl) (hb hby d4_1) (fun _ _ => ⟨rfl, e0, (by decide : 0 + 0 ≤ _), (by decide : 0 + 0 ≤ _)⟩)
  dsimp only [Pt.U, Pt.locs, Pt.cells, Pt.slots] at X51 l51 y51 z51 st51 hQ51
  subst l51 y51 z51
  obtain ⟨rfl, Nq51, O51, E51, Fe51, Fs51, Fg51⟩ := hQ51
  have N51 := Fr.app N0 Nq51
  refine own_csR [] 4 st51 ?_
  refine own_tp (.ref a1) 5 (fun _ q => XS.aloadN X51.here hx rfl (hb hby d4_4) rfl rfl q) ?_
  obtain ⟨T52, X52, e52, st52⟩ := getS2 X51 hx hZ hown (host := "") (Or.inl (hw _ (List.mem_of_getElem? (i := 23) rfl))) Via.refl rfl (Sd.ext O51.2) (g := (mkF m 5 #[.val (.ref a1)] [(.ref a1)])) rfl (hb hby d4_5)
  refine own_tp (.ref ad) 8 st52 ?_
  obtain ⟨T53, h53, X53, e53, W53, st53⟩ := putF X52 hx hZ hown (host := "") (Or.inl (hw _ (List.mem_of_getElem? (i := 24) rfl))) Via.refl e52 Fe51 E51 (Or.inl (hw _ (List.mem_of_getElem? (i := 25) rfl))) (hw _ (List.mem_of_getElem? (i := 1) rfl)) (ty := (.array (.object "java/lang/Object"))) (by decide) rfl rfl (g := (mkF m 8 #[.val (.ref a1)] [(.ref ad), (.ref a1)])) rfl rfl (hb hby d4_8)
  have Fw53 := Fe51.same W53
  have N53 := Fr.snoc X53 N51 ga
  have O53 := Old.wr O51 W53 ga
  refine own_d2 11 st53 ?_
  have f54 := (E51.wr W53)
  have f55 := (Fs51.other W53 (Or.inr (slot_ne (Or.inl (hw _ (List.mem_of_getElem? (i := 45) rfl))) (Or.inl (hw _ (List.mem_of_getElem? (i := 25) rfl))) (by decide) (t := .int) (t' := (.array (.object "java/lang/Object"))) (by decide) (by decide))))
  have f56 := (Fg51.other W53 (Or.inr (slot_ne (Or.inl (hw _ (List.mem_of_getElem? (i := 22) rfl))) (Or.inl (hw _ (List.mem_of_getElem? (i := 25) rfl))) (by decide) (t := .int) (t' := (.array (.object "java/lang/Object"))) (by decide) (by decide))))
  exact own_retV X53 hx hrt (hb hby d4_11) hlk (by decide) (by decide) e53 (⟨rfl, N53, O53, f54, Fw53, f55, f56, ga⟩)

def Q5 (Z : State) (a1 x1 : Addr) (z1 g1 : Int32) (h0 : Heap) (n0 : Nat) (v : Option Value) (h : Heap) (L : List Loc) : Prop := ∃ (b : Addr) (k : ClassId), v = some (.ref b) ∧ Fr n0 L ∧ Old Z n0 h ∧ own_L Z n0 h a1 b k (0 : Int32) g1 (10 : Int32) [.null, .null, .null, .null, .null, .null, .null, .null, .null, .null]

theorem d5_0 : decode jdk_38_method_6_code 0 = .ok (.aload_n 0, 1) := by decide +kernel
theorem d5_1 : decode jdk_38_method_6_code 1 = .ok (.getfield 9, 3) := by decide +kernel
theorem d5_4 : decode jdk_38_method_6_code 4 = .ok (.arraylength, 1) := by decide +kernel
theorem d5_5 : decode jdk_38_method_6_code 5 = .ok (.istore_n 2, 1) := by decide +kernel
theorem d5_6 : decode jdk_38_method_6_code 6 = .ok (.iload_n 2, 1) := by decide +kernel
theorem d5_7 : decode jdk_38_method_6_code 7 = .ok (.ifCond .gt 13, 3) := by decide +kernel
theorem d5_10 : decode jdk_38_method_6_code 10 = .ok (.aload_n 0, 1) := by decide +kernel
theorem d5_11 : decode jdk_38_method_6_code 11 = .ok (.getfield 9, 3) := by decide +kernel
theorem d5_14 : decode jdk_38_method_6_code 14 = .ok (.getstatic 39, 3) := by decide +kernel
theorem d5_17 : decode jdk_38_method_6_code 17 = .ok (.if_acmp .eq 28, 3) := by decide +kernel
theorem d5_45 : decode jdk_38_method_6_code 45 = .ok (.aload_n 0, 1) := by decide +kernel
theorem d5_46 : decode jdk_38_method_6_code 46 = .ok (.bipush 10, 2) := by decide +kernel
theorem d5_48 : decode jdk_38_method_6_code 48 = .ok (.iload_n 1, 1) := by decide +kernel
theorem d5_49 : decode jdk_38_method_6_code 49 = .ok (.invokestatic 79, 3) := by decide +kernel
theorem d5_52 : decode jdk_38_method_6_code 52 = .ok (.anewarray 7, 3) := by decide +kernel
theorem d5_55 : decode jdk_38_method_6_code 55 = .ok (.dup_x1, 1) := by decide +kernel
theorem d5_56 : decode jdk_38_method_6_code 56 = .ok (.putfield 9, 3) := by decide +kernel
theorem d5_59 : decode jdk_38_method_6_code 59 = .ok (.areturn, 1) := by decide +kernel
theorem pn5 : plainName "java/util/ArrayList" = true := by first | (simp [plainName, overriddenIn]; done) | decide +kernel
theorem pd5_0 : parseMethodDescriptor "(II)I" = some ⟨[.int, .int], some .int⟩ := by decide +kernel
theorem ef5 (m : MethodId) (x0 : Addr) (x1 : Int32) : entryFrame m #[(.ref x0), (.int x1)] 4 = mkF m 0 #[.val (.ref x0), .val (.int x1), .unset, .unset] [] := by first | (simp [entryFrame, mkF, argsToLocals, Value.category]; done) | rfl
set_option maxRecDepth 65536 in
set_option maxHeartbeats 40000000 in
theorem rm5 (l : Launch) (Z : State) (a0 : Array Value) (hw : ∀ d ∈ tables_1, d.before a0 Z = true) (ws : List Jvm.Cond) (a1 : Addr) (g1 : Int32) (ad : Addr) (h0 : Heap) (n0 : Nat) (O0 : Old Z n0 h0) (LL : own_L0 Z n0 h0 a1 ad g1) (kd : ClassId) (Sd : Sta Z Z.heap "java/util/ArrayList" "DEFAULTCAPACITY_EMPTY_ELEMENTDATA" "[Ljava/lang/Object;" (.ref ad)) (Vd : Arv Z Z.heap ad kd (.object "java/lang/Object") (0 : Int32) [] .null) :
    own_Met l (⟨"java/util/ArrayList", "grow", "(I)[Ljava/lang/Object;"⟩ : MethodName) jdk_38_method_6_code 4 (some (.array (.object "java/lang/Object"))) ws ({ frames := 1, cells := 1, slots := 10, locals := 14 } : Room) Z #[(.ref a1), (.int (1 : Int32))] h0 (Q5 Z a1 a1 0 g1 h0 n0) := by
  refine own_enter #[.val (.ref a1), .val (.int (1 : Int32)), .unset, .unset] (plainFor_of_name pn5) (fun m => ef5 m a1 (1 : Int32)) ?_
  intro p e s m below meth c s₁ hx hby hml hown hnm hZ hrt hlk X0 e0
  have N0 := Fr.nil n0
  obtain ⟨Ea51, Fe51, Fs51, Fg51, ga51⟩ := LL
  refine own_tp (.ref a1) 1 (fun _ q => XS.aloadN X0.here hx rfl (hb hby d5_0) rfl rfl q) ?_
  obtain ⟨T52, X52, e52, st52⟩ := getF X0 hx hZ hown (host := "") (Or.inl (hw _ (List.mem_of_getElem? (i := 24) rfl))) Via.refl e0 Fe51 (g := (mkF m 1 #[.val (.ref a1), .val (.int (1 : Int32)), .unset, .unset] [(.ref a1)])) rfl rfl (hb hby d5_1)
  refine own_t1 (.ref ad) 4 st52 ?_
  obtain ⟨cl53, Ar53, -, Sz53, Nn53, -, -⟩ := (id (Vd.ext O0.2))
  refine own_t1 (.int (0 : Int32)) 5 (fun t q => X52.arraylength hx (by rw [e52]; exact Ar53.1) (State.isArrayOf_alike hZ.alike Ar53.2.1) (g := (mkF m 4 #[.val (.ref a1), .val (.int (1 : Int32)), .unset, .unset] [(.ref ad)])) rfl rfl (hb hby d5_4) _ (by rw [len_of Sz53 Nn53]; exact q)) ?_
  refine own_ls #[.val (.ref a1), .val (.int (1 : Int32)), .val (.int (0 : Int32)), .unset] 6 (fun _ q => XS.istoreN X52.here hx rfl (hb hby d5_5) rfl (l' := #[.val (.ref a1), .val (.int (1 : Int32)), .val (.int (0 : Int32)), .unset]) rfl q) ?_
  refine own_tp (.int (0 : Int32)) 7 (fun _ q => XS.iloadN X52.here hx rfl (hb hby d5_6) rfl q) ?_
  refine own_d1 10 (fun _ q => XS.ifNo X52.here hx rfl (hb hby d5_7) rfl ((if0 _ _).trans (flt (by decide : ¬ ((0 : Int32) < (0 : Int32)))).2.2.1) q) ?_
  refine own_tp (.ref a1) 11 (fun _ q => XS.aloadN X52.here hx rfl (hb hby d5_10) rfl rfl q) ?_
  obtain ⟨T54, X54, e54, st54⟩ := getF X52 hx hZ hown (host := "") (Or.inl (hw _ (List.mem_of_getElem? (i := 24) rfl))) Via.refl e52 Fe51 (g := (mkF m 11 #[.val (.ref a1), .val (.int (1 : Int32)), .val (.int (0 : Int32)), .unset] [(.ref a1)])) rfl rfl (hb hby d5_11)
  refine own_t1 (.ref ad) 14 st54 ?_
  obtain ⟨T55, X55, e55, st55⟩ := getS2 X54 hx hZ hown (host := "") (Or.inl (hw _ (List.mem_of_getElem? (i := 23) rfl))) Via.refl e54 (Sd.ext O0.2) (g := (mkF m 14 #[.val (.ref a1), .val (.int (1 : Int32)), .val (.int (0 : Int32)), .unset] [(.ref ad)])) rfl (hb hby d5_14)
  refine own_tp (.ref ad) 17 st55 ?_
  refine own_d2 45 (fun _ q => Jvm.RoadKit.acmp (g := (mkF m 17 #[.val (.ref a1), .val (.int (1 : Int32)), .val (.int (0 : Int32)), .unset] [(.ref ad), (.ref ad)])) X55 hx rfl rfl rfl (pc0 := 17) (pc' := 45) (same := true) rfl (hb hby d5_17) rfl (decide_eq_true rfl) (by decide) (by decide) q) ?_
  refine own_tp (.ref a1) 46 (fun _ q => XS.aloadN X55.here hx rfl (hb hby d5_45) rfl rfl q) ?_
  refine own_tp (.int (10 : Int32)) 48 (fun _ q => XS.bipush X55.here hx rfl (hb hby d5_46) q) ?_
  refine own_tp (.int (1 : Int32)) 49 (fun _ q => XS.iloadN X55.here hx rfl (hb hby d5_48) rfl q) ?_
  obtain ⟨_, _, ⟨T56, L56, k56, n56⟩, -, X56, ⟨Lc56, hQ56, l56, y56, z56⟩, st56⟩ := Jvm.LawKit.callS X55 hx (y := (⟨"java/lang/Math", "max", "(II)I"⟩ : MethodName)) hown (mvT hZ (hw _ (List.mem_of_getElem? (i := 61) rfl))) (mvT hZ (hw _ (List.mem_of_getElem? (i := 62) rfl))) (mvT hZ (hw _ (List.mem_of_getElem? (i := 63) rfl))) (mvT hZ (hw _ (List.mem_of_getElem? (i := 64) rfl))) (by decide) (backOf (W := 1) (rm1 l Z a0 hw [] (10 : Int32) (1 : Int32) (10 : Int32) h0 n0 (by decide)) hZ (hw _ (List.mem_of_getElem? (i := 64) rfl)) (hw _ (List.mem_of_getElem? (i := 63) rfl)) (by decide) (by decide)) (g := (mkF m 49 #[.val (.ref a1), .val (.int (1 : Int32)), .val (.int (0 : Int32)), .unset] [(.int (1 : Int32)), (.int (10 : Int32)), (.ref a1)])) rfl (by rw [hml]; rfl) (argsL := [(.int (10 : Int32)), (.int (1 : Int32))]) (rest := [(.ref a1)]) (lenOf pd5_0 rfl) rfl (by show 2 * 0 + _ ≤ _; exact Nat.le_of_eq rfl) (hb hby d5_49) (fun _ _ => ⟨rfl, e55, (by decide : 0 + 0 ≤ _), (by decide : 0 + 0 ≤ _)⟩)
  dsimp only [Pt.U, Pt.locs, Pt.cells, Pt.slots] at X56 l56 y56 z56 st56 hQ56
  subst l56 y56 z56
  obtain ⟨rfl, Nq56, eq56⟩ := hQ56
  have N56 := Fr.app N0 Nq56
  refine own_d1 52 st56 ?_
  obtain ⟨T57, h57, k57, X57, e57, E57, A57, Ea57, Ov57, st57⟩ := newRE X56 hx hZ hown (hw _ (List.mem_of_getElem? (i := 65) rfl)) (hw _ (List.mem_of_getElem? (i := 66) rfl)) eq56 (g := (mkF m 52 #[.val (.ref a1), .val (.int (1 : Int32)), .val (.int (0 : Int32)), .unset] [(.int (10 : Int32)), (.ref a1)])) rfl (hb hby d5_52) rfl (by decide) (cap := 10) (by decide) (by decide) (by decide) (by decide) (ad := "[Ljava/lang/Object;") rfl
  obtain ⟨b57, g57⟩ : ∃ z, z = h0.size := ⟨_, rfl⟩
  rw [← g57] at A57 Ea57 st57
  have V57 : Arv Z h57 b57 k57 (.object "java/lang/Object") (10 : Int32) [.null, .null, .null, .null, .null, .null, .null, .null, .null, .null] .null := (Arv.new A57 (by decide)).pad (pad_rep [] .null 10)
  have ge57 : n0 ≤ b57 := Nat.le_trans (Nat.le_trans ga51 (Nat.le_of_lt Ea51.lt)) (Nat.le_of_eq g57.symm)
  have ne58 : a1 ≠ b57 := Nat.ne_of_lt (Nat.lt_of_lt_of_le Ea51.lt (Nat.le_of_eq g57.symm))
  have O57 := Old.ext O0 E57
  have Z57 : n0 ≤ h57.size := Nat.le_trans (Nat.le_trans ga51 (Nat.le_of_lt Ea51.lt)) E57.1
  refine own_t1 (.ref b57) 55 st57 ?_
  refine own_cs [(.ref b57), (.ref a1), (.ref b57)] 56 (fun _ q => XS.dupX1 X57.here hx rfl (hb hby d5_55) rfl rfl rfl q) ?_
  have f59 := (Fe51.ext E57)
  have f60 := (Ea51.ext E57)
  obtain ⟨T61, h61, X61, e61, W61, st61⟩ := putF X57 hx hZ hown (host := "") (Or.inl (hw _ (List.mem_of_getElem? (i := 24) rfl))) Via.refl e57 f59 f60 (Or.inl (hw _ (List.mem_of_getElem? (i := 25) rfl))) (hw _ (List.mem_of_getElem? (i := 1) rfl)) (ty := (.array (.object "java/lang/Object"))) (by decide) rfl rfl (g := (mkF m 56 #[.val (.ref a1), .val (.int (1 : Int32)), .val (.int (0 : Int32)), .unset] [(.ref b57), (.ref a1), (.ref b57)])) rfl rfl (hb hby d5_56)
  have Fw61 := f59.same W61
  have N61 := Fr.snoc X61 N56 ga51
  have O61 := Old.wr O57 W61 ga51
  have Z61 : n0 ≤ h61.size := Nat.le_trans Z57 (Nat.le_of_eq W61.size.symm)
  refine own_d2 59 st61 ?_
  have f62 := (f60.wr W61)
  have f63 := ((Fs51.ext E57).other W61 (Or.inr (slot_ne (Or.inl (hw _ (List.mem_of_getElem? (i := 45) rfl))) (Or.inl (hw _ (List.mem_of_getElem? (i := 25) rfl))) (by decide) (t := .int) (t' := (.array (.object "java/lang/Object"))) (by decide) (by decide))))
  have f64 := ((Fg51.ext E57).other W61 (Or.inr (slot_ne (Or.inl (hw _ (List.mem_of_getElem? (i := 22) rfl))) (Or.inl (hw _ (List.mem_of_getElem? (i := 25) rfl))) (by decide) (t := .int) (t' := (.array (.object "java/lang/Object"))) (by decide) (by decide))))
  have f65 := (V57.other W61 (Ne.symm ne58))
  have f66 := (Ea57.wr W61)
  exact own_retR X61 hx hrt (hb hby d5_59) rfl rfl hlk (by decide) (by decide) e61 (⟨b57, k57, rfl, N61, O61, ⟨f62, Fw61, f63, f64, f65, Ov57, f66, ga51, ge57, ne58⟩⟩)

def Q6 (Z : State) (a1 x1 : Addr) (z1 g1 : Int32) (h0 : Heap) (n0 : Nat) (v : Option Value) (h : Heap) (L : List Loc) : Prop := ∃ (b : Addr) (k : ClassId), v = some (.ref b) ∧ Fr n0 L ∧ Old Z n0 h ∧ own_L Z n0 h a1 b k (0 : Int32) g1 (10 : Int32) [.null, .null, .null, .null, .null, .null, .null, .null, .null, .null]

theorem d6_0 : decode jdk_38_method_7_code 0 = .ok (.aload_n 0, 1) := by decide +kernel
theorem d6_1 : decode jdk_38_method_7_code 1 = .ok (.aload_n 0, 1) := by decide +kernel
theorem d6_2 : decode jdk_38_method_7_code 2 = .ok (.getfield 48, 3) := by decide +kernel
theorem d6_5 : decode jdk_38_method_7_code 5 = .ok (.iconst 1, 1) := by decide +kernel
theorem d6_6 : decode jdk_38_method_7_code 6 = .ok (.iadd, 1) := by decide +kernel
theorem d6_7 : decode jdk_38_method_7_code 7 = .ok (.invokevirtual 69, 3) := by decide +kernel
theorem d6_10 : decode jdk_38_method_7_code 10 = .ok (.areturn, 1) := by decide +kernel
theorem pn6 : plainName "java/util/ArrayList" = true := by first | (simp [plainName, overriddenIn]; done) | decide +kernel
theorem pd6_0 : parseMethodDescriptor "(I)[Ljava/lang/Object;" = some ⟨[.int], some (.array (.object "java/lang/Object"))⟩ := by decide +kernel
theorem ef6 (m : MethodId) (x0 : Addr) : entryFrame m #[(.ref x0)] 1 = mkF m 0 #[.val (.ref x0)] [] := by first | (simp [entryFrame, mkF, argsToLocals, Value.category]; done) | rfl
set_option maxRecDepth 65536 in
set_option maxHeartbeats 40000000 in
theorem rm6 (l : Launch) (Z : State) (a0 : Array Value) (hw : ∀ d ∈ tables_1, d.before a0 Z = true) (ws : List Jvm.Cond) (a1 : Addr) (g1 : Int32) (ad : Addr) (h0 : Heap) (n0 : Nat) (O0 : Old Z n0 h0) (LL : own_L0 Z n0 h0 a1 ad g1) (kd : ClassId) (Sd : Sta Z Z.heap "java/util/ArrayList" "DEFAULTCAPACITY_EMPTY_ELEMENTDATA" "[Ljava/lang/Object;" (.ref ad)) (Vd : Arv Z Z.heap ad kd (.object "java/lang/Object") (0 : Int32) [] .null) :
    own_Met l (⟨"java/util/ArrayList", "grow", "()[Ljava/lang/Object;"⟩ : MethodName) jdk_38_method_7_code 1 (some (.array (.object "java/lang/Object"))) ws ({ frames := 2, cells := 1, slots := 10, locals := 29 } : Room) Z #[(.ref a1)] h0 (Q6 Z a1 a1 0 g1 h0 n0) := by
  refine own_enter #[.val (.ref a1)] (plainFor_of_name pn6) (fun m => ef6 m a1) ?_
  intro p e s m below meth c s₁ hx hby hml hown hnm hZ hrt hlk X0 e0
  have N0 := Fr.nil n0
  obtain ⟨Ea51, Fe51, Fs51, Fg51, ga51⟩ := LL
  refine own_tp (.ref a1) 1 (fun _ q => XS.aloadN X0.here hx rfl (hb hby d6_0) rfl rfl q) ?_
  refine own_tp (.ref a1) 2 (fun _ q => XS.aloadN X0.here hx rfl (hb hby d6_1) rfl rfl q) ?_
  obtain ⟨T52, X52, e52, st52⟩ := getF X0 hx hZ hown (host := "") (Or.inl (hw _ (List.mem_of_getElem? (i := 44) rfl))) Via.refl e0 Fs51 (g := (mkF m 2 #[.val (.ref a1)] [(.ref a1), (.ref a1)])) rfl rfl (hb hby d6_2)
  refine own_t1 (.int (0 : Int32)) 5 st52 ?_
  refine own_tp (.int (1 : Int32)) 6 (fun _ q => XS.iconst X52.here hx rfl (hb hby d6_5) q) ?_
  refine own_t2 (.int (1 : Int32)) 7 (fun _ q => XS.iadd X52.here hx rfl (hb hby d6_6) rfl q) ?_
  obtain ⟨cq53, q53, q53'⟩ := Ea51.cell
  obtain ⟨_, _, ⟨T53, L53, k53, n53⟩, -, X53, ⟨Lc53, hQ53, l53, y53, z53⟩, st53⟩ := X52.privateBack hx (y := (⟨"java/util/ArrayList", "grow", "(I)[Ljava/lang/Object;"⟩ : MethodName)) hown (mvT hZ (hw _ (List.mem_of_getElem? (i := 56) rfl))) (mvT hZ (hw _ (List.mem_of_getElem? (i := 57) rfl))) (mvT hZ (hw _ (List.mem_of_getElem? (i := 59) rfl))) (Cond.privateMethod_at (mvP hZ (hw _ (List.mem_of_getElem? (i := 58) rfl)) (args := #[]))) (mvT hZ (hw _ (List.mem_of_getElem? (i := 60) rfl))) (by decide) (backOf (W := 0) (rm5 l Z a0 hw [] a1 g1 ad h0 n0 O0 ⟨Ea51, Fe51, Fs51, Fg51, ga51⟩ kd Sd Vd) hZ (hw _ (List.mem_of_getElem? (i := 60) rfl)) (hw _ (List.mem_of_getElem? (i := 2) rfl)) (by decide) (by decide)) (g := (mkF m 7 #[.val (.ref a1)] [(.int (1 : Int32)), (.ref a1)])) rfl (by rw [hml]; rfl) (Steps.refl _) (a := a1) (by rw [e52]; exact q53) q53' (argsL := [(.int (1 : Int32))]) (rest := []) (lenOf pd6_0 rfl) rfl (by show 2 * 0 + _ ≤ _; exact Nat.le_of_eq rfl) (hb hby d6_7) (fun _ _ => ⟨rfl, e52, (by decide : 0 + 1 ≤ _), (by decide : 0 + 10 ≤ _)⟩)
  dsimp only [Pt.U, Pt.locs, Pt.cells, Pt.slots] at X53 l53 y53 z53 st53 hQ53
  subst l53 y53 z53
  obtain ⟨bq53, kq53, rfl, Nq53, O53, LL53⟩ := hQ53
  have N53 := Fr.app N0 Nq53
  have LM53 : own_L Z n0 T53.heap a1 bq53 kq53 (0 : Int32) g1 (10 : Int32) [.null, .null, .null, .null, .null, .null, .null, .null, .null, .null] := LL53
  obtain ⟨Ea54, Fe54, Fs54, Fg54, Vb54, Ov54, Eb54, ga54, gb54, nab54⟩ := LM53
  refine own_csR [(.ref bq53)] 10 st53 ?_
  exact own_retR X53 hx hrt (hb hby d6_10) rfl rfl hlk (by decide) (by decide) rfl (⟨bq53, kq53, rfl, N53, O53, ⟨Ea54, Fe54, Fs54, Fg54, Vb54, Ov54, Eb54, ga54, gb54, nab54⟩⟩)

def Q7 (Z : State) (a1 x1 : Addr) (z1 g1 : Int32) (h0 : Heap) (n0 : Nat) (v : Option Value) (h : Heap) (L : List Loc) : Prop := ∃ (b : Addr) (k : ClassId), v = none ∧ Fr n0 L ∧ Old Z n0 h ∧ own_L Z n0 h a1 b k (1 : Int32) g1 (10 : Int32) [(.ref x1), .null, .null, .null, .null, .null, .null, .null, .null, .null]

theorem d7_0 : decode jdk_38_method_24_code 0 = .ok (.iload_n 3, 1) := by decide +kernel
theorem d7_1 : decode jdk_38_method_24_code 1 = .ok (.aload_n 2, 1) := by decide +kernel
theorem d7_2 : decode jdk_38_method_24_code 2 = .ok (.arraylength, 1) := by decide +kernel
theorem d7_3 : decode jdk_38_method_24_code 3 = .ok (.if_icmp .ne 8, 3) := by decide +kernel
theorem d7_6 : decode jdk_38_method_24_code 6 = .ok (.aload_n 0, 1) := by decide +kernel
theorem d7_7 : decode jdk_38_method_24_code 7 = .ok (.invokevirtual 129, 3) := by decide +kernel
theorem d7_10 : decode jdk_38_method_24_code 10 = .ok (.astore_n 2, 1) := by decide +kernel
theorem d7_11 : decode jdk_38_method_24_code 11 = .ok (.aload_n 2, 1) := by decide +kernel
theorem d7_12 : decode jdk_38_method_24_code 12 = .ok (.iload_n 3, 1) := by decide +kernel
theorem d7_13 : decode jdk_38_method_24_code 13 = .ok (.aload_n 1, 1) := by decide +kernel
theorem d7_14 : decode jdk_38_method_24_code 14 = .ok (.aastore, 1) := by decide +kernel
theorem d7_15 : decode jdk_38_method_24_code 15 = .ok (.aload_n 0, 1) := by decide +kernel
theorem d7_16 : decode jdk_38_method_24_code 16 = .ok (.iload_n 3, 1) := by decide +kernel
theorem d7_17 : decode jdk_38_method_24_code 17 = .ok (.iconst 1, 1) := by decide +kernel
theorem d7_18 : decode jdk_38_method_24_code 18 = .ok (.iadd, 1) := by decide +kernel
theorem d7_19 : decode jdk_38_method_24_code 19 = .ok (.putfield 48, 3) := by decide +kernel
theorem d7_22 : decode jdk_38_method_24_code 22 = .ok (.return_, 1) := by decide +kernel
theorem pn7 : plainName "java/util/ArrayList" = true := by first | (simp [plainName, overriddenIn]; done) | decide +kernel
theorem pd7_0 : parseMethodDescriptor "()[Ljava/lang/Object;" = some ⟨[], some (.array (.object "java/lang/Object"))⟩ := by decide +kernel
theorem ef7 (m : MethodId) (x0 : Addr) (x1 : Addr) (x2 : Addr) (x3 : Int32) : entryFrame m #[(.ref x0), (.ref x1), (.ref x2), (.int x3)] 4 = mkF m 0 #[.val (.ref x0), .val (.ref x1), .val (.ref x2), .val (.int x3)] [] := by first | (simp [entryFrame, mkF, argsToLocals, Value.category]; done) | rfl
set_option maxRecDepth 65536 in
set_option maxHeartbeats 40000000 in
theorem rm7 (l : Launch) (Z : State) (a0 : Array Value) (hw : ∀ d ∈ tables_1, d.before a0 Z = true) (ws : List Jvm.Cond) (a1 x1 ad : Addr) (g1 : Int32) (h0 : Heap) (n0 : Nat) (O0 : Old Z n0 h0) (LL : own_L0 Z n0 h0 a1 ad g1) (kd : ClassId) (Sd : Sta Z Z.heap "java/util/ArrayList" "DEFAULTCAPACITY_EMPTY_ELEMENTDATA" "[Ljava/lang/Object;" (.ref ad)) (Vd : Arv Z Z.heap ad kd (.object "java/lang/Object") (0 : Int32) [] .null) (Ex : Exa Z Z.heap x1 "com/example/kalends/kalends/ContractPeriod$Length") :
    own_Met l (⟨"java/util/ArrayList", "add", "(Ljava/lang/Object;[Ljava/lang/Object;I)V"⟩ : MethodName) jdk_38_method_24_code 4 none ws ({ frames := 3, cells := 1, slots := 10, locals := 41 } : Room) Z #[(.ref a1), (.ref x1), (.ref ad), (.int (0 : Int32))] h0 (Q7 Z a1 x1 0 g1 h0 n0) := by
  refine own_enter #[.val (.ref a1), .val (.ref x1), .val (.ref ad), .val (.int (0 : Int32))] (plainFor_of_name pn7) (fun m => ef7 m a1 x1 ad (0 : Int32)) ?_
  intro p e s m below meth c s₁ hx hby hml hown hnm hZ hrt hlk X0 e0
  have N0 := Fr.nil n0
  obtain ⟨Ea51, Fe51, Fs51, Fg51, ga51⟩ := LL
  refine own_tp (.int (0 : Int32)) 1 (fun _ q => XS.iloadN X0.here hx rfl (hb hby d7_0) rfl q) ?_
  refine own_tp (.ref ad) 2 (fun _ q => XS.aloadN X0.here hx rfl (hb hby d7_1) rfl rfl q) ?_
  obtain ⟨cl52, Ar52, -, Sz52, Nn52, -, -⟩ := (id (Vd.ext O0.2))
  refine own_t1 (.int (0 : Int32)) 3 (fun t q => X0.arraylength hx (by rw [e0]; exact Ar52.1) (State.isArrayOf_alike hZ.alike Ar52.2.1) (g := (mkF m 2 #[.val (.ref a1), .val (.ref x1), .val (.ref ad), .val (.int (0 : Int32))] [(.ref ad), (.int (0 : Int32))])) rfl rfl (hb hby d7_2) _ (by rw [len_of Sz52 Nn52]; exact q)) ?_
  refine own_d2 6 (fun _ q => XS.icmpNo X0.here hx rfl (hb hby d7_3) rfl (teq (by decide : (0 : Int32) = (0 : Int32))).2 q) ?_
  refine own_tp (.ref a1) 7 (fun _ q => XS.aloadN X0.here hx rfl (hb hby d7_6) rfl rfl q) ?_
  obtain ⟨cq53, q53, q53'⟩ := Ea51.cell
  obtain ⟨_, _, ⟨T53, L53, k53, n53⟩, -, X53, ⟨Lc53, hQ53, l53, y53, z53⟩, st53⟩ := X0.privateBack hx (y := (⟨"java/util/ArrayList", "grow", "()[Ljava/lang/Object;"⟩ : MethodName)) hown (mvT hZ (hw _ (List.mem_of_getElem? (i := 51) rfl))) (mvT hZ (hw _ (List.mem_of_getElem? (i := 52) rfl))) (mvT hZ (hw _ (List.mem_of_getElem? (i := 54) rfl))) (Cond.privateMethod_at (mvP hZ (hw _ (List.mem_of_getElem? (i := 53) rfl)) (args := #[]))) (mvT hZ (hw _ (List.mem_of_getElem? (i := 55) rfl))) (by decide) (backOf (W := 0) (rm6 l Z a0 hw [] a1 g1 ad h0 n0 O0 ⟨Ea51, Fe51, Fs51, Fg51, ga51⟩ kd Sd Vd) hZ (hw _ (List.mem_of_getElem? (i := 55) rfl)) (hw _ (List.mem_of_getElem? (i := 2) rfl)) (by decide) (by decide)) (g := (mkF m 7 #[.val (.ref a1), .val (.ref x1), .val (.ref ad), .val (.int (0 : Int32))] [(.ref a1)])) rfl (by rw [hml]; rfl) (Steps.refl _) (a := a1) (by rw [e0]; exact q53) q53' (argsL := []) (rest := []) (lenOf pd7_0 rfl) rfl (by show 2 * 0 + _ ≤ _; exact Nat.le_of_eq rfl) (hb hby d7_7) (fun _ _ => ⟨rfl, e0, (by decide : 0 + 1 ≤ _), (by decide : 0 + 10 ≤ _)⟩)
  dsimp only [Pt.U, Pt.locs, Pt.cells, Pt.slots] at X53 l53 y53 z53 st53 hQ53
  subst l53 y53 z53
  obtain ⟨bq53, kq53, rfl, Nq53, O53, LL53⟩ := hQ53
  have N53 := Fr.app N0 Nq53
  have LM53 : own_L Z n0 T53.heap a1 bq53 kq53 (0 : Int32) g1 (10 : Int32) [.null, .null, .null, .null, .null, .null, .null, .null, .null, .null] := LL53
  obtain ⟨Ea54, Fe54, Fs54, Fg54, Vb54, Ov54, Eb54, ga54, gb54, nab54⟩ := LM53
  refine own_csR [(.ref bq53)] 10 st53 ?_
  refine own_ls #[.val (.ref a1), .val (.ref x1), .val (.ref bq53), .val (.int (0 : Int32))] 11 (fun _ q => XS.astoreN X53.here hx rfl (hb hby d7_10) rfl rfl (l' := #[.val (.ref a1), .val (.ref x1), .val (.ref bq53), .val (.int (0 : Int32))]) rfl q) ?_
  refine own_tp (.ref bq53) 12 (fun _ q => XS.aloadN X53.here hx rfl (hb hby d7_11) rfl rfl q) ?_
  refine own_tp (.int (0 : Int32)) 13 (fun _ q => XS.iloadN X53.here hx rfl (hb hby d7_12) rfl q) ?_
  refine own_tp (.ref x1) 14 (fun _ q => XS.aloadN X53.here hx rfl (hb hby d7_13) rfl rfl q) ?_
  obtain ⟨cl55, Ar55, q55, S55, Nn55, H55, G55⟩ := (id Vb54)
  have hin55 : ¬ ((0 : Int32) < 0 ∨ cl55.slots.size ≤ ((0 : Int32)).toNatClampNeg) := inb_of S55 ⟨by decide, by decide⟩
  obtain ⟨T56, h56, X56, e56, W56, st56⟩ := stR X53 hx hZ rfl Ar55 (j := (0 : Int32)) hin55 rfl (Sto.ofV Ar55 q55 Ov54 (Ins.of_exa (Ex.ext O53.2) (hw _ (List.mem_of_getElem? (i := 67) rfl)))) (g := (mkF m 14 #[.val (.ref a1), .val (.ref x1), .val (.ref bq53), .val (.int (0 : Int32))] [(.ref x1), (.int (0 : Int32)), (.ref bq53)])) rfl rfl (hb hby d7_14)
  have V56 := Arv.set Ar55 q55 S55 Nn55 H55 G55 rfl W56 0 rfl (Nat.le_of_ble_eq_true rfl)
  have N56 := Fr.snoc X56 N53 gb54
  have O56 := Old.wr O53 W56 gb54
  have V56' : Arv Z h56 bq53 kq53 (.object "java/lang/Object") (10 : Int32) [(.ref x1), .null, .null, .null, .null, .null, .null, .null, .null, .null] .null := V56
  refine own_cs [] 15 st56 ?_
  refine own_tp (.ref a1) 16 (fun _ q => XS.aloadN X56.here hx rfl (hb hby d7_15) rfl rfl q) ?_
  refine own_tp (.int (0 : Int32)) 17 (fun _ q => XS.iloadN X56.here hx rfl (hb hby d7_16) rfl q) ?_
  refine own_tp (.int (1 : Int32)) 18 (fun _ q => XS.iconst X56.here hx rfl (hb hby d7_17) q) ?_
  refine own_t2 (.int (1 : Int32)) 19 (fun _ q => XS.iadd X56.here hx rfl (hb hby d7_18) rfl q) ?_
  have f57 := (Fs54.other W56 (Or.inl nab54))
  have f58 := (Ea54.wr W56)
  obtain ⟨T59, h59, X59, e59, W59, st59⟩ := putF X56 hx hZ hown (host := "") (Or.inl (hw _ (List.mem_of_getElem? (i := 44) rfl))) Via.refl e56 f57 f58 (Or.inl (hw _ (List.mem_of_getElem? (i := 45) rfl))) (hw _ (List.mem_of_getElem? (i := 1) rfl)) (ty := .int) (by decide) rfl rfl (g := (mkF m 19 #[.val (.ref a1), .val (.ref x1), .val (.ref bq53), .val (.int (0 : Int32))] [(.int (1 : Int32)), (.ref a1)])) rfl rfl (hb hby d7_19)
  have Fw59 := f57.same W59
  have N59 := Fr.snoc X59 N56 ga54
  have O59 := Old.wr O56 W59 ga54
  refine own_d2 22 st59 ?_
  have f60 := (f58.wr W59)
  have f61 := ((Fe54.other W56 (Or.inl nab54)).other W59 (Or.inr (slot_ne (Or.inl (hw _ (List.mem_of_getElem? (i := 25) rfl))) (Or.inl (hw _ (List.mem_of_getElem? (i := 45) rfl))) (by decide) (t := (.array (.object "java/lang/Object"))) (t' := .int) (by decide) (by decide))))
  have f62 := ((Fg54.other W56 (Or.inl nab54)).other W59 (Or.inr (slot_ne (Or.inl (hw _ (List.mem_of_getElem? (i := 22) rfl))) (Or.inl (hw _ (List.mem_of_getElem? (i := 45) rfl))) (by decide) (t := .int) (t' := .int) (by decide) (by decide))))
  have f63 := (V56'.other W59 (Ne.symm nab54))
  have f64 := ((Eb54.wr W56).wr W59)
  exact own_retV X59 hx hrt (hb hby d7_22) hlk (by decide) (by decide) e59 (⟨bq53, kq53, rfl, N59, O59, ⟨f60, f61, Fw59, f62, f63, Ov54, f64, ga54, gb54, nab54⟩⟩)

def Q8 (Z : State) (a1 x1 : Addr) (z1 g1 : Int32) (h0 : Heap) (n0 : Nat) (v : Option Value) (h : Heap) (L : List Loc) : Prop := ∃ (b : Addr) (k : ClassId), v = some (.int (1 : Int32)) ∧ Fr n0 L ∧ Old Z n0 h ∧ own_L Z n0 h a1 b k (1 : Int32) (g1 + (1 : Int32)) (10 : Int32) [(.ref x1), .null, .null, .null, .null, .null, .null, .null, .null, .null]

theorem d8_0 : decode jdk_38_method_25_code 0 = .ok (.aload_n 0, 1) := by decide +kernel
theorem d8_1 : decode jdk_38_method_25_code 1 = .ok (.dup, 1) := by decide +kernel
theorem d8_2 : decode jdk_38_method_25_code 2 = .ok (.getfield 63, 3) := by decide +kernel
theorem d8_5 : decode jdk_38_method_25_code 5 = .ok (.iconst 1, 1) := by decide +kernel
theorem d8_6 : decode jdk_38_method_25_code 6 = .ok (.iadd, 1) := by decide +kernel
theorem d8_7 : decode jdk_38_method_25_code 7 = .ok (.putfield 63, 3) := by decide +kernel
theorem d8_10 : decode jdk_38_method_25_code 10 = .ok (.aload_n 0, 1) := by decide +kernel
theorem d8_11 : decode jdk_38_method_25_code 11 = .ok (.aload_n 1, 1) := by decide +kernel
theorem d8_12 : decode jdk_38_method_25_code 12 = .ok (.aload_n 0, 1) := by decide +kernel
theorem d8_13 : decode jdk_38_method_25_code 13 = .ok (.getfield 9, 3) := by decide +kernel
theorem d8_16 : decode jdk_38_method_25_code 16 = .ok (.aload_n 0, 1) := by decide +kernel
theorem d8_17 : decode jdk_38_method_25_code 17 = .ok (.getfield 48, 3) := by decide +kernel
theorem d8_20 : decode jdk_38_method_25_code 20 = .ok (.invokevirtual 131, 3) := by decide +kernel
theorem d8_23 : decode jdk_38_method_25_code 23 = .ok (.iconst 1, 1) := by decide +kernel
theorem d8_24 : decode jdk_38_method_25_code 24 = .ok (.ireturn, 1) := by decide +kernel
theorem pn8 : plainName "java/util/ArrayList" = true := by first | (simp [plainName, overriddenIn]; done) | decide +kernel
theorem pd8_0 : parseMethodDescriptor "(Ljava/lang/Object;[Ljava/lang/Object;I)V" = some ⟨[(.object "java/lang/Object"), (.array (.object "java/lang/Object")), .int], none⟩ := by decide +kernel
theorem ef8 (m : MethodId) (x0 : Addr) (x1 : Addr) : entryFrame m #[(.ref x0), (.ref x1)] 2 = mkF m 0 #[.val (.ref x0), .val (.ref x1)] [] := by first | (simp [entryFrame, mkF, argsToLocals, Value.category]; done) | rfl
set_option maxRecDepth 65536 in
set_option maxHeartbeats 40000000 in
theorem rm8 (l : Launch) (Z : State) (a0 : Array Value) (hw : ∀ d ∈ tables_1, d.before a0 Z = true) (ws : List Jvm.Cond) (a1 x1 ad : Addr) (g1 : Int32) (h0 : Heap) (n0 : Nat) (O0 : Old Z n0 h0) (LL : own_L0 Z n0 h0 a1 ad g1) (kd : ClassId) (Sd : Sta Z Z.heap "java/util/ArrayList" "DEFAULTCAPACITY_EMPTY_ELEMENTDATA" "[Ljava/lang/Object;" (.ref ad)) (Vd : Arv Z Z.heap ad kd (.object "java/lang/Object") (0 : Int32) [] .null) (Ex : Exa Z Z.heap x1 "com/example/kalends/kalends/ContractPeriod$Length") :
    own_Met l (⟨"java/util/ArrayList", "add", "(Ljava/lang/Object;)Z"⟩ : MethodName) jdk_38_method_25_code 2 (some .boolean) ws ({ frames := 4, cells := 1, slots := 10, locals := 56 } : Room) Z #[(.ref a1), (.ref x1)] h0 (Q8 Z a1 x1 0 g1 h0 n0) := by
  refine own_enter #[.val (.ref a1), .val (.ref x1)] (plainFor_of_name pn8) (fun m => ef8 m a1 x1) ?_
  intro p e s m below meth c s₁ hx hby hml hown hnm hZ hrt hlk X0 e0
  have N0 := Fr.nil n0
  obtain ⟨Ea51, Fe51, Fs51, Fg51, ga51⟩ := LL
  refine own_tp (.ref a1) 1 (fun _ q => XS.aloadN X0.here hx rfl (hb hby d8_0) rfl rfl q) ?_
  refine own_tp (.ref a1) 2 (fun _ q => XS.dup X0.here hx rfl (hb hby d8_1) rfl rfl q) ?_
  obtain ⟨T52, X52, e52, st52⟩ := getF X0 hx hZ hown (host := "") (Or.inl (hw _ (List.mem_of_getElem? (i := 42) rfl))) (Via.of (hw _ (List.mem_of_getElem? (i := 43) rfl))) e0 Fg51 (g := (mkF m 2 #[.val (.ref a1), .val (.ref x1)] [(.ref a1), (.ref a1)])) rfl rfl (hb hby d8_2)
  refine own_t1 (.int g1) 5 st52 ?_
  refine own_tp (.int (1 : Int32)) 6 (fun _ q => XS.iconst X52.here hx rfl (hb hby d8_5) q) ?_
  refine own_t2 (.int (g1 + (1 : Int32))) 7 (fun _ q => XS.iadd X52.here hx rfl (hb hby d8_6) rfl q) ?_
  obtain ⟨T53, h53, X53, e53, W53, st53⟩ := putF X52 hx hZ hown (host := "") (Or.inl (hw _ (List.mem_of_getElem? (i := 42) rfl))) (Via.of (hw _ (List.mem_of_getElem? (i := 43) rfl))) e52 Fg51 Ea51 (Or.inl (hw _ (List.mem_of_getElem? (i := 22) rfl))) (hw _ (List.mem_of_getElem? (i := 1) rfl)) (ty := .int) (by decide) rfl rfl (g := (mkF m 7 #[.val (.ref a1), .val (.ref x1)] [(.int (g1 + (1 : Int32))), (.ref a1)])) rfl rfl (hb hby d8_7)
  have Fw53 := Fg51.same W53
  have N53 := Fr.snoc X53 N0 ga51
  have O53 := Old.wr O0 W53 ga51
  have Z53 : n0 ≤ h53.size := Nat.le_trans (Nat.le_trans ga51 (Nat.le_of_lt Ea51.lt)) (Nat.le_of_eq W53.size.symm)
  refine own_d2 10 st53 ?_
  refine own_tp (.ref a1) 11 (fun _ q => XS.aloadN X53.here hx rfl (hb hby d8_10) rfl rfl q) ?_
  refine own_tp (.ref x1) 12 (fun _ q => XS.aloadN X53.here hx rfl (hb hby d8_11) rfl rfl q) ?_
  refine own_tp (.ref a1) 13 (fun _ q => XS.aloadN X53.here hx rfl (hb hby d8_12) rfl rfl q) ?_
  have f54 := (Fe51.other W53 (Or.inr (slot_ne (Or.inl (hw _ (List.mem_of_getElem? (i := 25) rfl))) (Or.inl (hw _ (List.mem_of_getElem? (i := 22) rfl))) (by decide) (t := (.array (.object "java/lang/Object"))) (t' := .int) (by decide) (by decide))))
  obtain ⟨T55, X55, e55, st55⟩ := getF X53 hx hZ hown (host := "") (Or.inl (hw _ (List.mem_of_getElem? (i := 24) rfl))) Via.refl e53 f54 (g := (mkF m 13 #[.val (.ref a1), .val (.ref x1)] [(.ref a1), (.ref x1), (.ref a1)])) rfl rfl (hb hby d8_13)
  refine own_t1 (.ref ad) 16 st55 ?_
  refine own_tp (.ref a1) 17 (fun _ q => XS.aloadN X55.here hx rfl (hb hby d8_16) rfl rfl q) ?_
  have f56 := (Fs51.other W53 (Or.inr (slot_ne (Or.inl (hw _ (List.mem_of_getElem? (i := 45) rfl))) (Or.inl (hw _ (List.mem_of_getElem? (i := 22) rfl))) (by decide) (t := .int) (t' := .int) (by decide) (by decide))))
  obtain ⟨T57, X57, e57, st57⟩ := getF X55 hx hZ hown (host := "") (Or.inl (hw _ (List.mem_of_getElem? (i := 44) rfl))) Via.refl e55 f56 (g := (mkF m 17 #[.val (.ref a1), .val (.ref x1)] [(.ref a1), (.ref ad), (.ref x1), (.ref a1)])) rfl rfl (hb hby d8_17)
  refine own_t1 (.int (0 : Int32)) 20 st57 ?_
  have f58 := (Ea51.wr W53)
  obtain ⟨cq59, q59, q59'⟩ := f58.cell
  obtain ⟨_, _, ⟨T59, L59, k59, n59⟩, -, X59, ⟨Lc59, hQ59, l59, y59, z59⟩, st59⟩ := X57.privateBack hx (y := (⟨"java/util/ArrayList", "add", "(Ljava/lang/Object;[Ljava/lang/Object;I)V"⟩ : MethodName)) hown (mvT hZ (hw _ (List.mem_of_getElem? (i := 46) rfl))) (mvT hZ (hw _ (List.mem_of_getElem? (i := 47) rfl))) (mvT hZ (hw _ (List.mem_of_getElem? (i := 49) rfl))) (Cond.privateMethod_at (mvP hZ (hw _ (List.mem_of_getElem? (i := 48) rfl)) (args := #[]))) (mvT hZ (hw _ (List.mem_of_getElem? (i := 50) rfl))) (by decide) (backOf (W := 0) (rm7 l Z a0 hw [] a1 x1 ad (g1 + (1 : Int32)) h53 n0 O53 ⟨f58, f54, f56, Fw53, ga51⟩ kd Sd Vd Ex) hZ (hw _ (List.mem_of_getElem? (i := 50) rfl)) (hw _ (List.mem_of_getElem? (i := 2) rfl)) (by decide) (by decide)) (g := (mkF m 20 #[.val (.ref a1), .val (.ref x1)] [(.int (0 : Int32)), (.ref ad), (.ref x1), (.ref a1)])) rfl (by rw [hml]; rfl) (Steps.refl _) (a := a1) (by rw [e57]; exact q59) q59' (argsL := [(.ref x1), (.ref ad), (.int (0 : Int32))]) (rest := []) (lenOf pd8_0 rfl) rfl (by show 2 * 0 + _ ≤ _; exact Nat.le_of_eq rfl) (hb hby d8_20) (fun _ _ => ⟨rfl, e57, (by decide : 0 + 1 ≤ _), (by decide : 0 + 10 ≤ _)⟩)
  dsimp only [Pt.U, Pt.locs, Pt.cells, Pt.slots] at X59 l59 y59 z59 st59 hQ59
  subst l59 y59 z59
  obtain ⟨bq59, kq59, rfl, Nq59, O59, LL59⟩ := hQ59
  have N59 := Fr.app N53 Nq59
  have LM59 : own_L Z n0 T59.heap a1 bq59 kq59 (1 : Int32) (g1 + (1 : Int32)) (10 : Int32) [(.ref x1), .null, .null, .null, .null, .null, .null, .null, .null, .null] := LL59
  obtain ⟨Ea60, Fe60, Fs60, Fg60, Vb60, Ov60, Eb60, ga60, gb60, nab60⟩ := LM59
  refine own_csR [] 23 st59 ?_
  refine own_tp (.int (1 : Int32)) 24 (fun _ q => XS.iconst X59.here hx rfl (hb hby d8_23) q) ?_
  exact own_retN (t := .boolean) X59 hx hrt (hb hby d8_24) (by simp) hlk (by decide) (by decide) rfl (⟨bq59, kq59, rfl, N59, O59, ⟨Ea60, Fe60, Fs60, Fg60, Vb60, Ov60, Eb60, ga60, gb60, nab60⟩⟩)

def Q9 (Z : State) (a1 x1 b1 : Addr) (k1 : ClassId) (z1 g1 cap1 : Int32) (vs1 : List Value) (i1 : Nat) (h0 : Heap) (n0 : Nat) (v : Option Value) (h : Heap) (L : List Loc) : Prop := v = none ∧ Fr n0 L ∧ Old Z n0 h ∧ own_L Z n0 h a1 b1 k1 (z1 + (1 : Int32)) g1 cap1 (vs1.set i1 (.ref x1))

theorem d9_0 : decode jdk_38_method_24_code 0 = .ok (.iload_n 3, 1) := by decide +kernel
theorem d9_1 : decode jdk_38_method_24_code 1 = .ok (.aload_n 2, 1) := by decide +kernel
theorem d9_2 : decode jdk_38_method_24_code 2 = .ok (.arraylength, 1) := by decide +kernel
theorem d9_3 : decode jdk_38_method_24_code 3 = .ok (.if_icmp .ne 8, 3) := by decide +kernel
theorem d9_11 : decode jdk_38_method_24_code 11 = .ok (.aload_n 2, 1) := by decide +kernel
theorem d9_12 : decode jdk_38_method_24_code 12 = .ok (.iload_n 3, 1) := by decide +kernel
theorem d9_13 : decode jdk_38_method_24_code 13 = .ok (.aload_n 1, 1) := by decide +kernel
theorem d9_14 : decode jdk_38_method_24_code 14 = .ok (.aastore, 1) := by decide +kernel
theorem d9_15 : decode jdk_38_method_24_code 15 = .ok (.aload_n 0, 1) := by decide +kernel
theorem d9_16 : decode jdk_38_method_24_code 16 = .ok (.iload_n 3, 1) := by decide +kernel
theorem d9_17 : decode jdk_38_method_24_code 17 = .ok (.iconst 1, 1) := by decide +kernel
theorem d9_18 : decode jdk_38_method_24_code 18 = .ok (.iadd, 1) := by decide +kernel
theorem d9_19 : decode jdk_38_method_24_code 19 = .ok (.putfield 48, 3) := by decide +kernel
theorem d9_22 : decode jdk_38_method_24_code 22 = .ok (.return_, 1) := by decide +kernel
theorem pn9 : plainName "java/util/ArrayList" = true := by first | (simp [plainName, overriddenIn]; done) | decide +kernel
theorem ef9 (m : MethodId) (x0 : Addr) (x1 : Addr) (x2 : Addr) (x3 : Int32) : entryFrame m #[(.ref x0), (.ref x1), (.ref x2), (.int x3)] 4 = mkF m 0 #[.val (.ref x0), .val (.ref x1), .val (.ref x2), .val (.int x3)] [] := by first | (simp [entryFrame, mkF, argsToLocals, Value.category]; done) | rfl
set_option maxRecDepth 65536 in
set_option maxHeartbeats 40000000 in
theorem rm9 (l : Launch) (Z : State) (a0 : Array Value) (hw : ∀ d ∈ tables_1, d.before a0 Z = true) (ws : List Jvm.Cond) (a1 x1 b1 : Addr) (k1 : ClassId) (z1 g1 cap1 : Int32) (vs1 : List Value) (i1 : Nat) (h0 : Heap) (n0 : Nat) (O0 : Old Z n0 h0) (LL : own_L Z n0 h0 a1 b1 k1 z1 g1 cap1 vs1) (hat : own_at z1 cap1 i1 vs1.length) (Ex : Exa Z Z.heap x1 "com/example/kalends/kalends/ContractPeriod$Length") :
    own_Met l (⟨"java/util/ArrayList", "add", "(Ljava/lang/Object;[Ljava/lang/Object;I)V"⟩ : MethodName) jdk_38_method_24_code 4 none ws ({ frames := 0, cells := 0, slots := 0, locals := 0 } : Room) Z #[(.ref a1), (.ref x1), (.ref b1), (.int z1)] h0 (Q9 Z a1 x1 b1 k1 z1 g1 cap1 vs1 i1 h0 n0) := by
  refine own_enter #[.val (.ref a1), .val (.ref x1), .val (.ref b1), .val (.int z1)] (plainFor_of_name pn9) (fun m => ef9 m a1 x1 b1 z1) ?_
  intro p e s m below meth c s₁ hx hby hml hown hnm hZ hrt hlk X0 e0
  have N0 := Fr.nil n0
  obtain ⟨Ea51, Fe51, Fs51, Fg51, Vb51, Ov51, Eb51, ga51, gb51, nab51⟩ := LL
  refine own_tp (.int z1) 1 (fun _ q => XS.iloadN X0.here hx rfl (hb hby d9_0) rfl q) ?_
  refine own_tp (.ref b1) 2 (fun _ q => XS.aloadN X0.here hx rfl (hb hby d9_1) rfl rfl q) ?_
  obtain ⟨cl52, Ar52, -, Sz52, Nn52, -, -⟩ := (id Vb51)
  refine own_t1 (.int cap1) 3 (fun t q => X0.arraylength hx (by rw [e0]; exact Ar52.1) (State.isArrayOf_alike hZ.alike Ar52.2.1) (g := (mkF m 2 #[.val (.ref a1), .val (.ref x1), .val (.ref b1), .val (.int z1)] [(.ref b1), (.int z1)])) rfl rfl (hb hby d9_2) _ (by rw [len_of Sz52 Nn52]; exact q)) ?_
  refine own_d2 11 (fun _ q => XS.icmpYes X0.here hx rfl (pc0 := 3) (pc' := 11) rfl (hb hby d9_3) rfl (feq (own_ltne hat.2.1)).2 (by decide) (by decide) q) ?_
  refine own_tp (.ref b1) 12 (fun _ q => XS.aloadN X0.here hx rfl (hb hby d9_11) rfl rfl q) ?_
  refine own_tp (.int z1) 13 (fun _ q => XS.iloadN X0.here hx rfl (hb hby d9_12) rfl q) ?_
  refine own_tp (.ref x1) 14 (fun _ q => XS.aloadN X0.here hx rfl (hb hby d9_13) rfl rfl q) ?_
  obtain ⟨cl53, Ar53, q53, S53, Nn53, H53, G53⟩ := (id Vb51)
  have hin53 : ¬ (z1 < 0 ∨ cl53.slots.size ≤ (z1).toNatClampNeg) := inb_of S53 ⟨hat.1, hat.2.1⟩
  obtain ⟨T54, h54, X54, e54, W54, st54⟩ := stR X0 hx hZ e0 Ar53 (j := z1) hin53 rfl (Sto.ofV Ar53 q53 Ov51 (Ins.of_exa (Ex.ext O0.2) (hw _ (List.mem_of_getElem? (i := 67) rfl)))) (g := (mkF m 14 #[.val (.ref a1), .val (.ref x1), .val (.ref b1), .val (.int z1)] [(.ref x1), (.int z1), (.ref b1)])) rfl rfl (hb hby d9_14)
  have V54 := Arv.set Ar53 q53 S53 Nn53 H53 G53 rfl W54 i1 hat.2.2.1 hat.2.2.2
  have N54 := Fr.snoc X54 N0 gb51
  have O54 := Old.wr O0 W54 gb51
  have V54' : Arv Z h54 b1 k1 (.object "java/lang/Object") cap1 (vs1.set i1 (.ref x1)) .null := V54
  refine own_cs [] 15 st54 ?_
  refine own_tp (.ref a1) 16 (fun _ q => XS.aloadN X54.here hx rfl (hb hby d9_15) rfl rfl q) ?_
  refine own_tp (.int z1) 17 (fun _ q => XS.iloadN X54.here hx rfl (hb hby d9_16) rfl q) ?_
  refine own_tp (.int (1 : Int32)) 18 (fun _ q => XS.iconst X54.here hx rfl (hb hby d9_17) q) ?_
  refine own_t2 (.int (z1 + (1 : Int32))) 19 (fun _ q => XS.iadd X54.here hx rfl (hb hby d9_18) rfl q) ?_
  have f55 := (Fs51.other W54 (Or.inl nab51))
  have f56 := (Ea51.wr W54)
  obtain ⟨T57, h57, X57, e57, W57, st57⟩ := putF X54 hx hZ hown (host := "") (Or.inl (hw _ (List.mem_of_getElem? (i := 44) rfl))) Via.refl e54 f55 f56 (Or.inl (hw _ (List.mem_of_getElem? (i := 45) rfl))) (hw _ (List.mem_of_getElem? (i := 1) rfl)) (ty := .int) (by decide) rfl rfl (g := (mkF m 19 #[.val (.ref a1), .val (.ref x1), .val (.ref b1), .val (.int z1)] [(.int (z1 + (1 : Int32))), (.ref a1)])) rfl rfl (hb hby d9_19)
  have Fw57 := f55.same W57
  have N57 := Fr.snoc X57 N54 ga51
  have O57 := Old.wr O54 W57 ga51
  refine own_d2 22 st57 ?_
  have f58 := (f56.wr W57)
  have f59 := ((Fe51.other W54 (Or.inl nab51)).other W57 (Or.inr (slot_ne (Or.inl (hw _ (List.mem_of_getElem? (i := 25) rfl))) (Or.inl (hw _ (List.mem_of_getElem? (i := 45) rfl))) (by decide) (t := (.array (.object "java/lang/Object"))) (t' := .int) (by decide) (by decide))))
  have f60 := ((Fg51.other W54 (Or.inl nab51)).other W57 (Or.inr (slot_ne (Or.inl (hw _ (List.mem_of_getElem? (i := 22) rfl))) (Or.inl (hw _ (List.mem_of_getElem? (i := 45) rfl))) (by decide) (t := .int) (t' := .int) (by decide) (by decide))))
  have f61 := (V54'.other W57 (Ne.symm nab51))
  have f62 := ((Eb51.wr W54).wr W57)
  exact own_retV X57 hx hrt (hb hby d9_22) hlk (by decide) (by decide) e57 (⟨rfl, N57, O57, ⟨f58, f59, Fw57, f60, f61, Ov51, f62, ga51, gb51, nab51⟩⟩)

def Q10 (Z : State) (a1 x1 b1 : Addr) (k1 : ClassId) (z1 g1 cap1 : Int32) (vs1 : List Value) (i1 : Nat) (h0 : Heap) (n0 : Nat) (v : Option Value) (h : Heap) (L : List Loc) : Prop := v = some (.int (1 : Int32)) ∧ Fr n0 L ∧ Old Z n0 h ∧ own_L Z n0 h a1 b1 k1 (z1 + (1 : Int32)) (g1 + (1 : Int32)) cap1 (vs1.set i1 (.ref x1))

theorem d10_0 : decode jdk_38_method_25_code 0 = .ok (.aload_n 0, 1) := by decide +kernel
theorem d10_1 : decode jdk_38_method_25_code 1 = .ok (.dup, 1) := by decide +kernel
theorem d10_2 : decode jdk_38_method_25_code 2 = .ok (.getfield 63, 3) := by decide +kernel
theorem d10_5 : decode jdk_38_method_25_code 5 = .ok (.iconst 1, 1) := by decide +kernel
theorem d10_6 : decode jdk_38_method_25_code 6 = .ok (.iadd, 1) := by decide +kernel
theorem d10_7 : decode jdk_38_method_25_code 7 = .ok (.putfield 63, 3) := by decide +kernel
theorem d10_10 : decode jdk_38_method_25_code 10 = .ok (.aload_n 0, 1) := by decide +kernel
theorem d10_11 : decode jdk_38_method_25_code 11 = .ok (.aload_n 1, 1) := by decide +kernel
theorem d10_12 : decode jdk_38_method_25_code 12 = .ok (.aload_n 0, 1) := by decide +kernel
theorem d10_13 : decode jdk_38_method_25_code 13 = .ok (.getfield 9, 3) := by decide +kernel
theorem d10_16 : decode jdk_38_method_25_code 16 = .ok (.aload_n 0, 1) := by decide +kernel
theorem d10_17 : decode jdk_38_method_25_code 17 = .ok (.getfield 48, 3) := by decide +kernel
theorem d10_20 : decode jdk_38_method_25_code 20 = .ok (.invokevirtual 131, 3) := by decide +kernel
theorem d10_23 : decode jdk_38_method_25_code 23 = .ok (.iconst 1, 1) := by decide +kernel
theorem d10_24 : decode jdk_38_method_25_code 24 = .ok (.ireturn, 1) := by decide +kernel
theorem pn10 : plainName "java/util/ArrayList" = true := by first | (simp [plainName, overriddenIn]; done) | decide +kernel
theorem pd10_0 : parseMethodDescriptor "(Ljava/lang/Object;[Ljava/lang/Object;I)V" = some ⟨[(.object "java/lang/Object"), (.array (.object "java/lang/Object")), .int], none⟩ := by decide +kernel
theorem ef10 (m : MethodId) (x0 : Addr) (x1 : Addr) : entryFrame m #[(.ref x0), (.ref x1)] 2 = mkF m 0 #[.val (.ref x0), .val (.ref x1)] [] := by first | (simp [entryFrame, mkF, argsToLocals, Value.category]; done) | rfl
set_option maxRecDepth 65536 in
set_option maxHeartbeats 40000000 in
theorem rm10 (l : Launch) (Z : State) (a0 : Array Value) (hw : ∀ d ∈ tables_1, d.before a0 Z = true) (ws : List Jvm.Cond) (a1 x1 b1 : Addr) (k1 : ClassId) (z1 g1 cap1 : Int32) (vs1 : List Value) (i1 : Nat) (h0 : Heap) (n0 : Nat) (O0 : Old Z n0 h0) (LL : own_L Z n0 h0 a1 b1 k1 z1 g1 cap1 vs1) (hat : own_at z1 cap1 i1 vs1.length) (Ex : Exa Z Z.heap x1 "com/example/kalends/kalends/ContractPeriod$Length") :
    own_Met l (⟨"java/util/ArrayList", "add", "(Ljava/lang/Object;)Z"⟩ : MethodName) jdk_38_method_25_code 2 (some .boolean) ws ({ frames := 1, cells := 0, slots := 0, locals := 15 } : Room) Z #[(.ref a1), (.ref x1)] h0 (Q10 Z a1 x1 b1 k1 z1 g1 cap1 vs1 i1 h0 n0) := by
  refine own_enter #[.val (.ref a1), .val (.ref x1)] (plainFor_of_name pn10) (fun m => ef10 m a1 x1) ?_
  intro p e s m below meth c s₁ hx hby hml hown hnm hZ hrt hlk X0 e0
  have N0 := Fr.nil n0
  obtain ⟨Ea51, Fe51, Fs51, Fg51, Vb51, Ov51, Eb51, ga51, gb51, nab51⟩ := LL
  refine own_tp (.ref a1) 1 (fun _ q => XS.aloadN X0.here hx rfl (hb hby d10_0) rfl rfl q) ?_
  refine own_tp (.ref a1) 2 (fun _ q => XS.dup X0.here hx rfl (hb hby d10_1) rfl rfl q) ?_
  obtain ⟨T52, X52, e52, st52⟩ := getF X0 hx hZ hown (host := "") (Or.inl (hw _ (List.mem_of_getElem? (i := 42) rfl))) (Via.of (hw _ (List.mem_of_getElem? (i := 43) rfl))) e0 Fg51 (g := (mkF m 2 #[.val (.ref a1), .val (.ref x1)] [(.ref a1), (.ref a1)])) rfl rfl (hb hby d10_2)
  refine own_t1 (.int g1) 5 st52 ?_
  refine own_tp (.int (1 : Int32)) 6 (fun _ q => XS.iconst X52.here hx rfl (hb hby d10_5) q) ?_
  refine own_t2 (.int (g1 + (1 : Int32))) 7 (fun _ q => XS.iadd X52.here hx rfl (hb hby d10_6) rfl q) ?_
  obtain ⟨T53, h53, X53, e53, W53, st53⟩ := putF X52 hx hZ hown (host := "") (Or.inl (hw _ (List.mem_of_getElem? (i := 42) rfl))) (Via.of (hw _ (List.mem_of_getElem? (i := 43) rfl))) e52 Fg51 Ea51 (Or.inl (hw _ (List.mem_of_getElem? (i := 22) rfl))) (hw _ (List.mem_of_getElem? (i := 1) rfl)) (ty := .int) (by decide) rfl rfl (g := (mkF m 7 #[.val (.ref a1), .val (.ref x1)] [(.int (g1 + (1 : Int32))), (.ref a1)])) rfl rfl (hb hby d10_7)
  have Fw53 := Fg51.same W53
  have N53 := Fr.snoc X53 N0 ga51
  have O53 := Old.wr O0 W53 ga51
  refine own_d2 10 st53 ?_
  refine own_tp (.ref a1) 11 (fun _ q => XS.aloadN X53.here hx rfl (hb hby d10_10) rfl rfl q) ?_
  refine own_tp (.ref x1) 12 (fun _ q => XS.aloadN X53.here hx rfl (hb hby d10_11) rfl rfl q) ?_
  refine own_tp (.ref a1) 13 (fun _ q => XS.aloadN X53.here hx rfl (hb hby d10_12) rfl rfl q) ?_
  have f54 := (Fe51.other W53 (Or.inr (slot_ne (Or.inl (hw _ (List.mem_of_getElem? (i := 25) rfl))) (Or.inl (hw _ (List.mem_of_getElem? (i := 22) rfl))) (by decide) (t := (.array (.object "java/lang/Object"))) (t' := .int) (by decide) (by decide))))
  obtain ⟨T55, X55, e55, st55⟩ := getF X53 hx hZ hown (host := "") (Or.inl (hw _ (List.mem_of_getElem? (i := 24) rfl))) Via.refl e53 f54 (g := (mkF m 13 #[.val (.ref a1), .val (.ref x1)] [(.ref a1), (.ref x1), (.ref a1)])) rfl rfl (hb hby d10_13)
  refine own_t1 (.ref b1) 16 st55 ?_
  refine own_tp (.ref a1) 17 (fun _ q => XS.aloadN X55.here hx rfl (hb hby d10_16) rfl rfl q) ?_
  have f56 := (Fs51.other W53 (Or.inr (slot_ne (Or.inl (hw _ (List.mem_of_getElem? (i := 45) rfl))) (Or.inl (hw _ (List.mem_of_getElem? (i := 22) rfl))) (by decide) (t := .int) (t' := .int) (by decide) (by decide))))
  obtain ⟨T57, X57, e57, st57⟩ := getF X55 hx hZ hown (host := "") (Or.inl (hw _ (List.mem_of_getElem? (i := 44) rfl))) Via.refl e55 f56 (g := (mkF m 17 #[.val (.ref a1), .val (.ref x1)] [(.ref a1), (.ref b1), (.ref x1), (.ref a1)])) rfl rfl (hb hby d10_17)
  refine own_t1 (.int z1) 20 st57 ?_
  have f58 := (Ea51.wr W53)
  have f59 := (Vb51.other W53 (Ne.symm nab51))
  have f60 := (Eb51.wr W53)
  obtain ⟨cq61, q61, q61'⟩ := f58.cell
  obtain ⟨_, _, ⟨T61, L61, k61, n61⟩, -, X61, ⟨Lc61, hQ61, l61, y61, z61⟩, st61⟩ := X57.privateBack hx (y := (⟨"java/util/ArrayList", "add", "(Ljava/lang/Object;[Ljava/lang/Object;I)V"⟩ : MethodName)) hown (mvT hZ (hw _ (List.mem_of_getElem? (i := 46) rfl))) (mvT hZ (hw _ (List.mem_of_getElem? (i := 47) rfl))) (mvT hZ (hw _ (List.mem_of_getElem? (i := 49) rfl))) (Cond.privateMethod_at (mvP hZ (hw _ (List.mem_of_getElem? (i := 48) rfl)) (args := #[]))) (mvT hZ (hw _ (List.mem_of_getElem? (i := 50) rfl))) (by decide) (backOf (W := 0) (rm9 l Z a0 hw [] a1 x1 b1 k1 z1 (g1 + (1 : Int32)) cap1 vs1 i1 h53 n0 O53 ⟨f58, f54, f56, Fw53, f59, Ov51, f60, ga51, gb51, nab51⟩ hat Ex) hZ (hw _ (List.mem_of_getElem? (i := 50) rfl)) (hw _ (List.mem_of_getElem? (i := 2) rfl)) (by decide) (by decide)) (g := (mkF m 20 #[.val (.ref a1), .val (.ref x1)] [(.int z1), (.ref b1), (.ref x1), (.ref a1)])) rfl (by rw [hml]; rfl) (Steps.refl _) (a := a1) (by rw [e57]; exact q61) q61' (argsL := [(.ref x1), (.ref b1), (.int z1)]) (rest := []) (lenOf pd10_0 rfl) rfl (by show 2 * 0 + _ ≤ _; exact Nat.le_of_eq rfl) (hb hby d10_20) (fun _ _ => ⟨rfl, e57, (by decide : 0 + 0 ≤ _), (by decide : 0 + 0 ≤ _)⟩)
  dsimp only [Pt.U, Pt.locs, Pt.cells, Pt.slots] at X61 l61 y61 z61 st61 hQ61
  subst l61 y61 z61
  obtain ⟨rfl, Nq61, O61, LL61⟩ := hQ61
  have N61 := Fr.app N53 Nq61
  have LM61 : own_L Z n0 T61.heap a1 b1 k1 (z1 + (1 : Int32)) (g1 + (1 : Int32)) cap1 (vs1.set i1 (.ref x1)) := LL61
  obtain ⟨Ea62, Fe62, Fs62, Fg62, Vb62, Ov62, Eb62, ga62, gb62, nab62⟩ := LM61
  refine own_csR [] 23 st61 ?_
  refine own_tp (.int (1 : Int32)) 24 (fun _ q => XS.iconst X61.here hx rfl (hb hby d10_23) q) ?_
  exact own_retN (t := .boolean) X61 hx hrt (hb hby d10_24) (by simp) hlk (by decide) (by decide) rfl (⟨rfl, N61, O61, ⟨Ea62, Fe62, Fs62, Fg62, Vb62, Ov62, Eb62, ga62, gb62, nab62⟩⟩)

def Q11 (h0 : Heap) (n0 : Nat) (v : Option Value) (h : Heap) (L : List Loc) : Prop := v = some (.int (15 : Int32)) ∧ Fr n0 L ∧ h = h0

theorem d11_0 : decode jdk_48_method_27_code 0 = .ok (.iload_n 0, 1) := by decide +kernel
theorem d11_1 : decode jdk_48_method_27_code 1 = .ok (.iload_n 1, 1) := by decide +kernel
theorem d11_2 : decode jdk_48_method_27_code 2 = .ok (.iload_n 2, 1) := by decide +kernel
theorem d11_3 : decode jdk_48_method_27_code 3 = .ok (.invokestatic 194, 3) := by decide +kernel
theorem d11_6 : decode jdk_48_method_27_code 6 = .ok (.iadd, 1) := by decide +kernel
theorem d11_7 : decode jdk_48_method_27_code 7 = .ok (.istore_n 3, 1) := by decide +kernel
theorem d11_8 : decode jdk_48_method_27_code 8 = .ok (.iconst 0, 1) := by decide +kernel
theorem d11_9 : decode jdk_48_method_27_code 9 = .ok (.iload_n 3, 1) := by decide +kernel
theorem d11_10 : decode jdk_48_method_27_code 10 = .ok (.if_icmp .ge 11, 3) := by decide +kernel
theorem d11_13 : decode jdk_48_method_27_code 13 = .ok (.iload_n 3, 1) := by decide +kernel
theorem d11_14 : decode jdk_48_method_27_code 14 = .ok (.ldc 200, 2) := by decide +kernel
theorem d11_16 : decode jdk_48_method_27_code 16 = .ok (.if_icmp .gt 5, 3) := by decide +kernel
theorem d11_19 : decode jdk_48_method_27_code 19 = .ok (.iload_n 3, 1) := by decide +kernel
theorem d11_20 : decode jdk_48_method_27_code 20 = .ok (.ireturn, 1) := by decide +kernel
theorem pn11 : plainName "jdk/internal/util/ArraysSupport" = true := by first | (simp [plainName, overriddenIn]; done) | decide +kernel
theorem pd11_0 : parseMethodDescriptor "(II)I" = some ⟨[.int, .int], some .int⟩ := by decide +kernel
theorem ef11 (m : MethodId) (x0 : Int32) (x1 : Int32) (x2 : Int32) : entryFrame m #[(.int x0), (.int x1), (.int x2)] 4 = mkF m 0 #[.val (.int x0), .val (.int x1), .val (.int x2), .unset] [] := by first | (simp [entryFrame, mkF, argsToLocals, Value.category]; done) | rfl
set_option maxRecDepth 65536 in
set_option maxHeartbeats 40000000 in
theorem rm11 (l : Launch) (Z : State) (a0 : Array Value) (hw : ∀ d ∈ tables_1, d.before a0 Z = true) (ws : List Jvm.Cond)  (h0 : Heap) (n0 : Nat)  :
    own_Met l (⟨"jdk/internal/util/ArraysSupport", "newLength", "(III)I"⟩ : MethodName) jdk_48_method_27_code 4 (some .int) ws ({ frames := 1, cells := 0, slots := 0, locals := 14 } : Room) Z #[(.int (10 : Int32)), (.int (1 : Int32)), (.int (5 : Int32))] h0 (Q11 h0 n0) := by
  refine own_enter #[.val (.int (10 : Int32)), .val (.int (1 : Int32)), .val (.int (5 : Int32)), .unset] (plainFor_of_name pn11) (fun m => ef11 m (10 : Int32) (1 : Int32) (5 : Int32)) ?_
  intro p e s m below meth c s₁ hx hby hml hown hnm hZ hrt hlk X0 e0
  have N0 := Fr.nil n0
  refine own_tp (.int (10 : Int32)) 1 (fun _ q => XS.iloadN X0.here hx rfl (hb hby d11_0) rfl q) ?_
  refine own_tp (.int (1 : Int32)) 2 (fun _ q => XS.iloadN X0.here hx rfl (hb hby d11_1) rfl q) ?_
  refine own_tp (.int (5 : Int32)) 3 (fun _ q => XS.iloadN X0.here hx rfl (hb hby d11_2) rfl q) ?_
  obtain ⟨_, _, ⟨T51, L51, k51, n51⟩, -, X51, ⟨Lc51, hQ51, l51, y51, z51⟩, st51⟩ := Jvm.LawKit.callS X0 hx (y := (⟨"java/lang/Math", "max", "(II)I"⟩ : MethodName)) hown (mvT hZ (hw _ (List.mem_of_getElem? (i := 116) rfl))) (mvT hZ (hw _ (List.mem_of_getElem? (i := 62) rfl))) (mvT hZ (hw _ (List.mem_of_getElem? (i := 63) rfl))) (mvT hZ (hw _ (List.mem_of_getElem? (i := 64) rfl))) (by decide) (backOf (W := 1) (rm1 l Z a0 hw [] (1 : Int32) (5 : Int32) (5 : Int32) h0 n0 (by decide)) hZ (hw _ (List.mem_of_getElem? (i := 64) rfl)) (hw _ (List.mem_of_getElem? (i := 63) rfl)) (by decide) (by decide)) (g := (mkF m 3 #[.val (.int (10 : Int32)), .val (.int (1 : Int32)), .val (.int (5 : Int32)), .unset] [(.int (5 : Int32)), (.int (1 : Int32)), (.int (10 : Int32))])) rfl (by rw [hml]; rfl) (argsL := [(.int (1 : Int32)), (.int (5 : Int32))]) (rest := [(.int (10 : Int32))]) (lenOf pd11_0 rfl) rfl (by show 2 * 0 + _ ≤ _; exact Nat.le_of_eq rfl) (hb hby d11_3) (fun _ _ => ⟨rfl, e0, (by decide : 0 + 0 ≤ _), (by decide : 0 + 0 ≤ _)⟩)
  dsimp only [Pt.U, Pt.locs, Pt.cells, Pt.slots] at X51 l51 y51 z51 st51 hQ51
  subst l51 y51 z51
  obtain ⟨rfl, Nq51, eq51⟩ := hQ51
  have N51 := Fr.app N0 Nq51
  refine own_t2 (.int (5 : Int32)) 6 st51 ?_
  refine own_t2 (.int (15 : Int32)) 7 (fun _ q => XS.iadd X51.here hx rfl (hb hby d11_6) rfl q) ?_
  refine own_ls #[.val (.int (10 : Int32)), .val (.int (1 : Int32)), .val (.int (5 : Int32)), .val (.int (15 : Int32))] 8 (fun _ q => XS.istoreN X51.here hx rfl (hb hby d11_7) rfl (l' := #[.val (.int (10 : Int32)), .val (.int (1 : Int32)), .val (.int (5 : Int32)), .val (.int (15 : Int32))]) rfl q) ?_
  refine own_tp (.int (0 : Int32)) 9 (fun _ q => XS.iconst X51.here hx rfl (hb hby d11_8) q) ?_
  refine own_tp (.int (15 : Int32)) 10 (fun _ q => XS.iloadN X51.here hx rfl (hb hby d11_9) rfl q) ?_
  refine own_d2 13 (fun _ q => XS.icmpNo X51.here hx rfl (hb hby d11_10) rfl (tlt (by decide : (0 : Int32) < (15 : Int32))).2.1 q) ?_
  refine own_tp (.int (15 : Int32)) 14 (fun _ q => XS.iloadN X51.here hx rfl (hb hby d11_13) rfl q) ?_
  refine own_tp (.int (2147483639 : Int32)) 16 (fun _ q => X51.ldcInt hx hown (mvT hZ (hw _ (List.mem_of_getElem? (i := 117) rfl))) (g := (mkF m 14 #[.val (.int (10 : Int32)), .val (.int (1 : Int32)), .val (.int (5 : Int32)), .val (.int (15 : Int32))] [(.int (15 : Int32))])) rfl (hb hby d11_14) _ q) ?_
  refine own_d2 19 (fun _ q => XS.icmpNo X51.here hx rfl (hb hby d11_16) rfl (flt (by decide : ¬ ((2147483639 : Int32) < (15 : Int32)))).2.2.1 q) ?_
  refine own_tp (.int (15 : Int32)) 20 (fun _ q => XS.iloadN X51.here hx rfl (hb hby d11_19) rfl q) ?_
  exact own_retI X51 hx hrt (hb hby d11_20) hlk (by decide) (by decide) eq51 (⟨rfl, N51, rfl⟩)

def Q13 (Z : State) (x1 : Addr) (h0 : Heap) (n0 : Nat) (v : Option Value) (h : Heap) (L : List Loc) : Prop := ∃ (b : Addr) (k : ClassId), v = some (.ref b) ∧ Fr n0 L ∧ Keep h0 h [] ∧ n0 ≤ b ∧ h0.size ≤ b ∧ Arv Z h b k (.object "java/lang/Object") (15 : Int32) [(.ref x1), (.ref x1), (.ref x1), (.ref x1), (.ref x1), (.ref x1), (.ref x1), (.ref x1), (.ref x1), (.ref x1), .null, .null, .null, .null, .null] .null ∧ Ovr Z k "java/lang/Object" ∧ Exa Z h b "[Ljava/lang/Object;"

theorem d13_0 : decode jdk_65_method_120_code 0 = .ok (.aload_n 2, 1) := by decide +kernel
theorem d13_1 : decode jdk_65_method_120_code 1 = .ok (.ldc 110, 2) := by decide +kernel
theorem d13_3 : decode jdk_65_method_120_code 3 = .ok (.if_acmp .ne 10, 3) := by decide +kernel
theorem d13_6 : decode jdk_65_method_120_code 6 = .ok (.iload_n 1, 1) := by decide +kernel
theorem d13_7 : decode jdk_65_method_120_code 7 = .ok (.anewarray 2, 3) := by decide +kernel
theorem d13_10 : decode jdk_65_method_120_code 10 = .ok (.goto 14, 3) := by decide +kernel
theorem d13_24 : decode jdk_65_method_120_code 24 = .ok (.astore_n 3, 1) := by decide +kernel
theorem d13_25 : decode jdk_65_method_120_code 25 = .ok (.aload_n 0, 1) := by decide +kernel
theorem d13_26 : decode jdk_65_method_120_code 26 = .ok (.iconst 0, 1) := by decide +kernel
theorem d13_27 : decode jdk_65_method_120_code 27 = .ok (.aload_n 3, 1) := by decide +kernel
theorem d13_28 : decode jdk_65_method_120_code 28 = .ok (.iconst 0, 1) := by decide +kernel
theorem d13_29 : decode jdk_65_method_120_code 29 = .ok (.aload_n 0, 1) := by decide +kernel
theorem d13_30 : decode jdk_65_method_120_code 30 = .ok (.arraylength, 1) := by decide +kernel
theorem d13_31 : decode jdk_65_method_120_code 31 = .ok (.iload_n 1, 1) := by decide +kernel
theorem d13_32 : decode jdk_65_method_120_code 32 = .ok (.invokestatic 304, 3) := by decide +kernel
theorem d13_35 : decode jdk_65_method_120_code 35 = .ok (.invokestatic 150, 3) := by decide +kernel
theorem d13_38 : decode jdk_65_method_120_code 38 = .ok (.aload_n 3, 1) := by decide +kernel
theorem d13_39 : decode jdk_65_method_120_code 39 = .ok (.areturn, 1) := by decide +kernel
theorem pn13 : plainName "java/util/Arrays" = true := by first | (simp [plainName, overriddenIn]; done) | decide +kernel
theorem pd13_0 : parseMethodDescriptor "(II)I" = some ⟨[.int, .int], some .int⟩ := by decide +kernel
theorem ef13 (m : MethodId) (x0 : Addr) (x1 : Int32) (x2 : Addr) : entryFrame m #[(.ref x0), (.int x1), (.ref x2)] 4 = mkF m 0 #[.val (.ref x0), .val (.int x1), .val (.ref x2), .unset] [] := by first | (simp [entryFrame, mkF, argsToLocals, Value.category]; done) | rfl
set_option maxRecDepth 65536 in
set_option maxHeartbeats 40000000 in
theorem rm13 (l : Launch) (Z : State) (a0 : Array Value) (hw : ∀ d ∈ tables_1, d.before a0 Z = true) (ws : List Jvm.Cond) (b1 x1 mr : Addr) (k1 : ClassId) (h0 : Heap) (n0 : Nat) (O0 : Old Z n0 h0) (Z0 : n0 ≤ h0.size) (V1 : Arv Z h0 b1 k1 (.object "java/lang/Object") (10 : Int32) [(.ref x1), (.ref x1), (.ref x1), (.ref x1), (.ref x1), (.ref x1), (.ref x1), (.ref x1), (.ref x1), (.ref x1)] .null) (Eb : Exa Z h0 b1 "[Ljava/lang/Object;") (Ex : Exa Z Z.heap x1 "com/example/kalends/kalends/ContractPeriod$Length") (Mr : Mir0 Z mr) :
    own_Met l (⟨"java/util/Arrays", "copyOf", "([Ljava/lang/Object;ILjava/lang/Class;)[Ljava/lang/Object;"⟩ : MethodName) jdk_65_method_120_code 4 (some (.array (.object "java/lang/Object"))) ws ({ frames := 2, cells := 1, slots := 15, locals := 48 } : Room) Z #[(.ref b1), (.int (15 : Int32)), (.ref mr)] h0 (Q13 Z x1 h0 n0) := by
  refine own_enter #[.val (.ref b1), .val (.int (15 : Int32)), .val (.ref mr), .unset] (plainFor_of_name pn13) (fun m => ef13 m b1 (15 : Int32) mr) ?_
  intro p e s m below meth c s₁ hx hby hml hown hnm hZ hrt hlk X0 e0
  have N0 := Fr.nil n0
  refine own_tp (.ref mr) 1 (fun _ q => XS.aloadN X0.here hx rfl (hb hby d13_0) rfl rfl q) ?_
  obtain ⟨T51, X51, e51, st51⟩ := own_ldcM X0 hx hZ hown (hw _ (List.mem_of_getElem? (i := 131) rfl)) Mr e0 (g := (mkF m 1 #[.val (.ref b1), .val (.int (15 : Int32)), .val (.ref mr), .unset] [(.ref mr)])) rfl (hb hby d13_1)
  refine own_tp (.ref mr) 3 st51 ?_
  refine own_d2 6 (fun _ q => Jvm.RoadKit.acmp (g := (mkF m 3 #[.val (.ref b1), .val (.int (15 : Int32)), .val (.ref mr), .unset] [(.ref mr), (.ref mr)])) X51 hx rfl rfl rfl (pc0 := 3) (pc' := 6) (same := true) rfl (hb hby d13_3) rfl (decide_eq_true rfl) (by decide) (by decide) q) ?_
  refine own_tp (.int (15 : Int32)) 7 (fun _ q => XS.iloadN X51.here hx rfl (hb hby d13_6) rfl q) ?_
  obtain ⟨T52, h52, k52, X52, e52, E52, A52, Ea52, Ov52, st52⟩ := newRE X51 hx hZ hown (hw _ (List.mem_of_getElem? (i := 132) rfl)) (hw _ (List.mem_of_getElem? (i := 66) rfl)) e51 (g := (mkF m 7 #[.val (.ref b1), .val (.int (15 : Int32)), .val (.ref mr), .unset] [(.int (15 : Int32))])) rfl (hb hby d13_7) rfl (by decide) (cap := 15) (by decide) (by decide) (by decide) (by decide) (ad := "[Ljava/lang/Object;") rfl
  obtain ⟨b52, g52⟩ : ∃ z, z = h0.size := ⟨_, rfl⟩
  rw [← g52] at A52 Ea52 st52
  have V52 : Arv Z h52 b52 k52 (.object "java/lang/Object") (15 : Int32) [.null, .null, .null, .null, .null, .null, .null, .null, .null, .null, .null, .null, .null, .null, .null] .null := (Arv.new A52 (by decide)).pad (pad_rep [] .null 15)
  have ge52 : n0 ≤ b52 := Nat.le_trans Z0 (Nat.le_of_eq g52.symm)
  have sz52 : h0.size ≤ b52 := Nat.le_trans (Keep.refl h0 []).1 (Nat.le_of_eq g52.symm)
  have ne53 : b1 ≠ b52 := Nat.ne_of_lt (Nat.lt_of_lt_of_le V1.lt (Nat.le_of_eq g52.symm))
  have O52 := Old.ext O0 E52
  have K52 : Keep h0 h52 [] := (Keep.refl h0 []).ext E52
  have Z52 : n0 ≤ h52.size := Nat.le_trans Z0 E52.1
  refine own_t1 (.ref b52) 10 st52 ?_
  refine own_d0 24 (fun _ q => XS.goto X52.here hx rfl (pc0 := 10) (pc' := 24) rfl (hb hby d13_10) (by decide) (by decide) q) ?_
  refine own_ls #[.val (.ref b1), .val (.int (15 : Int32)), .val (.ref mr), .val (.ref b52)] 25 (fun _ q => XS.astoreN X52.here hx rfl (hb hby d13_24) rfl rfl (l' := #[.val (.ref b1), .val (.int (15 : Int32)), .val (.ref mr), .val (.ref b52)]) rfl q) ?_
  refine own_tp (.ref b1) 26 (fun _ q => XS.aloadN X52.here hx rfl (hb hby d13_25) rfl rfl q) ?_
  refine own_tp (.int (0 : Int32)) 27 (fun _ q => XS.iconst X52.here hx rfl (hb hby d13_26) q) ?_
  refine own_tp (.ref b52) 28 (fun _ q => XS.aloadN X52.here hx rfl (hb hby d13_27) rfl rfl q) ?_
  refine own_tp (.int (0 : Int32)) 29 (fun _ q => XS.iconst X52.here hx rfl (hb hby d13_28) q) ?_
  refine own_tp (.ref b1) 30 (fun _ q => XS.aloadN X52.here hx rfl (hb hby d13_29) rfl rfl q) ?_
  have f54 := (V1.ext E52)
  obtain ⟨cl55, Ar55, -, Sz55, Nn55, -, -⟩ := (id f54)
  refine own_t1 (.int (10 : Int32)) 31 (fun t q => X52.arraylength hx (by rw [e52]; exact Ar55.1) (State.isArrayOf_alike hZ.alike Ar55.2.1) (g := (mkF m 30 #[.val (.ref b1), .val (.int (15 : Int32)), .val (.ref mr), .val (.ref b52)] [(.ref b1), (.int (0 : Int32)), (.ref b52), (.int (0 : Int32)), (.ref b1)])) rfl rfl (hb hby d13_30) _ (by rw [len_of Sz55 Nn55]; exact q)) ?_
  refine own_tp (.int (15 : Int32)) 32 (fun _ q => XS.iloadN X52.here hx rfl (hb hby d13_31) rfl q) ?_
  obtain ⟨_, _, ⟨T56, L56, k56, n56⟩, -, X56, ⟨Lc56, hQ56, l56, y56, z56⟩, st56⟩ := Jvm.LawKit.callS X52 hx (y := (⟨"java/lang/Math", "min", "(II)I"⟩ : MethodName)) hown (mvT hZ (hw _ (List.mem_of_getElem? (i := 133) rfl))) (mvT hZ (hw _ (List.mem_of_getElem? (i := 134) rfl))) (mvT hZ (hw _ (List.mem_of_getElem? (i := 63) rfl))) (mvT hZ (hw _ (List.mem_of_getElem? (i := 135) rfl))) (by decide) (backOf (W := 4) (rm12 l Z a0 hw [] (10 : Int32) (15 : Int32) (10 : Int32) h52 n0 (by decide)) hZ (hw _ (List.mem_of_getElem? (i := 135) rfl)) (hw _ (List.mem_of_getElem? (i := 63) rfl)) (by decide) (by decide)) (g := (mkF m 32 #[.val (.ref b1), .val (.int (15 : Int32)), .val (.ref mr), .val (.ref b52)] [(.int (15 : Int32)), (.int (10 : Int32)), (.int (0 : Int32)), (.ref b52), (.int (0 : Int32)), (.ref b1)])) rfl (by rw [hml]; rfl) (argsL := [(.int (10 : Int32)), (.int (15 : Int32))]) (rest := [(.int (0 : Int32)), (.ref b52), (.int (0 : Int32)), (.ref b1)]) (lenOf pd13_0 rfl) rfl (by show 2 * 0 + _ ≤ _; exact Nat.le_of_eq rfl) (hb hby d13_32) (fun _ _ => ⟨rfl, e52, (by decide : 1 + 0 ≤ _), (by decide : 15 + 0 ≤ _)⟩)
  dsimp only [Pt.U, Pt.locs, Pt.cells, Pt.slots] at X56 l56 y56 z56 st56 hQ56
  subst l56 y56 z56
  obtain ⟨rfl, Nq56, eq56⟩ := hQ56
  have N56 := Fr.app N0 Nq56
  refine own_d1 35 st56 ?_
  obtain ⟨cl57, Ar57, q57, -⟩ := (id V52)
  obtain ⟨T58, h58, L58, X58, e58, N58, K58, V58, st58⟩ := cpA X56 hx hZ hown (hw _ (List.mem_of_getElem? (i := 136) rfl)) (hw _ (List.mem_of_getElem? (i := 139) rfl)) (hw _ (List.mem_of_getElem? (i := 137) rfl)) (hw _ (List.mem_of_getElem? (i := 138) rfl)) eq56 f54 V52 (us := [(.ref x1), (.ref x1), (.ref x1), (.ref x1), (.ref x1), (.ref x1), (.ref x1), (.ref x1), (.ref x1), (.ref x1)]) (Or.inr ⟨rfl, rfl, ⟨Sto.ofV Ar57 q57 Ov52 (Ins.of_exa (Ex.ext O52.2) (hw _ (List.mem_of_getElem? (i := 67) rfl))), ⟨Sto.ofV Ar57 q57 Ov52 (Ins.of_exa (Ex.ext O52.2) (hw _ (List.mem_of_getElem? (i := 67) rfl))), ⟨Sto.ofV Ar57 q57 Ov52 (Ins.of_exa (Ex.ext O52.2) (hw _ (List.mem_of_getElem? (i := 67) rfl))), ⟨Sto.ofV Ar57 q57 Ov52 (Ins.of_exa (Ex.ext O52.2) (hw _ (List.mem_of_getElem? (i := 67) rfl))), ⟨Sto.ofV Ar57 q57 Ov52 (Ins.of_exa (Ex.ext O52.2) (hw _ (List.mem_of_getElem? (i := 67) rfl))), ⟨Sto.ofV Ar57 q57 Ov52 (Ins.of_exa (Ex.ext O52.2) (hw _ (List.mem_of_getElem? (i := 67) rfl))), ⟨Sto.ofV Ar57 q57 Ov52 (Ins.of_exa (Ex.ext O52.2) (hw _ (List.mem_of_getElem? (i := 67) rfl))), ⟨Sto.ofV Ar57 q57 Ov52 (Ins.of_exa (Ex.ext O52.2) (hw _ (List.mem_of_getElem? (i := 67) rfl))), ⟨Sto.ofV Ar57 q57 Ov52 (Ins.of_exa (Ex.ext O52.2) (hw _ (List.mem_of_getElem? (i := 67) rfl))), ⟨Sto.ofV Ar57 q57 Ov52 (Ins.of_exa (Ex.ext O52.2) (hw _ (List.mem_of_getElem? (i := 67) rfl))), trivial⟩⟩⟩⟩⟩⟩⟩⟩⟩⟩⟩) (by decide) (by decide) (by decide) (by decide) (by decide) rfl (by decide) N56 ge52 (g := (mkF m 35 #[.val (.ref b1), .val (.int (15 : Int32)), .val (.ref mr), .val (.ref b52)] [(.int (10 : Int32)), (.int (0 : Int32)), (.ref b52), (.int (0 : Int32)), (.ref b1)])) rfl (by rw [hml]; rfl) (rest := []) rfl (hb hby d13_35) (by decide) (W := 0) (by show 2 * 0 + _ ≤ _; exact Nat.le_of_eq rfl) (by decide)
  have O58 := Old.keep O52 K58 (allS ge52 all0)
  have Kk58 : Keep h0 h58 [] := K52.trans K58 (allS (Or.inr sz52) all0)
  have Va58 : Arv Z h58 b52 k52 (.object "java/lang/Object") (15 : Int32) [(.ref x1), (.ref x1), (.ref x1), (.ref x1), (.ref x1), (.ref x1), (.ref x1), (.ref x1), (.ref x1), (.ref x1), .null, .null, .null, .null, .null] .null := V58
  refine own_cs [] 38 st58 ?_
  refine own_tp (.ref b52) 39 (fun _ q => XS.aloadN X58.here hx rfl (hb hby d13_38) rfl rfl q) ?_
  have f59 := (Ea52.keep K58)
  exact own_retR X58 hx hrt (hb hby d13_39) rfl rfl hlk (by decide) (by decide) e58 (⟨b52, k52, rfl, N58, Kk58, ge52, sz52, Va58, Ov52, f59⟩)

def Q14 (Z : State) (x1 : Addr) (h0 : Heap) (n0 : Nat) (v : Option Value) (h : Heap) (L : List Loc) : Prop := ∃ (b : Addr) (k : ClassId), v = some (.ref b) ∧ Fr n0 L ∧ Keep h0 h [] ∧ n0 ≤ b ∧ h0.size ≤ b ∧ Arv Z h b k (.object "java/lang/Object") (15 : Int32) [(.ref x1), (.ref x1), (.ref x1), (.ref x1), (.ref x1), (.ref x1), (.ref x1), (.ref x1), (.ref x1), (.ref x1), .null, .null, .null, .null, .null] .null ∧ Ovr Z k "java/lang/Object" ∧ Exa Z h b "[Ljava/lang/Object;"

theorem d14_0 : decode jdk_65_method_119_code 0 = .ok (.aload_n 0, 1) := by decide +kernel
theorem d14_1 : decode jdk_65_method_119_code 1 = .ok (.iload_n 1, 1) := by decide +kernel
theorem d14_2 : decode jdk_65_method_119_code 2 = .ok (.aload_n 0, 1) := by decide +kernel
theorem d14_3 : decode jdk_65_method_119_code 3 = .ok (.invokevirtual 86, 3) := by decide +kernel
theorem d14_6 : decode jdk_65_method_119_code 6 = .ok (.invokestatic 300, 3) := by decide +kernel
theorem d14_9 : decode jdk_65_method_119_code 9 = .ok (.areturn, 1) := by decide +kernel
theorem pn14 : plainName "java/util/Arrays" = true := by first | (simp [plainName, overriddenIn]; done) | decide +kernel
theorem pd14_0 : parseMethodDescriptor "([Ljava/lang/Object;ILjava/lang/Class;)[Ljava/lang/Object;" = some ⟨[(.array (.object "java/lang/Object")), .int, (.object "java/lang/Class")], some (.array (.object "java/lang/Object"))⟩ := by decide +kernel
theorem ef14 (m : MethodId) (x0 : Addr) (x1 : Int32) : entryFrame m #[(.ref x0), (.int x1)] 2 = mkF m 0 #[.val (.ref x0), .val (.int x1)] [] := by first | (simp [entryFrame, mkF, argsToLocals, Value.category]; done) | rfl
set_option maxRecDepth 65536 in
set_option maxHeartbeats 40000000 in
theorem rm14 (l : Launch) (Z : State) (a0 : Array Value) (hw : ∀ d ∈ tables_1, d.before a0 Z = true) (ws : List Jvm.Cond) (b1 x1 mr : Addr) (k1 : ClassId) (h0 : Heap) (n0 : Nat) (O0 : Old Z n0 h0) (Z0 : n0 ≤ h0.size) (V1 : Arv Z h0 b1 k1 (.object "java/lang/Object") (10 : Int32) [(.ref x1), (.ref x1), (.ref x1), (.ref x1), (.ref x1), (.ref x1), (.ref x1), (.ref x1), (.ref x1), (.ref x1)] .null) (Eb : Exa Z h0 b1 "[Ljava/lang/Object;") (Ex : Exa Z Z.heap x1 "com/example/kalends/kalends/ContractPeriod$Length") (Mr : Mir0 Z mr) :
    own_Met l (⟨"java/util/Arrays", "copyOf", "([Ljava/lang/Object;I)[Ljava/lang/Object;"⟩ : MethodName) jdk_65_method_119_code 2 (some (.array (.object "java/lang/Object"))) ws ({ frames := 3, cells := 1, slots := 15, locals := 63 } : Room) Z #[(.ref b1), (.int (15 : Int32))] h0 (Q14 Z x1 h0 n0) := by
  refine own_enter #[.val (.ref b1), .val (.int (15 : Int32))] (plainFor_of_name pn14) (fun m => ef14 m b1 (15 : Int32)) ?_
  intro p e s m below meth c s₁ hx hby hml hown hnm hZ hrt hlk X0 e0
  have N0 := Fr.nil n0
  refine own_tp (.ref b1) 1 (fun _ q => XS.aloadN X0.here hx rfl (hb hby d14_0) rfl rfl q) ?_
  refine own_tp (.int (15 : Int32)) 2 (fun _ q => XS.iloadN X0.here hx rfl (hb hby d14_1) rfl q) ?_
  refine own_tp (.ref b1) 3 (fun _ q => XS.aloadN X0.here hx rfl (hb hby d14_2) rfl rfl q) ?_
  obtain ⟨T51, X51, e51, st51⟩ := own_getC X0 hx hZ hown (hw _ (List.mem_of_getElem? (i := 122) rfl)) (hw _ (List.mem_of_getElem? (i := 123) rfl)) (hw _ (List.mem_of_getElem? (i := 125) rfl)) (hw _ (List.mem_of_getElem? (i := 124) rfl)) (hw _ (List.mem_of_getElem? (i := 126) rfl)) e0 Eb Mr (g := (mkF m 3 #[.val (.ref b1), .val (.int (15 : Int32))] [(.ref b1), (.int (15 : Int32)), (.ref b1)])) rfl (by rw [hml]; rfl) (rest := [(.int (15 : Int32)), (.ref b1)]) rfl (hb hby d14_3) (by decide) (by show 2 * 0 + 2 + (nativeFrameWords "java/lang/Object" "getClass" 1 + 11) ≤ 63; decide)
  refine own_t1 (.ref mr) 6 st51 ?_
  obtain ⟨_, _, ⟨T52, L52, k52, n52⟩, -, X52, ⟨Lc52, hQ52, l52, y52, z52⟩, st52⟩ := Jvm.LawKit.callS X51 hx (y := (⟨"java/util/Arrays", "copyOf", "([Ljava/lang/Object;ILjava/lang/Class;)[Ljava/lang/Object;"⟩ : MethodName)) hown (mvT hZ (hw _ (List.mem_of_getElem? (i := 128) rfl))) (mvT hZ (hw _ (List.mem_of_getElem? (i := 129) rfl))) (mvT hZ (hw _ (List.mem_of_getElem? (i := 120) rfl))) (mvT hZ (hw _ (List.mem_of_getElem? (i := 130) rfl))) (by decide) (backOf (W := 0) (rm13 l Z a0 hw [] b1 x1 mr k1 h0 n0 O0 Z0 V1 Eb Ex Mr) hZ (hw _ (List.mem_of_getElem? (i := 130) rfl)) (hw _ (List.mem_of_getElem? (i := 120) rfl)) (by decide) (by decide)) (g := (mkF m 6 #[.val (.ref b1), .val (.int (15 : Int32))] [(.ref mr), (.int (15 : Int32)), (.ref b1)])) rfl (by rw [hml]; rfl) (argsL := [(.ref b1), (.int (15 : Int32)), (.ref mr)]) (rest := []) (lenOf pd14_0 rfl) rfl (by show 2 * 0 + _ ≤ _; exact Nat.le_of_eq rfl) (hb hby d14_6) (fun _ _ => ⟨rfl, e51, (by decide : 0 + 1 ≤ _), (by decide : 0 + 15 ≤ _)⟩)
  dsimp only [Pt.U, Pt.locs, Pt.cells, Pt.slots] at X52 l52 y52 z52 st52 hQ52
  subst l52 y52 z52
  obtain ⟨bq52, kq52, rfl, Nq52, Kp52, ge52, sz52, V52, Ov52, Eb52⟩ := hQ52
  have N52 := Fr.app N0 Nq52
  have ne53 : b1 ≠ bq52 := Nat.ne_of_lt (Nat.lt_of_lt_of_le V1.lt sz52)
  have O52 := Old.keep O0 Kp52 all0
  have Kk52 : Keep h0 T52.heap [] := (Keep.refl h0 []).trans Kp52 all0
  have sx52 : h0.size ≤ bq52 := Nat.le_trans (Keep.refl h0 []).1 sz52
  refine own_cs [(.ref bq52)] 9 st52 ?_
  exact own_retR X52 hx hrt (hb hby d14_9) rfl rfl hlk (by decide) (by decide) rfl (⟨bq52, kq52, rfl, N52, Kk52, ge52, sx52, V52, Ov52, Eb52⟩)

def Q15 (Z : State) (a1 x1 : Addr) (z1 g1 : Int32) (h0 : Heap) (n0 : Nat) (v : Option Value) (h : Heap) (L : List Loc) : Prop := ∃ (b : Addr) (k : ClassId), v = some (.ref b) ∧ Fr n0 L ∧ Old Z n0 h ∧ own_L Z n0 h a1 b k (10 : Int32) g1 (15 : Int32) [(.ref x1), (.ref x1), (.ref x1), (.ref x1), (.ref x1), (.ref x1), (.ref x1), (.ref x1), (.ref x1), (.ref x1), .null, .null, .null, .null, .null]

theorem d15_0 : decode jdk_38_method_6_code 0 = .ok (.aload_n 0, 1) := by decide +kernel
theorem d15_1 : decode jdk_38_method_6_code 1 = .ok (.getfield 9, 3) := by decide +kernel
theorem d15_4 : decode jdk_38_method_6_code 4 = .ok (.arraylength, 1) := by decide +kernel
theorem d15_5 : decode jdk_38_method_6_code 5 = .ok (.istore_n 2, 1) := by decide +kernel
theorem d15_6 : decode jdk_38_method_6_code 6 = .ok (.iload_n 2, 1) := by decide +kernel
theorem d15_7 : decode jdk_38_method_6_code 7 = .ok (.ifCond .gt 13, 3) := by decide +kernel
theorem d15_20 : decode jdk_38_method_6_code 20 = .ok (.iload_n 2, 1) := by decide +kernel
theorem d15_21 : decode jdk_38_method_6_code 21 = .ok (.iload_n 1, 1) := by decide +kernel
theorem d15_22 : decode jdk_38_method_6_code 22 = .ok (.iload_n 2, 1) := by decide +kernel
theorem d15_23 : decode jdk_38_method_6_code 23 = .ok (.isub, 1) := by decide +kernel
theorem d15_24 : decode jdk_38_method_6_code 24 = .ok (.iload_n 2, 1) := by decide +kernel
theorem d15_25 : decode jdk_38_method_6_code 25 = .ok (.iconst 1, 1) := by decide +kernel
theorem d15_26 : decode jdk_38_method_6_code 26 = .ok (.ishr, 1) := by decide +kernel
theorem d15_27 : decode jdk_38_method_6_code 27 = .ok (.invokestatic 73, 3) := by decide +kernel
theorem d15_30 : decode jdk_38_method_6_code 30 = .ok (.istore_n 3, 1) := by decide +kernel
theorem d15_31 : decode jdk_38_method_6_code 31 = .ok (.aload_n 0, 1) := by decide +kernel
theorem d15_32 : decode jdk_38_method_6_code 32 = .ok (.aload_n 0, 1) := by decide +kernel
theorem d15_33 : decode jdk_38_method_6_code 33 = .ok (.getfield 9, 3) := by decide +kernel
theorem d15_36 : decode jdk_38_method_6_code 36 = .ok (.iload_n 3, 1) := by decide +kernel
theorem d15_37 : decode jdk_38_method_6_code 37 = .ok (.invokestatic 66, 3) := by decide +kernel
theorem d15_40 : decode jdk_38_method_6_code 40 = .ok (.dup_x1, 1) := by decide +kernel
theorem d15_41 : decode jdk_38_method_6_code 41 = .ok (.putfield 9, 3) := by decide +kernel
theorem d15_44 : decode jdk_38_method_6_code 44 = .ok (.areturn, 1) := by decide +kernel
theorem pn15 : plainName "java/util/ArrayList" = true := by first | (simp [plainName, overriddenIn]; done) | decide +kernel
theorem pd15_0 : parseMethodDescriptor "(III)I" = some ⟨[.int, .int, .int], some .int⟩ := by decide +kernel
theorem pd15_1 : parseMethodDescriptor "([Ljava/lang/Object;I)[Ljava/lang/Object;" = some ⟨[(.array (.object "java/lang/Object")), .int], some (.array (.object "java/lang/Object"))⟩ := by decide +kernel
theorem ef15 (m : MethodId) (x0 : Addr) (x1 : Int32) : entryFrame m #[(.ref x0), (.int x1)] 4 = mkF m 0 #[.val (.ref x0), .val (.int x1), .unset, .unset] [] := by first | (simp [entryFrame, mkF, argsToLocals, Value.category]; done) | rfl
set_option maxRecDepth 65536 in
set_option maxHeartbeats 40000000 in
theorem rm15 (l : Launch) (Z : State) (a0 : Array Value) (hw : ∀ d ∈ tables_1, d.before a0 Z = true) (ws : List Jvm.Cond) (a1 x1 b1 mr : Addr) (k1 : ClassId) (g1 : Int32) (h0 : Heap) (n0 : Nat) (O0 : Old Z n0 h0) (LL : own_L Z n0 h0 a1 b1 k1 (10 : Int32) g1 (10 : Int32) [(.ref x1), (.ref x1), (.ref x1), (.ref x1), (.ref x1), (.ref x1), (.ref x1), (.ref x1), (.ref x1), (.ref x1)]) (Ex : Exa Z Z.heap x1 "com/example/kalends/kalends/ContractPeriod$Length") (Mr : Mir0 Z mr) :
    own_Met l (⟨"java/util/ArrayList", "grow", "(I)[Ljava/lang/Object;"⟩ : MethodName) jdk_38_method_6_code 4 (some (.array (.object "java/lang/Object"))) ws ({ frames := 4, cells := 1, slots := 15, locals := 77 } : Room) Z #[(.ref a1), (.int (11 : Int32))] h0 (Q15 Z a1 x1 0 g1 h0 n0) := by
  refine own_enter #[.val (.ref a1), .val (.int (11 : Int32)), .unset, .unset] (plainFor_of_name pn15) (fun m => ef15 m a1 (11 : Int32)) ?_
  intro p e s m below meth c s₁ hx hby hml hown hnm hZ hrt hlk X0 e0
  have N0 := Fr.nil n0
  obtain ⟨Ea51, Fe51, Fs51, Fg51, Vb51, Ov51, Eb51, ga51, gb51, nab51⟩ := LL
  refine own_tp (.ref a1) 1 (fun _ q => XS.aloadN X0.here hx rfl (hb hby d15_0) rfl rfl q) ?_
  obtain ⟨T52, X52, e52, st52⟩ := getF X0 hx hZ hown (host := "") (Or.inl (hw _ (List.mem_of_getElem? (i := 24) rfl))) Via.refl e0 Fe51 (g := (mkF m 1 #[.val (.ref a1), .val (.int (11 : Int32)), .unset, .unset] [(.ref a1)])) rfl rfl (hb hby d15_1)
  refine own_t1 (.ref b1) 4 st52 ?_
  obtain ⟨cl53, Ar53, -, Sz53, Nn53, -, -⟩ := (id Vb51)
  refine own_t1 (.int (10 : Int32)) 5 (fun t q => X52.arraylength hx (by rw [e52]; exact Ar53.1) (State.isArrayOf_alike hZ.alike Ar53.2.1) (g := (mkF m 4 #[.val (.ref a1), .val (.int (11 : Int32)), .unset, .unset] [(.ref b1)])) rfl rfl (hb hby d15_4) _ (by rw [len_of Sz53 Nn53]; exact q)) ?_
  refine own_ls #[.val (.ref a1), .val (.int (11 : Int32)), .val (.int (10 : Int32)), .unset] 6 (fun _ q => XS.istoreN X52.here hx rfl (hb hby d15_5) rfl (l' := #[.val (.ref a1), .val (.int (11 : Int32)), .val (.int (10 : Int32)), .unset]) rfl q) ?_
  refine own_tp (.int (10 : Int32)) 7 (fun _ q => XS.iloadN X52.here hx rfl (hb hby d15_6) rfl q) ?_
  refine own_d1 20 (fun _ q => XS.ifYes X52.here hx rfl (pc0 := 7) (pc' := 20) rfl (hb hby d15_7) rfl ((if0 _ _).trans (tlt (by decide : (0 : Int32) < (10 : Int32))).2.2.1) (by decide) (by decide) q) ?_
  refine own_tp (.int (10 : Int32)) 21 (fun _ q => XS.iloadN X52.here hx rfl (hb hby d15_20) rfl q) ?_
  refine own_tp (.int (11 : Int32)) 22 (fun _ q => XS.iloadN X52.here hx rfl (hb hby d15_21) rfl q) ?_
  refine own_tp (.int (10 : Int32)) 23 (fun _ q => XS.iloadN X52.here hx rfl (hb hby d15_22) rfl q) ?_
  refine own_t2 (.int (1 : Int32)) 24 (fun _ q => XS.isub X52.here hx rfl (hb hby d15_23) rfl q) ?_
  refine own_tp (.int (10 : Int32)) 25 (fun _ q => XS.iloadN X52.here hx rfl (hb hby d15_24) rfl q) ?_
  refine own_tp (.int (1 : Int32)) 26 (fun _ q => XS.iconst X52.here hx rfl (hb hby d15_25) q) ?_
  refine own_t2 (.int (5 : Int32)) 27 (fun _ q => XS.ishr X52.here hx rfl (hb hby d15_26) rfl q) ?_
  obtain ⟨_, _, ⟨T54, L54, k54, n54⟩, -, X54, ⟨Lc54, hQ54, l54, y54, z54⟩, st54⟩ := Jvm.LawKit.callS X52 hx (y := (⟨"jdk/internal/util/ArraysSupport", "newLength", "(III)I"⟩ : MethodName)) hown (mvT hZ (hw _ (List.mem_of_getElem? (i := 112) rfl))) (mvT hZ (hw _ (List.mem_of_getElem? (i := 113) rfl))) (mvT hZ (hw _ (List.mem_of_getElem? (i := 114) rfl))) (mvT hZ (hw _ (List.mem_of_getElem? (i := 115) rfl))) (by decide) (backOf (W := 0) (rm11 l Z a0 hw [] h0 n0) hZ (hw _ (List.mem_of_getElem? (i := 115) rfl)) (hw _ (List.mem_of_getElem? (i := 114) rfl)) (by decide) (by decide)) (g := (mkF m 27 #[.val (.ref a1), .val (.int (11 : Int32)), .val (.int (10 : Int32)), .unset] [(.int (5 : Int32)), (.int (1 : Int32)), (.int (10 : Int32))])) rfl (by rw [hml]; rfl) (argsL := [(.int (10 : Int32)), (.int (1 : Int32)), (.int (5 : Int32))]) (rest := []) (lenOf pd15_0 rfl) rfl (by show 2 * 0 + _ ≤ _; exact Nat.le_of_eq rfl) (hb hby d15_27) (fun _ _ => ⟨rfl, e52, (by decide : 0 + 0 ≤ _), (by decide : 0 + 0 ≤ _)⟩)
  dsimp only [Pt.U, Pt.locs, Pt.cells, Pt.slots] at X54 l54 y54 z54 st54 hQ54
  subst l54 y54 z54
  obtain ⟨rfl, Nq54, eq54⟩ := hQ54
  have N54 := Fr.app N0 Nq54
  refine own_cs [(.int (15 : Int32))] 30 st54 ?_
  refine own_ls #[.val (.ref a1), .val (.int (11 : Int32)), .val (.int (10 : Int32)), .val (.int (15 : Int32))] 31 (fun _ q => XS.istoreN X54.here hx rfl (hb hby d15_30) rfl (l' := #[.val (.ref a1), .val (.int (11 : Int32)), .val (.int (10 : Int32)), .val (.int (15 : Int32))]) rfl q) ?_
  refine own_tp (.ref a1) 32 (fun _ q => XS.aloadN X54.here hx rfl (hb hby d15_31) rfl rfl q) ?_
  refine own_tp (.ref a1) 33 (fun _ q => XS.aloadN X54.here hx rfl (hb hby d15_32) rfl rfl q) ?_
  obtain ⟨T55, X55, e55, st55⟩ := getF X54 hx hZ hown (host := "") (Or.inl (hw _ (List.mem_of_getElem? (i := 24) rfl))) Via.refl eq54 Fe51 (g := (mkF m 33 #[.val (.ref a1), .val (.int (11 : Int32)), .val (.int (10 : Int32)), .val (.int (15 : Int32))] [(.ref a1), (.ref a1)])) rfl rfl (hb hby d15_33)
  refine own_t1 (.ref b1) 36 st55 ?_
  refine own_tp (.int (15 : Int32)) 37 (fun _ q => XS.iloadN X55.here hx rfl (hb hby d15_36) rfl q) ?_
  obtain ⟨_, _, ⟨T56, L56, k56, n56⟩, -, X56, ⟨Lc56, hQ56, l56, y56, z56⟩, st56⟩ := Jvm.LawKit.callS X55 hx (y := (⟨"java/util/Arrays", "copyOf", "([Ljava/lang/Object;I)[Ljava/lang/Object;"⟩ : MethodName)) hown (mvT hZ (hw _ (List.mem_of_getElem? (i := 118) rfl))) (mvT hZ (hw _ (List.mem_of_getElem? (i := 119) rfl))) (mvT hZ (hw _ (List.mem_of_getElem? (i := 120) rfl))) (mvT hZ (hw _ (List.mem_of_getElem? (i := 121) rfl))) (by decide) (backOf (W := 1) (rm14 l Z a0 hw [] b1 x1 mr k1 h0 n0 O0 (Nat.le_trans ga51 (Nat.le_of_lt Ea51.lt)) Vb51 Eb51 Ex Mr) hZ (hw _ (List.mem_of_getElem? (i := 121) rfl)) (hw _ (List.mem_of_getElem? (i := 120) rfl)) (by decide) (by decide)) (g := (mkF m 37 #[.val (.ref a1), .val (.int (11 : Int32)), .val (.int (10 : Int32)), .val (.int (15 : Int32))] [(.int (15 : Int32)), (.ref b1), (.ref a1)])) rfl (by rw [hml]; rfl) (argsL := [(.ref b1), (.int (15 : Int32))]) (rest := [(.ref a1)]) (lenOf pd15_1 rfl) rfl (by show 2 * 0 + _ ≤ _; exact Nat.le_of_eq rfl) (hb hby d15_37) (fun _ _ => ⟨rfl, e55, (by decide : 0 + 1 ≤ _), (by decide : 0 + 15 ≤ _)⟩)
  dsimp only [Pt.U, Pt.locs, Pt.cells, Pt.slots] at X56 l56 y56 z56 st56 hQ56
  subst l56 y56 z56
  obtain ⟨bq56, kq56, rfl, Nq56, Kp56, ge56, sz56, V56, Ov56, Eb56⟩ := hQ56
  have N56 := Fr.app N54 Nq56
  have ne57 : a1 ≠ bq56 := Nat.ne_of_lt (Nat.lt_of_lt_of_le Ea51.lt sz56)
  have ne58 : b1 ≠ bq56 := Nat.ne_of_lt (Nat.lt_of_lt_of_le Vb51.lt sz56)
  have O56 := Old.keep O0 Kp56 all0
  refine own_t2 (.ref bq56) 40 st56 ?_
  refine own_cs [(.ref bq56), (.ref a1), (.ref bq56)] 41 (fun _ q => XS.dupX1 X56.here hx rfl (hb hby d15_40) rfl rfl rfl q) ?_
  have f59 := (Fe51.keep Kp56 nin0)
  have f60 := (Ea51.keep Kp56)
  obtain ⟨T61, h61, X61, e61, W61, st61⟩ := putF X56 hx hZ hown (host := "") (Or.inl (hw _ (List.mem_of_getElem? (i := 24) rfl))) Via.refl rfl f59 f60 (Or.inl (hw _ (List.mem_of_getElem? (i := 25) rfl))) (hw _ (List.mem_of_getElem? (i := 1) rfl)) (ty := (.array (.object "java/lang/Object"))) (by decide) rfl rfl (g := (mkF m 41 #[.val (.ref a1), .val (.int (11 : Int32)), .val (.int (10 : Int32)), .val (.int (15 : Int32))] [(.ref bq56), (.ref a1), (.ref bq56)])) rfl rfl (hb hby d15_41)
  have Fw61 := f59.same W61
  have N61 := Fr.snoc X61 N56 ga51
  have O61 := Old.wr O56 W61 ga51
  refine own_d2 44 st61 ?_
  have f62 := (f60.wr W61)
  have f63 := ((Fs51.keep Kp56 nin0).other W61 (Or.inr (slot_ne (Or.inl (hw _ (List.mem_of_getElem? (i := 45) rfl))) (Or.inl (hw _ (List.mem_of_getElem? (i := 25) rfl))) (by decide) (t := .int) (t' := (.array (.object "java/lang/Object"))) (by decide) (by decide))))
  have f64 := ((Fg51.keep Kp56 nin0).other W61 (Or.inr (slot_ne (Or.inl (hw _ (List.mem_of_getElem? (i := 22) rfl))) (Or.inl (hw _ (List.mem_of_getElem? (i := 25) rfl))) (by decide) (t := .int) (t' := (.array (.object "java/lang/Object"))) (by decide) (by decide))))
  have f65 := (V56.other W61 (Ne.symm ne57))
  have f66 := (Eb56.wr W61)
  exact own_retR X61 hx hrt (hb hby d15_44) rfl rfl hlk (by decide) (by decide) e61 (⟨bq56, kq56, rfl, N61, O61, ⟨f62, Fw61, f63, f64, f65, Ov56, f66, ga51, ge56, ne57⟩⟩)

def Q16 (Z : State) (a1 x1 : Addr) (z1 g1 : Int32) (h0 : Heap) (n0 : Nat) (v : Option Value) (h : Heap) (L : List Loc) : Prop := ∃ (b : Addr) (k : ClassId), v = some (.ref b) ∧ Fr n0 L ∧ Old Z n0 h ∧ own_L Z n0 h a1 b k (10 : Int32) g1 (15 : Int32) [(.ref x1), (.ref x1), (.ref x1), (.ref x1), (.ref x1), (.ref x1), (.ref x1), (.ref x1), (.ref x1), (.ref x1), .null, .null, .null, .null, .null]

theorem d16_0 : decode jdk_38_method_7_code 0 = .ok (.aload_n 0, 1) := by decide +kernel
theorem d16_1 : decode jdk_38_method_7_code 1 = .ok (.aload_n 0, 1) := by decide +kernel
theorem d16_2 : decode jdk_38_method_7_code 2 = .ok (.getfield 48, 3) := by decide +kernel
theorem d16_5 : decode jdk_38_method_7_code 5 = .ok (.iconst 1, 1) := by decide +kernel
theorem d16_6 : decode jdk_38_method_7_code 6 = .ok (.iadd, 1) := by decide +kernel
theorem d16_7 : decode jdk_38_method_7_code 7 = .ok (.invokevirtual 69, 3) := by decide +kernel
theorem d16_10 : decode jdk_38_method_7_code 10 = .ok (.areturn, 1) := by decide +kernel
theorem pn16 : plainName "java/util/ArrayList" = true := by first | (simp [plainName, overriddenIn]; done) | decide +kernel
theorem pd16_0 : parseMethodDescriptor "(I)[Ljava/lang/Object;" = some ⟨[.int], some (.array (.object "java/lang/Object"))⟩ := by decide +kernel
theorem ef16 (m : MethodId) (x0 : Addr) : entryFrame m #[(.ref x0)] 1 = mkF m 0 #[.val (.ref x0)] [] := by first | (simp [entryFrame, mkF, argsToLocals, Value.category]; done) | rfl
set_option maxRecDepth 65536 in
set_option maxHeartbeats 40000000 in
theorem rm16 (l : Launch) (Z : State) (a0 : Array Value) (hw : ∀ d ∈ tables_1, d.before a0 Z = true) (ws : List Jvm.Cond) (a1 x1 b1 mr : Addr) (k1 : ClassId) (g1 : Int32) (h0 : Heap) (n0 : Nat) (O0 : Old Z n0 h0) (LL : own_L Z n0 h0 a1 b1 k1 (10 : Int32) g1 (10 : Int32) [(.ref x1), (.ref x1), (.ref x1), (.ref x1), (.ref x1), (.ref x1), (.ref x1), (.ref x1), (.ref x1), (.ref x1)]) (Ex : Exa Z Z.heap x1 "com/example/kalends/kalends/ContractPeriod$Length") (Mr : Mir0 Z mr) :
    own_Met l (⟨"java/util/ArrayList", "grow", "()[Ljava/lang/Object;"⟩ : MethodName) jdk_38_method_7_code 1 (some (.array (.object "java/lang/Object"))) ws ({ frames := 5, cells := 1, slots := 15, locals := 92 } : Room) Z #[(.ref a1)] h0 (Q16 Z a1 x1 0 g1 h0 n0) := by
  refine own_enter #[.val (.ref a1)] (plainFor_of_name pn16) (fun m => ef16 m a1) ?_
  intro p e s m below meth c s₁ hx hby hml hown hnm hZ hrt hlk X0 e0
  have N0 := Fr.nil n0
  obtain ⟨Ea51, Fe51, Fs51, Fg51, Vb51, Ov51, Eb51, ga51, gb51, nab51⟩ := LL
  refine own_tp (.ref a1) 1 (fun _ q => XS.aloadN X0.here hx rfl (hb hby d16_0) rfl rfl q) ?_
  refine own_tp (.ref a1) 2 (fun _ q => XS.aloadN X0.here hx rfl (hb hby d16_1) rfl rfl q) ?_
  obtain ⟨T52, X52, e52, st52⟩ := getF X0 hx hZ hown (host := "") (Or.inl (hw _ (List.mem_of_getElem? (i := 44) rfl))) Via.refl e0 Fs51 (g := (mkF m 2 #[.val (.ref a1)] [(.ref a1), (.ref a1)])) rfl rfl (hb hby d16_2)
  refine own_t1 (.int (10 : Int32)) 5 st52 ?_
  refine own_tp (.int (1 : Int32)) 6 (fun _ q => XS.iconst X52.here hx rfl (hb hby d16_5) q) ?_
  refine own_t2 (.int (11 : Int32)) 7 (fun _ q => XS.iadd X52.here hx rfl (hb hby d16_6) rfl q) ?_
  obtain ⟨cq53, q53, q53'⟩ := Ea51.cell
  obtain ⟨_, _, ⟨T53, L53, k53, n53⟩, -, X53, ⟨Lc53, hQ53, l53, y53, z53⟩, st53⟩ := X52.privateBack hx (y := (⟨"java/util/ArrayList", "grow", "(I)[Ljava/lang/Object;"⟩ : MethodName)) hown (mvT hZ (hw _ (List.mem_of_getElem? (i := 56) rfl))) (mvT hZ (hw _ (List.mem_of_getElem? (i := 57) rfl))) (mvT hZ (hw _ (List.mem_of_getElem? (i := 59) rfl))) (Cond.privateMethod_at (mvP hZ (hw _ (List.mem_of_getElem? (i := 58) rfl)) (args := #[]))) (mvT hZ (hw _ (List.mem_of_getElem? (i := 60) rfl))) (by decide) (backOf (W := 0) (rm15 l Z a0 hw [] a1 x1 b1 mr k1 g1 h0 n0 O0 ⟨Ea51, Fe51, Fs51, Fg51, Vb51, Ov51, Eb51, ga51, gb51, nab51⟩ Ex Mr) hZ (hw _ (List.mem_of_getElem? (i := 60) rfl)) (hw _ (List.mem_of_getElem? (i := 2) rfl)) (by decide) (by decide)) (g := (mkF m 7 #[.val (.ref a1)] [(.int (11 : Int32)), (.ref a1)])) rfl (by rw [hml]; rfl) (Steps.refl _) (a := a1) (by rw [e52]; exact q53) q53' (argsL := [(.int (11 : Int32))]) (rest := []) (lenOf pd16_0 rfl) rfl (by show 2 * 0 + _ ≤ _; exact Nat.le_of_eq rfl) (hb hby d16_7) (fun _ _ => ⟨rfl, e52, (by decide : 0 + 1 ≤ _), (by decide : 0 + 15 ≤ _)⟩)
  dsimp only [Pt.U, Pt.locs, Pt.cells, Pt.slots] at X53 l53 y53 z53 st53 hQ53
  subst l53 y53 z53
  obtain ⟨bq53, kq53, rfl, Nq53, O53, LL53⟩ := hQ53
  have N53 := Fr.app N0 Nq53
  have LM53 : own_L Z n0 T53.heap a1 bq53 kq53 (10 : Int32) g1 (15 : Int32) [(.ref x1), (.ref x1), (.ref x1), (.ref x1), (.ref x1), (.ref x1), (.ref x1), (.ref x1), (.ref x1), (.ref x1), .null, .null, .null, .null, .null] := LL53
  obtain ⟨Ea54, Fe54, Fs54, Fg54, Vb54, Ov54, Eb54, ga54, gb54, nab54⟩ := LM53
  refine own_csR [(.ref bq53)] 10 st53 ?_
  exact own_retR X53 hx hrt (hb hby d16_10) rfl rfl hlk (by decide) (by decide) rfl (⟨bq53, kq53, rfl, N53, O53, ⟨Ea54, Fe54, Fs54, Fg54, Vb54, Ov54, Eb54, ga54, gb54, nab54⟩⟩)

def Q17 (Z : State) (a1 x1 : Addr) (z1 g1 : Int32) (h0 : Heap) (n0 : Nat) (v : Option Value) (h : Heap) (L : List Loc) : Prop := ∃ (b : Addr) (k : ClassId), v = none ∧ Fr n0 L ∧ Old Z n0 h ∧ own_L Z n0 h a1 b k (11 : Int32) g1 (15 : Int32) [(.ref x1), (.ref x1), (.ref x1), (.ref x1), (.ref x1), (.ref x1), (.ref x1), (.ref x1), (.ref x1), (.ref x1), (.ref x1), .null, .null, .null, .null]

theorem d17_0 : decode jdk_38_method_24_code 0 = .ok (.iload_n 3, 1) := by decide +kernel
theorem d17_1 : decode jdk_38_method_24_code 1 = .ok (.aload_n 2, 1) := by decide +kernel
theorem d17_2 : decode jdk_38_method_24_code 2 = .ok (.arraylength, 1) := by decide +kernel
theorem d17_3 : decode jdk_38_method_24_code 3 = .ok (.if_icmp .ne 8, 3) := by decide +kernel
theorem d17_6 : decode jdk_38_method_24_code 6 = .ok (.aload_n 0, 1) := by decide +kernel
theorem d17_7 : decode jdk_38_method_24_code 7 = .ok (.invokevirtual 129, 3) := by decide +kernel
theorem d17_10 : decode jdk_38_method_24_code 10 = .ok (.astore_n 2, 1) := by decide +kernel
theorem d17_11 : decode jdk_38_method_24_code 11 = .ok (.aload_n 2, 1) := by decide +kernel
theorem d17_12 : decode jdk_38_method_24_code 12 = .ok (.iload_n 3, 1) := by decide +kernel
theorem d17_13 : decode jdk_38_method_24_code 13 = .ok (.aload_n 1, 1) := by decide +kernel
theorem d17_14 : decode jdk_38_method_24_code 14 = .ok (.aastore, 1) := by decide +kernel
theorem d17_15 : decode jdk_38_method_24_code 15 = .ok (.aload_n 0, 1) := by decide +kernel
theorem d17_16 : decode jdk_38_method_24_code 16 = .ok (.iload_n 3, 1) := by decide +kernel
theorem d17_17 : decode jdk_38_method_24_code 17 = .ok (.iconst 1, 1) := by decide +kernel
theorem d17_18 : decode jdk_38_method_24_code 18 = .ok (.iadd, 1) := by decide +kernel
theorem d17_19 : decode jdk_38_method_24_code 19 = .ok (.putfield 48, 3) := by decide +kernel
theorem d17_22 : decode jdk_38_method_24_code 22 = .ok (.return_, 1) := by decide +kernel
theorem pn17 : plainName "java/util/ArrayList" = true := by first | (simp [plainName, overriddenIn]; done) | decide +kernel
theorem pd17_0 : parseMethodDescriptor "()[Ljava/lang/Object;" = some ⟨[], some (.array (.object "java/lang/Object"))⟩ := by decide +kernel
theorem ef17 (m : MethodId) (x0 : Addr) (x1 : Addr) (x2 : Addr) (x3 : Int32) : entryFrame m #[(.ref x0), (.ref x1), (.ref x2), (.int x3)] 4 = mkF m 0 #[.val (.ref x0), .val (.ref x1), .val (.ref x2), .val (.int x3)] [] := by first | (simp [entryFrame, mkF, argsToLocals, Value.category]; done) | rfl
set_option maxRecDepth 65536 in
set_option maxHeartbeats 40000000 in
theorem rm17 (l : Launch) (Z : State) (a0 : Array Value) (hw : ∀ d ∈ tables_1, d.before a0 Z = true) (ws : List Jvm.Cond) (a1 x1 b1 mr : Addr) (k1 : ClassId) (g1 : Int32) (h0 : Heap) (n0 : Nat) (O0 : Old Z n0 h0) (LL : own_L Z n0 h0 a1 b1 k1 (10 : Int32) g1 (10 : Int32) [(.ref x1), (.ref x1), (.ref x1), (.ref x1), (.ref x1), (.ref x1), (.ref x1), (.ref x1), (.ref x1), (.ref x1)]) (Ex : Exa Z Z.heap x1 "com/example/kalends/kalends/ContractPeriod$Length") (Mr : Mir0 Z mr) :
    own_Met l (⟨"java/util/ArrayList", "add", "(Ljava/lang/Object;[Ljava/lang/Object;I)V"⟩ : MethodName) jdk_38_method_24_code 4 none ws ({ frames := 6, cells := 1, slots := 15, locals := 104 } : Room) Z #[(.ref a1), (.ref x1), (.ref b1), (.int (10 : Int32))] h0 (Q17 Z a1 x1 0 g1 h0 n0) := by
  refine own_enter #[.val (.ref a1), .val (.ref x1), .val (.ref b1), .val (.int (10 : Int32))] (plainFor_of_name pn17) (fun m => ef17 m a1 x1 b1 (10 : Int32)) ?_
  intro p e s m below meth c s₁ hx hby hml hown hnm hZ hrt hlk X0 e0
  have N0 := Fr.nil n0
  obtain ⟨Ea51, Fe51, Fs51, Fg51, Vb51, Ov51, Eb51, ga51, gb51, nab51⟩ := LL
  refine own_tp (.int (10 : Int32)) 1 (fun _ q => XS.iloadN X0.here hx rfl (hb hby d17_0) rfl q) ?_
  refine own_tp (.ref b1) 2 (fun _ q => XS.aloadN X0.here hx rfl (hb hby d17_1) rfl rfl q) ?_
  obtain ⟨cl52, Ar52, -, Sz52, Nn52, -, -⟩ := (id Vb51)
  refine own_t1 (.int (10 : Int32)) 3 (fun t q => X0.arraylength hx (by rw [e0]; exact Ar52.1) (State.isArrayOf_alike hZ.alike Ar52.2.1) (g := (mkF m 2 #[.val (.ref a1), .val (.ref x1), .val (.ref b1), .val (.int (10 : Int32))] [(.ref b1), (.int (10 : Int32))])) rfl rfl (hb hby d17_2) _ (by rw [len_of Sz52 Nn52]; exact q)) ?_
  refine own_d2 6 (fun _ q => XS.icmpNo X0.here hx rfl (hb hby d17_3) rfl (teq (by decide : (10 : Int32) = (10 : Int32))).2 q) ?_
  refine own_tp (.ref a1) 7 (fun _ q => XS.aloadN X0.here hx rfl (hb hby d17_6) rfl rfl q) ?_
  obtain ⟨cq53, q53, q53'⟩ := Ea51.cell
  obtain ⟨_, _, ⟨T53, L53, k53, n53⟩, -, X53, ⟨Lc53, hQ53, l53, y53, z53⟩, st53⟩ := X0.privateBack hx (y := (⟨"java/util/ArrayList", "grow", "()[Ljava/lang/Object;"⟩ : MethodName)) hown (mvT hZ (hw _ (List.mem_of_getElem? (i := 51) rfl))) (mvT hZ (hw _ (List.mem_of_getElem? (i := 52) rfl))) (mvT hZ (hw _ (List.mem_of_getElem? (i := 54) rfl))) (Cond.privateMethod_at (mvP hZ (hw _ (List.mem_of_getElem? (i := 53) rfl)) (args := #[]))) (mvT hZ (hw _ (List.mem_of_getElem? (i := 55) rfl))) (by decide) (backOf (W := 0) (rm16 l Z a0 hw [] a1 x1 b1 mr k1 g1 h0 n0 O0 ⟨Ea51, Fe51, Fs51, Fg51, Vb51, Ov51, Eb51, ga51, gb51, nab51⟩ Ex Mr) hZ (hw _ (List.mem_of_getElem? (i := 55) rfl)) (hw _ (List.mem_of_getElem? (i := 2) rfl)) (by decide) (by decide)) (g := (mkF m 7 #[.val (.ref a1), .val (.ref x1), .val (.ref b1), .val (.int (10 : Int32))] [(.ref a1)])) rfl (by rw [hml]; rfl) (Steps.refl _) (a := a1) (by rw [e0]; exact q53) q53' (argsL := []) (rest := []) (lenOf pd17_0 rfl) rfl (by show 2 * 0 + _ ≤ _; exact Nat.le_of_eq rfl) (hb hby d17_7) (fun _ _ => ⟨rfl, e0, (by decide : 0 + 1 ≤ _), (by decide : 0 + 15 ≤ _)⟩)
  dsimp only [Pt.U, Pt.locs, Pt.cells, Pt.slots] at X53 l53 y53 z53 st53 hQ53
  subst l53 y53 z53
  obtain ⟨bq53, kq53, rfl, Nq53, O53, LL53⟩ := hQ53
  have N53 := Fr.app N0 Nq53
  have LM53 : own_L Z n0 T53.heap a1 bq53 kq53 (10 : Int32) g1 (15 : Int32) [(.ref x1), (.ref x1), (.ref x1), (.ref x1), (.ref x1), (.ref x1), (.ref x1), (.ref x1), (.ref x1), (.ref x1), .null, .null, .null, .null, .null] := LL53
  obtain ⟨Ea54, Fe54, Fs54, Fg54, Vb54, Ov54, Eb54, ga54, gb54, nab54⟩ := LM53
  refine own_csR [(.ref bq53)] 10 st53 ?_
  refine own_ls #[.val (.ref a1), .val (.ref x1), .val (.ref bq53), .val (.int (10 : Int32))] 11 (fun _ q => XS.astoreN X53.here hx rfl (hb hby d17_10) rfl rfl (l' := #[.val (.ref a1), .val (.ref x1), .val (.ref bq53), .val (.int (10 : Int32))]) rfl q) ?_
  refine own_tp (.ref bq53) 12 (fun _ q => XS.aloadN X53.here hx rfl (hb hby d17_11) rfl rfl q) ?_
  refine own_tp (.int (10 : Int32)) 13 (fun _ q => XS.iloadN X53.here hx rfl (hb hby d17_12) rfl q) ?_
  refine own_tp (.ref x1) 14 (fun _ q => XS.aloadN X53.here hx rfl (hb hby d17_13) rfl rfl q) ?_
  obtain ⟨cl55, Ar55, q55, S55, Nn55, H55, G55⟩ := (id Vb54)
  have hin55 : ¬ ((10 : Int32) < 0 ∨ cl55.slots.size ≤ ((10 : Int32)).toNatClampNeg) := inb_of S55 ⟨by decide, by decide⟩
  obtain ⟨T56, h56, X56, e56, W56, st56⟩ := stR X53 hx hZ rfl Ar55 (j := (10 : Int32)) hin55 rfl (Sto.ofV Ar55 q55 Ov54 (Ins.of_exa (Ex.ext O53.2) (hw _ (List.mem_of_getElem? (i := 67) rfl)))) (g := (mkF m 14 #[.val (.ref a1), .val (.ref x1), .val (.ref bq53), .val (.int (10 : Int32))] [(.ref x1), (.int (10 : Int32)), (.ref bq53)])) rfl rfl (hb hby d17_14)
  have V56 := Arv.set Ar55 q55 S55 Nn55 H55 G55 rfl W56 10 rfl (Nat.le_of_ble_eq_true rfl)
  have N56 := Fr.snoc X56 N53 gb54
  have O56 := Old.wr O53 W56 gb54
  have V56' : Arv Z h56 bq53 kq53 (.object "java/lang/Object") (15 : Int32) [(.ref x1), (.ref x1), (.ref x1), (.ref x1), (.ref x1), (.ref x1), (.ref x1), (.ref x1), (.ref x1), (.ref x1), (.ref x1), .null, .null, .null, .null] .null := V56
  refine own_cs [] 15 st56 ?_
  refine own_tp (.ref a1) 16 (fun _ q => XS.aloadN X56.here hx rfl (hb hby d17_15) rfl rfl q) ?_
  refine own_tp (.int (10 : Int32)) 17 (fun _ q => XS.iloadN X56.here hx rfl (hb hby d17_16) rfl q) ?_
  refine own_tp (.int (1 : Int32)) 18 (fun _ q => XS.iconst X56.here hx rfl (hb hby d17_17) q) ?_
  refine own_t2 (.int (11 : Int32)) 19 (fun _ q => XS.iadd X56.here hx rfl (hb hby d17_18) rfl q) ?_
  have f57 := (Fs54.other W56 (Or.inl nab54))
  have f58 := (Ea54.wr W56)
  obtain ⟨T59, h59, X59, e59, W59, st59⟩ := putF X56 hx hZ hown (host := "") (Or.inl (hw _ (List.mem_of_getElem? (i := 44) rfl))) Via.refl e56 f57 f58 (Or.inl (hw _ (List.mem_of_getElem? (i := 45) rfl))) (hw _ (List.mem_of_getElem? (i := 1) rfl)) (ty := .int) (by decide) rfl rfl (g := (mkF m 19 #[.val (.ref a1), .val (.ref x1), .val (.ref bq53), .val (.int (10 : Int32))] [(.int (11 : Int32)), (.ref a1)])) rfl rfl (hb hby d17_19)
  have Fw59 := f57.same W59
  have N59 := Fr.snoc X59 N56 ga54
  have O59 := Old.wr O56 W59 ga54
  refine own_d2 22 st59 ?_
  have f60 := (f58.wr W59)
  have f61 := ((Fe54.other W56 (Or.inl nab54)).other W59 (Or.inr (slot_ne (Or.inl (hw _ (List.mem_of_getElem? (i := 25) rfl))) (Or.inl (hw _ (List.mem_of_getElem? (i := 45) rfl))) (by decide) (t := (.array (.object "java/lang/Object"))) (t' := .int) (by decide) (by decide))))
  have f62 := ((Fg54.other W56 (Or.inl nab54)).other W59 (Or.inr (slot_ne (Or.inl (hw _ (List.mem_of_getElem? (i := 22) rfl))) (Or.inl (hw _ (List.mem_of_getElem? (i := 45) rfl))) (by decide) (t := .int) (t' := .int) (by decide) (by decide))))
  have f63 := (V56'.other W59 (Ne.symm nab54))
  have f64 := ((Eb54.wr W56).wr W59)
  exact own_retV X59 hx hrt (hb hby d17_22) hlk (by decide) (by decide) e59 (⟨bq53, kq53, rfl, N59, O59, ⟨f60, f61, Fw59, f62, f63, Ov54, f64, ga54, gb54, nab54⟩⟩)

def Q18 (Z : State) (a1 x1 : Addr) (z1 g1 : Int32) (h0 : Heap) (n0 : Nat) (v : Option Value) (h : Heap) (L : List Loc) : Prop := ∃ (b : Addr) (k : ClassId), v = some (.int (1 : Int32)) ∧ Fr n0 L ∧ Old Z n0 h ∧ own_L Z n0 h a1 b k (11 : Int32) (g1 + (1 : Int32)) (15 : Int32) [(.ref x1), (.ref x1), (.ref x1), (.ref x1), (.ref x1), (.ref x1), (.ref x1), (.ref x1), (.ref x1), (.ref x1), (.ref x1), .null, .null, .null, .null]

theorem d18_0 : decode jdk_38_method_25_code 0 = .ok (.aload_n 0, 1) := by decide +kernel
theorem d18_1 : decode jdk_38_method_25_code 1 = .ok (.dup, 1) := by decide +kernel
theorem d18_2 : decode jdk_38_method_25_code 2 = .ok (.getfield 63, 3) := by decide +kernel
theorem d18_5 : decode jdk_38_method_25_code 5 = .ok (.iconst 1, 1) := by decide +kernel
theorem d18_6 : decode jdk_38_method_25_code 6 = .ok (.iadd, 1) := by decide +kernel
theorem d18_7 : decode jdk_38_method_25_code 7 = .ok (.putfield 63, 3) := by decide +kernel
theorem d18_10 : decode jdk_38_method_25_code 10 = .ok (.aload_n 0, 1) := by decide +kernel
theorem d18_11 : decode jdk_38_method_25_code 11 = .ok (.aload_n 1, 1) := by decide +kernel
theorem d18_12 : decode jdk_38_method_25_code 12 = .ok (.aload_n 0, 1) := by decide +kernel
theorem d18_13 : decode jdk_38_method_25_code 13 = .ok (.getfield 9, 3) := by decide +kernel
theorem d18_16 : decode jdk_38_method_25_code 16 = .ok (.aload_n 0, 1) := by decide +kernel
theorem d18_17 : decode jdk_38_method_25_code 17 = .ok (.getfield 48, 3) := by decide +kernel
theorem d18_20 : decode jdk_38_method_25_code 20 = .ok (.invokevirtual 131, 3) := by decide +kernel
theorem d18_23 : decode jdk_38_method_25_code 23 = .ok (.iconst 1, 1) := by decide +kernel
theorem d18_24 : decode jdk_38_method_25_code 24 = .ok (.ireturn, 1) := by decide +kernel
theorem pn18 : plainName "java/util/ArrayList" = true := by first | (simp [plainName, overriddenIn]; done) | decide +kernel
theorem pd18_0 : parseMethodDescriptor "(Ljava/lang/Object;[Ljava/lang/Object;I)V" = some ⟨[(.object "java/lang/Object"), (.array (.object "java/lang/Object")), .int], none⟩ := by decide +kernel
theorem ef18 (m : MethodId) (x0 : Addr) (x1 : Addr) : entryFrame m #[(.ref x0), (.ref x1)] 2 = mkF m 0 #[.val (.ref x0), .val (.ref x1)] [] := by first | (simp [entryFrame, mkF, argsToLocals, Value.category]; done) | rfl
set_option maxRecDepth 65536 in
set_option maxHeartbeats 40000000 in
theorem rm18 (l : Launch) (Z : State) (a0 : Array Value) (hw : ∀ d ∈ tables_1, d.before a0 Z = true) (ws : List Jvm.Cond) (a1 x1 b1 mr : Addr) (k1 : ClassId) (g1 : Int32) (h0 : Heap) (n0 : Nat) (O0 : Old Z n0 h0) (LL : own_L Z n0 h0 a1 b1 k1 (10 : Int32) g1 (10 : Int32) [(.ref x1), (.ref x1), (.ref x1), (.ref x1), (.ref x1), (.ref x1), (.ref x1), (.ref x1), (.ref x1), (.ref x1)]) (Ex : Exa Z Z.heap x1 "com/example/kalends/kalends/ContractPeriod$Length") (Mr : Mir0 Z mr) :
    own_Met l (⟨"java/util/ArrayList", "add", "(Ljava/lang/Object;)Z"⟩ : MethodName) jdk_38_method_25_code 2 (some .boolean) ws ({ frames := 7, cells := 1, slots := 15, locals := 119 } : Room) Z #[(.ref a1), (.ref x1)] h0 (Q18 Z a1 x1 0 g1 h0 n0) := by
  refine own_enter #[.val (.ref a1), .val (.ref x1)] (plainFor_of_name pn18) (fun m => ef18 m a1 x1) ?_
  intro p e s m below meth c s₁ hx hby hml hown hnm hZ hrt hlk X0 e0
  have N0 := Fr.nil n0
  obtain ⟨Ea51, Fe51, Fs51, Fg51, Vb51, Ov51, Eb51, ga51, gb51, nab51⟩ := LL
  refine own_tp (.ref a1) 1 (fun _ q => XS.aloadN X0.here hx rfl (hb hby d18_0) rfl rfl q) ?_
  refine own_tp (.ref a1) 2 (fun _ q => XS.dup X0.here hx rfl (hb hby d18_1) rfl rfl q) ?_
  obtain ⟨T52, X52, e52, st52⟩ := getF X0 hx hZ hown (host := "") (Or.inl (hw _ (List.mem_of_getElem? (i := 42) rfl))) (Via.of (hw _ (List.mem_of_getElem? (i := 43) rfl))) e0 Fg51 (g := (mkF m 2 #[.val (.ref a1), .val (.ref x1)] [(.ref a1), (.ref a1)])) rfl rfl (hb hby d18_2)
  refine own_t1 (.int g1) 5 st52 ?_
  refine own_tp (.int (1 : Int32)) 6 (fun _ q => XS.iconst X52.here hx rfl (hb hby d18_5) q) ?_
  refine own_t2 (.int (g1 + (1 : Int32))) 7 (fun _ q => XS.iadd X52.here hx rfl (hb hby d18_6) rfl q) ?_
  obtain ⟨T53, h53, X53, e53, W53, st53⟩ := putF X52 hx hZ hown (host := "") (Or.inl (hw _ (List.mem_of_getElem? (i := 42) rfl))) (Via.of (hw _ (List.mem_of_getElem? (i := 43) rfl))) e52 Fg51 Ea51 (Or.inl (hw _ (List.mem_of_getElem? (i := 22) rfl))) (hw _ (List.mem_of_getElem? (i := 1) rfl)) (ty := .int) (by decide) rfl rfl (g := (mkF m 7 #[.val (.ref a1), .val (.ref x1)] [(.int (g1 + (1 : Int32))), (.ref a1)])) rfl rfl (hb hby d18_7)
  have Fw53 := Fg51.same W53
  have N53 := Fr.snoc X53 N0 ga51
  have O53 := Old.wr O0 W53 ga51
  have Z53 : n0 ≤ h53.size := Nat.le_trans (Nat.le_trans ga51 (Nat.le_of_lt Ea51.lt)) (Nat.le_of_eq W53.size.symm)
  refine own_d2 10 st53 ?_
  refine own_tp (.ref a1) 11 (fun _ q => XS.aloadN X53.here hx rfl (hb hby d18_10) rfl rfl q) ?_
  refine own_tp (.ref x1) 12 (fun _ q => XS.aloadN X53.here hx rfl (hb hby d18_11) rfl rfl q) ?_
  refine own_tp (.ref a1) 13 (fun _ q => XS.aloadN X53.here hx rfl (hb hby d18_12) rfl rfl q) ?_
  have f54 := (Fe51.other W53 (Or.inr (slot_ne (Or.inl (hw _ (List.mem_of_getElem? (i := 25) rfl))) (Or.inl (hw _ (List.mem_of_getElem? (i := 22) rfl))) (by decide) (t := (.array (.object "java/lang/Object"))) (t' := .int) (by decide) (by decide))))
  obtain ⟨T55, X55, e55, st55⟩ := getF X53 hx hZ hown (host := "") (Or.inl (hw _ (List.mem_of_getElem? (i := 24) rfl))) Via.refl e53 f54 (g := (mkF m 13 #[.val (.ref a1), .val (.ref x1)] [(.ref a1), (.ref x1), (.ref a1)])) rfl rfl (hb hby d18_13)
  refine own_t1 (.ref b1) 16 st55 ?_
  refine own_tp (.ref a1) 17 (fun _ q => XS.aloadN X55.here hx rfl (hb hby d18_16) rfl rfl q) ?_
  have f56 := (Fs51.other W53 (Or.inr (slot_ne (Or.inl (hw _ (List.mem_of_getElem? (i := 45) rfl))) (Or.inl (hw _ (List.mem_of_getElem? (i := 22) rfl))) (by decide) (t := .int) (t' := .int) (by decide) (by decide))))
  obtain ⟨T57, X57, e57, st57⟩ := getF X55 hx hZ hown (host := "") (Or.inl (hw _ (List.mem_of_getElem? (i := 44) rfl))) Via.refl e55 f56 (g := (mkF m 17 #[.val (.ref a1), .val (.ref x1)] [(.ref a1), (.ref b1), (.ref x1), (.ref a1)])) rfl rfl (hb hby d18_17)
  refine own_t1 (.int (10 : Int32)) 20 st57 ?_
  have f58 := (Ea51.wr W53)
  have f59 := (Vb51.other W53 (Ne.symm nab51))
  have f60 := (Eb51.wr W53)
  obtain ⟨cq61, q61, q61'⟩ := f58.cell
  obtain ⟨_, _, ⟨T61, L61, k61, n61⟩, -, X61, ⟨Lc61, hQ61, l61, y61, z61⟩, st61⟩ := X57.privateBack hx (y := (⟨"java/util/ArrayList", "add", "(Ljava/lang/Object;[Ljava/lang/Object;I)V"⟩ : MethodName)) hown (mvT hZ (hw _ (List.mem_of_getElem? (i := 46) rfl))) (mvT hZ (hw _ (List.mem_of_getElem? (i := 47) rfl))) (mvT hZ (hw _ (List.mem_of_getElem? (i := 49) rfl))) (Cond.privateMethod_at (mvP hZ (hw _ (List.mem_of_getElem? (i := 48) rfl)) (args := #[]))) (mvT hZ (hw _ (List.mem_of_getElem? (i := 50) rfl))) (by decide) (backOf (W := 0) (rm17 l Z a0 hw [] a1 x1 b1 mr k1 (g1 + (1 : Int32)) h53 n0 O53 ⟨f58, f54, f56, Fw53, f59, Ov51, f60, ga51, gb51, nab51⟩ Ex Mr) hZ (hw _ (List.mem_of_getElem? (i := 50) rfl)) (hw _ (List.mem_of_getElem? (i := 2) rfl)) (by decide) (by decide)) (g := (mkF m 20 #[.val (.ref a1), .val (.ref x1)] [(.int (10 : Int32)), (.ref b1), (.ref x1), (.ref a1)])) rfl (by rw [hml]; rfl) (Steps.refl _) (a := a1) (by rw [e57]; exact q61) q61' (argsL := [(.ref x1), (.ref b1), (.int (10 : Int32))]) (rest := []) (lenOf pd18_0 rfl) rfl (by show 2 * 0 + _ ≤ _; exact Nat.le_of_eq rfl) (hb hby d18_20) (fun _ _ => ⟨rfl, e57, (by decide : 0 + 1 ≤ _), (by decide : 0 + 15 ≤ _)⟩)
  dsimp only [Pt.U, Pt.locs, Pt.cells, Pt.slots] at X61 l61 y61 z61 st61 hQ61
  subst l61 y61 z61
  obtain ⟨bq61, kq61, rfl, Nq61, O61, LL61⟩ := hQ61
  have N61 := Fr.app N53 Nq61
  have LM61 : own_L Z n0 T61.heap a1 bq61 kq61 (11 : Int32) (g1 + (1 : Int32)) (15 : Int32) [(.ref x1), (.ref x1), (.ref x1), (.ref x1), (.ref x1), (.ref x1), (.ref x1), (.ref x1), (.ref x1), (.ref x1), (.ref x1), .null, .null, .null, .null] := LL61
  obtain ⟨Ea62, Fe62, Fs62, Fg62, Vb62, Ov62, Eb62, ga62, gb62, nab62⟩ := LM61
  refine own_csR [] 23 st61 ?_
  refine own_tp (.int (1 : Int32)) 24 (fun _ q => XS.iconst X61.here hx rfl (hb hby d18_23) q) ?_
  exact own_retN (t := .boolean) X61 hx hrt (hb hby d18_24) (by simp) hlk (by decide) (by decide) rfl (⟨bq61, kq61, rfl, N61, O61, ⟨Ea62, Fe62, Fs62, Fg62, Vb62, Ov62, Eb62, ga62, gb62, nab62⟩⟩)

def Q19 (z1 : Int32) (h0 : Heap) (n0 : Nat) (v : Option Value) (h : Heap) (L : List Loc) : Prop := v = some (.int z1) ∧ Fr n0 L ∧ h = h0

theorem d19_0 : decode jdk_38_method_8_code 0 = .ok (.aload_n 0, 1) := by decide +kernel
theorem d19_1 : decode jdk_38_method_8_code 1 = .ok (.getfield 48, 3) := by decide +kernel
theorem d19_4 : decode jdk_38_method_8_code 4 = .ok (.ireturn, 1) := by decide +kernel
theorem pn19 : plainName "java/util/ArrayList" = true := by first | (simp [plainName, overriddenIn]; done) | decide +kernel
theorem ef19 (m : MethodId) (x0 : Addr) : entryFrame m #[(.ref x0)] 1 = mkF m 0 #[.val (.ref x0)] [] := by first | (simp [entryFrame, mkF, argsToLocals, Value.category]; done) | rfl
set_option maxRecDepth 65536 in
set_option maxHeartbeats 40000000 in
theorem rm19 (l : Launch) (Z : State) (a0 : Array Value) (hw : ∀ d ∈ tables_1, d.before a0 Z = true) (ws : List Jvm.Cond) (a1 : Addr) (z1 : Int32) (h0 : Heap) (n0 : Nat) (E1 : Exa Z h0 a1 "java/util/ArrayList") (Fs : Fld Z h0 a1 "java/util/ArrayList" "size" "I" (.int z1)) :
    own_Met l (⟨"java/util/ArrayList", "size", "()I"⟩ : MethodName) jdk_38_method_8_code 1 (some .int) ws ({ frames := 0, cells := 0, slots := 0, locals := 0 } : Room) Z #[(.ref a1)] h0 (Q19 z1 h0 n0) := by
  refine own_enter #[.val (.ref a1)] (plainFor_of_name pn19) (fun m => ef19 m a1) ?_
  intro p e s m below meth c s₁ hx hby hml hown hnm hZ hrt hlk X0 e0
  have N0 := Fr.nil n0
  refine own_tp (.ref a1) 1 (fun _ q => XS.aloadN X0.here hx rfl (hb hby d19_0) rfl rfl q) ?_
  obtain ⟨T51, X51, e51, st51⟩ := getF X0 hx hZ hown (host := "") (Or.inl (hw _ (List.mem_of_getElem? (i := 44) rfl))) Via.refl e0 Fs (g := (mkF m 1 #[.val (.ref a1)] [(.ref a1)])) rfl rfl (hb hby d19_1)
  refine own_t1 (.int z1) 4 st51 ?_
  exact own_retI X51 hx hrt (hb hby d19_4) hlk (by decide) (by decide) e51 (⟨rfl, N0, rfl⟩)

def Q20 (i1 : Int32) (h0 : Heap) (n0 : Nat) (v : Option Value) (h : Heap) (L : List Loc) : Prop := v = some (.int i1) ∧ Fr n0 L ∧ h = h0

theorem d20_0 : decode jdk_41_method_11_code 0 = .ok (.iload_n 0, 1) := by decide +kernel
theorem d20_1 : decode jdk_41_method_11_code 1 = .ok (.ifCond .lt 8, 3) := by decide +kernel
theorem d20_4 : decode jdk_41_method_11_code 4 = .ok (.iload_n 0, 1) := by decide +kernel
theorem d20_5 : decode jdk_41_method_11_code 5 = .ok (.iload_n 1, 1) := by decide +kernel
theorem d20_6 : decode jdk_41_method_11_code 6 = .ok (.if_icmp .lt 10, 3) := by decide +kernel
theorem d20_16 : decode jdk_41_method_11_code 16 = .ok (.iload_n 0, 1) := by decide +kernel
theorem d20_17 : decode jdk_41_method_11_code 17 = .ok (.ireturn, 1) := by decide +kernel
theorem pn20 : plainName "jdk/internal/util/Preconditions" = true := by first | (simp [plainName, overriddenIn]; done) | decide +kernel
theorem ef20 (m : MethodId) (x0 : Int32) (x1 : Int32) : entryFrame m #[(.int x0), (.int x1), .null] 3 = mkF m 0 #[.val (.int x0), .val (.int x1), .val .null] [] := by first | (simp [entryFrame, mkF, argsToLocals, Value.category]; done) | rfl
set_option maxRecDepth 65536 in
set_option maxHeartbeats 40000000 in
theorem rm20 (l : Launch) (Z : State) (a0 : Array Value) (hw : ∀ d ∈ tables_1, d.before a0 Z = true) (ws : List Jvm.Cond) (i1 z1 : Int32) (h0 : Heap) (n0 : Nat) (hi0 : ¬ i1 < (0 : Int32)) (hiz : i1 < z1) :
    own_Met l (⟨"jdk/internal/util/Preconditions", "checkIndex", "(IILjava/util/function/BiFunction;)I"⟩ : MethodName) jdk_41_method_11_code 3 (some .int) ws ({ frames := 0, cells := 0, slots := 0, locals := 0 } : Room) Z #[(.int i1), (.int z1), .null] h0 (Q20 i1 h0 n0) := by
  refine own_enter #[.val (.int i1), .val (.int z1), .val .null] (plainFor_of_name pn20) (fun m => ef20 m i1 z1) ?_
  intro p e s m below meth c s₁ hx hby hml hown hnm hZ hrt hlk X0 e0
  have N0 := Fr.nil n0
  refine own_tp (.int i1) 1 (fun _ q => XS.iloadN X0.here hx rfl (hb hby d20_0) rfl q) ?_
  refine own_d1 4 (fun _ q => XS.ifNo X0.here hx rfl (hb hby d20_1) rfl ((if0 _ _).trans (flt hi0).1) q) ?_
  refine own_tp (.int i1) 5 (fun _ q => XS.iloadN X0.here hx rfl (hb hby d20_4) rfl q) ?_
  refine own_tp (.int z1) 6 (fun _ q => XS.iloadN X0.here hx rfl (hb hby d20_5) rfl q) ?_
  refine own_d2 16 (fun _ q => XS.icmpYes X0.here hx rfl (pc0 := 6) (pc' := 16) rfl (hb hby d20_6) rfl (tlt hiz).1 (by decide) (by decide) q) ?_
  refine own_tp (.int i1) 17 (fun _ q => XS.iloadN X0.here hx rfl (hb hby d20_16) rfl q) ?_
  exact own_retI X0 hx hrt (hb hby d20_17) hlk (by decide) (by decide) e0 (⟨rfl, N0, rfl⟩)

def Q21 (i1 : Int32) (h0 : Heap) (n0 : Nat) (v : Option Value) (h : Heap) (L : List Loc) : Prop := v = some (.int i1) ∧ Fr n0 L ∧ h = h0

theorem d21_0 : decode jdk_31_method_17_code 0 = .ok (.iload_n 0, 1) := by decide +kernel
theorem d21_1 : decode jdk_31_method_17_code 1 = .ok (.iload_n 1, 1) := by decide +kernel
theorem d21_2 : decode jdk_31_method_17_code 2 = .ok (.aconst_null, 1) := by decide +kernel
theorem d21_3 : decode jdk_31_method_17_code 3 = .ok (.invokestatic 105, 3) := by decide +kernel
theorem d21_6 : decode jdk_31_method_17_code 6 = .ok (.ireturn, 1) := by decide +kernel
theorem pn21 : plainName "java/util/Objects" = true := by first | (simp [plainName, overriddenIn]; done) | decide +kernel
theorem pd21_0 : parseMethodDescriptor "(IILjava/util/function/BiFunction;)I" = some ⟨[.int, .int, (.object "java/util/function/BiFunction")], some .int⟩ := by decide +kernel
theorem ef21 (m : MethodId) (x0 : Int32) (x1 : Int32) : entryFrame m #[(.int x0), (.int x1)] 2 = mkF m 0 #[.val (.int x0), .val (.int x1)] [] := by first | (simp [entryFrame, mkF, argsToLocals, Value.category]; done) | rfl
set_option maxRecDepth 65536 in
set_option maxHeartbeats 40000000 in
theorem rm21 (l : Launch) (Z : State) (a0 : Array Value) (hw : ∀ d ∈ tables_1, d.before a0 Z = true) (ws : List Jvm.Cond) (i1 z1 : Int32) (h0 : Heap) (n0 : Nat) (hi0 : ¬ i1 < (0 : Int32)) (hiz : i1 < z1) :
    own_Met l (⟨"java/util/Objects", "checkIndex", "(II)I"⟩ : MethodName) jdk_31_method_17_code 2 (some .int) ws ({ frames := 1, cells := 0, slots := 0, locals := 14 } : Room) Z #[(.int i1), (.int z1)] h0 (Q21 i1 h0 n0) := by
  refine own_enter #[.val (.int i1), .val (.int z1)] (plainFor_of_name pn21) (fun m => ef21 m i1 z1) ?_
  intro p e s m below meth c s₁ hx hby hml hown hnm hZ hrt hlk X0 e0
  have N0 := Fr.nil n0
  refine own_tp (.int i1) 1 (fun _ q => XS.iloadN X0.here hx rfl (hb hby d21_0) rfl q) ?_
  refine own_tp (.int z1) 2 (fun _ q => XS.iloadN X0.here hx rfl (hb hby d21_1) rfl q) ?_
  refine own_tp .null 3 (fun _ q => XS.aconstNull X0.here hx rfl (hb hby d21_2) q) ?_
  obtain ⟨_, _, ⟨T51, L51, k51, n51⟩, -, X51, ⟨Lc51, hQ51, l51, y51, z51⟩, st51⟩ := Jvm.LawKit.callS X0 hx (y := (⟨"jdk/internal/util/Preconditions", "checkIndex", "(IILjava/util/function/BiFunction;)I"⟩ : MethodName)) hown (mvT hZ (hw _ (List.mem_of_getElem? (i := 95) rfl))) (mvT hZ (hw _ (List.mem_of_getElem? (i := 96) rfl))) (mvT hZ (hw _ (List.mem_of_getElem? (i := 97) rfl))) (mvT hZ (hw _ (List.mem_of_getElem? (i := 98) rfl))) (by decide) (backOf (W := 0) (rm20 l Z a0 hw [] i1 z1 h0 n0 hi0 hiz) hZ (hw _ (List.mem_of_getElem? (i := 98) rfl)) (hw _ (List.mem_of_getElem? (i := 97) rfl)) (by decide) (by decide)) (g := (mkF m 3 #[.val (.int i1), .val (.int z1)] [.null, (.int z1), (.int i1)])) rfl (by rw [hml]; rfl) (argsL := [(.int i1), (.int z1), .null]) (rest := []) (lenOf pd21_0 rfl) rfl (by show 2 * 0 + _ ≤ _; exact Nat.le_of_eq rfl) (hb hby d21_3) (fun _ _ => ⟨rfl, e0, (by decide : 0 + 0 ≤ _), (by decide : 0 + 0 ≤ _)⟩)
  dsimp only [Pt.U, Pt.locs, Pt.cells, Pt.slots] at X51 l51 y51 z51 st51 hQ51
  subst l51 y51 z51
  obtain ⟨rfl, Nq51, eq51⟩ := hQ51
  have N51 := Fr.app N0 Nq51
  refine own_d2 6 st51 ?_
  exact own_retI X51 hx hrt (hb hby d21_6) hlk (by decide) (by decide) eq51 (⟨rfl, N51, rfl⟩)

def Q22 (w1 : Addr) (h0 : Heap) (n0 : Nat) (v : Option Value) (h : Heap) (L : List Loc) : Prop := v = some (.ref w1) ∧ Fr n0 L ∧ h = h0

theorem d22_0 : decode jdk_38_method_18_code 0 = .ok (.aload_n 0, 1) := by decide +kernel
theorem d22_1 : decode jdk_38_method_18_code 1 = .ok (.getfield 9, 3) := by decide +kernel
theorem d22_4 : decode jdk_38_method_18_code 4 = .ok (.iload_n 1, 1) := by decide +kernel
theorem d22_5 : decode jdk_38_method_18_code 5 = .ok (.aaload, 1) := by decide +kernel
theorem d22_6 : decode jdk_38_method_18_code 6 = .ok (.areturn, 1) := by decide +kernel
theorem pn22 : plainName "java/util/ArrayList" = true := by first | (simp [plainName, overriddenIn]; done) | decide +kernel
theorem ef22 (m : MethodId) (x0 : Addr) (x1 : Int32) : entryFrame m #[(.ref x0), (.int x1)] 2 = mkF m 0 #[.val (.ref x0), .val (.int x1)] [] := by first | (simp [entryFrame, mkF, argsToLocals, Value.category]; done) | rfl
set_option maxRecDepth 65536 in
set_option maxHeartbeats 40000000 in
theorem rm22 (l : Launch) (Z : State) (a0 : Array Value) (hw : ∀ d ∈ tables_1, d.before a0 Z = true) (ws : List Jvm.Cond) (a1 b1 w1 : Addr) (k1 : ClassId) (i1 z1 cap1 : Int32) (vs1 : List Value) (h0 : Heap) (n0 : Nat) (E1 : Exa Z h0 a1 "java/util/ArrayList") (Fe : Fld Z h0 a1 "java/util/ArrayList" "elementData" "[Ljava/lang/Object;" (.ref b1)) (Fs : Fld Z h0 a1 "java/util/ArrayList" "size" "I" (.int z1)) (V1 : Arv Z h0 b1 k1 (.object "java/lang/Object") cap1 vs1 .null) (hi0 : ¬ i1 < (0 : Int32)) (hiz : i1 < z1) (hic : i1 < cap1) (hv : vs1.getD i1.toNatClampNeg .null = .ref w1) :
    own_Met l (⟨"java/util/ArrayList", "elementData", "(I)Ljava/lang/Object;"⟩ : MethodName) jdk_38_method_18_code 2 (some (.object "java/lang/Object")) ws ({ frames := 0, cells := 0, slots := 0, locals := 0 } : Room) Z #[(.ref a1), (.int i1)] h0 (Q22 w1 h0 n0) := by
  refine own_enter #[.val (.ref a1), .val (.int i1)] (plainFor_of_name pn22) (fun m => ef22 m a1 i1) ?_
  intro p e s m below meth c s₁ hx hby hml hown hnm hZ hrt hlk X0 e0
  have N0 := Fr.nil n0
  refine own_tp (.ref a1) 1 (fun _ q => XS.aloadN X0.here hx rfl (hb hby d22_0) rfl rfl q) ?_
  obtain ⟨T51, X51, e51, st51⟩ := getF X0 hx hZ hown (host := "") (Or.inl (hw _ (List.mem_of_getElem? (i := 24) rfl))) Via.refl e0 Fe (g := (mkF m 1 #[.val (.ref a1), .val (.int i1)] [(.ref a1)])) rfl rfl (hb hby d22_1)
  refine own_t1 (.ref b1) 4 st51 ?_
  refine own_tp (.int i1) 5 (fun _ q => XS.iloadN X51.here hx rfl (hb hby d22_4) rfl q) ?_
  obtain ⟨cl52, Ar52, q52, S52, Nn52, H52, G52⟩ := (id V1)
  have hin52 : ¬ (i1 < 0 ∨ cl52.slots.size ≤ (i1).toNatClampNeg) := inb_of S52 ⟨hi0, hic⟩
  have hat52 : cl52.slots[(i1).toNatClampNeg]? = some (.ref w1) := H52.at hin52 (by exact hv)
  refine own_t2 (.ref w1) 6 (fun _ q => X51.aaload hx (j := i1) (v := (.ref w1)) (by rw [e51]; exact Ar52.1) (State.isArrayOf_alike hZ.alike Ar52.2.1) rfl Ar52.2.2 hin52 hat52 (g := (mkF m 5 #[.val (.ref a1), .val (.int i1)] [(.int i1), (.ref b1)])) rfl rfl (hb hby d22_5) _ q) ?_
  exact own_retR X51 hx hrt (hb hby d22_6) rfl rfl hlk (by decide) (by decide) e51 (⟨rfl, N0, rfl⟩)

def Q23 (w1 : Addr) (h0 : Heap) (n0 : Nat) (v : Option Value) (h : Heap) (L : List Loc) : Prop := v = some (.ref w1) ∧ Fr n0 L ∧ h = h0

theorem d23_0 : decode jdk_38_method_20_code 0 = .ok (.iload_n 1, 1) := by decide +kernel
theorem d23_1 : decode jdk_38_method_20_code 1 = .ok (.aload_n 0, 1) := by decide +kernel
theorem d23_2 : decode jdk_38_method_20_code 2 = .ok (.getfield 48, 3) := by decide +kernel
theorem d23_5 : decode jdk_38_method_20_code 5 = .ok (.invokestatic 118, 3) := by decide +kernel
theorem d23_8 : decode jdk_38_method_20_code 8 = .ok (.pop, 1) := by decide +kernel
theorem d23_9 : decode jdk_38_method_20_code 9 = .ok (.aload_n 0, 1) := by decide +kernel
theorem d23_10 : decode jdk_38_method_20_code 10 = .ok (.iload_n 1, 1) := by decide +kernel
theorem d23_11 : decode jdk_38_method_20_code 11 = .ok (.invokevirtual 123, 3) := by decide +kernel
theorem d23_14 : decode jdk_38_method_20_code 14 = .ok (.areturn, 1) := by decide +kernel
theorem pn23 : plainName "java/util/ArrayList" = true := by first | (simp [plainName, overriddenIn]; done) | decide +kernel
theorem pd23_0 : parseMethodDescriptor "(II)I" = some ⟨[.int, .int], some .int⟩ := by decide +kernel
theorem pd23_1 : parseMethodDescriptor "(I)Ljava/lang/Object;" = some ⟨[.int], some (.object "java/lang/Object")⟩ := by decide +kernel
theorem ef23 (m : MethodId) (x0 : Addr) (x1 : Int32) : entryFrame m #[(.ref x0), (.int x1)] 2 = mkF m 0 #[.val (.ref x0), .val (.int x1)] [] := by first | (simp [entryFrame, mkF, argsToLocals, Value.category]; done) | rfl
set_option maxRecDepth 65536 in
set_option maxHeartbeats 40000000 in
theorem rm23 (l : Launch) (Z : State) (a0 : Array Value) (hw : ∀ d ∈ tables_1, d.before a0 Z = true) (ws : List Jvm.Cond) (a1 b1 w1 : Addr) (k1 : ClassId) (i1 z1 cap1 : Int32) (vs1 : List Value) (h0 : Heap) (n0 : Nat) (E1 : Exa Z h0 a1 "java/util/ArrayList") (Fe : Fld Z h0 a1 "java/util/ArrayList" "elementData" "[Ljava/lang/Object;" (.ref b1)) (Fs : Fld Z h0 a1 "java/util/ArrayList" "size" "I" (.int z1)) (V1 : Arv Z h0 b1 k1 (.object "java/lang/Object") cap1 vs1 .null) (hi0 : ¬ i1 < (0 : Int32)) (hiz : i1 < z1) (hic : i1 < cap1) (hv : vs1.getD i1.toNatClampNeg .null = .ref w1) :
    own_Met l (⟨"java/util/ArrayList", "get", "(I)Ljava/lang/Object;"⟩ : MethodName) jdk_38_method_20_code 2 (some (.object "java/lang/Object")) ws ({ frames := 2, cells := 0, slots := 0, locals := 27 } : Room) Z #[(.ref a1), (.int i1)] h0 (Q23 w1 h0 n0) := by
  refine own_enter #[.val (.ref a1), .val (.int i1)] (plainFor_of_name pn23) (fun m => ef23 m a1 i1) ?_
  intro p e s m below meth c s₁ hx hby hml hown hnm hZ hrt hlk X0 e0
  have N0 := Fr.nil n0
  refine own_tp (.int i1) 1 (fun _ q => XS.iloadN X0.here hx rfl (hb hby d23_0) rfl q) ?_
  refine own_tp (.ref a1) 2 (fun _ q => XS.aloadN X0.here hx rfl (hb hby d23_1) rfl rfl q) ?_
  obtain ⟨T51, X51, e51, st51⟩ := getF X0 hx hZ hown (host := "") (Or.inl (hw _ (List.mem_of_getElem? (i := 44) rfl))) Via.refl e0 Fs (g := (mkF m 2 #[.val (.ref a1), .val (.int i1)] [(.ref a1), (.int i1)])) rfl rfl (hb hby d23_2)
  refine own_t1 (.int z1) 5 st51 ?_
  obtain ⟨_, _, ⟨T52, L52, k52, n52⟩, -, X52, ⟨Lc52, hQ52, l52, y52, z52⟩, st52⟩ := Jvm.LawKit.callS X51 hx (y := (⟨"java/util/Objects", "checkIndex", "(II)I"⟩ : MethodName)) hown (mvT hZ (hw _ (List.mem_of_getElem? (i := 91) rfl))) (mvT hZ (hw _ (List.mem_of_getElem? (i := 92) rfl))) (mvT hZ (hw _ (List.mem_of_getElem? (i := 93) rfl))) (mvT hZ (hw _ (List.mem_of_getElem? (i := 94) rfl))) (by decide) (backOf (W := 0) (rm21 l Z a0 hw [] i1 z1 h0 n0 hi0 hiz) hZ (hw _ (List.mem_of_getElem? (i := 94) rfl)) (hw _ (List.mem_of_getElem? (i := 93) rfl)) (by decide) (by decide)) (g := (mkF m 5 #[.val (.ref a1), .val (.int i1)] [(.int z1), (.int i1)])) rfl (by rw [hml]; rfl) (argsL := [(.int i1), (.int z1)]) (rest := []) (lenOf pd23_0 rfl) rfl (by show 2 * 0 + _ ≤ _; exact Nat.le_of_eq rfl) (hb hby d23_5) (fun _ _ => ⟨rfl, e51, (by decide : 0 + 0 ≤ _), (by decide : 0 + 0 ≤ _)⟩)
  dsimp only [Pt.U, Pt.locs, Pt.cells, Pt.slots] at X52 l52 y52 z52 st52 hQ52
  subst l52 y52 z52
  obtain ⟨rfl, Nq52, eq52⟩ := hQ52
  have N52 := Fr.app N0 Nq52
  refine own_d1 8 st52 ?_
  refine own_d1 9 (fun _ q => XS.pop X52.here hx rfl (hb hby d23_8) rfl rfl q) ?_
  refine own_tp (.ref a1) 10 (fun _ q => XS.aloadN X52.here hx rfl (hb hby d23_9) rfl rfl q) ?_
  refine own_tp (.int i1) 11 (fun _ q => XS.iloadN X52.here hx rfl (hb hby d23_10) rfl q) ?_
  obtain ⟨cq53, kq53, q53a, q53b, q53c⟩ := isOf hZ eq52 E1
  obtain ⟨_, _, ⟨T53, L53, k53, n53⟩, -, X53, ⟨Lc53, hQ53, l53, y53, z53⟩, st53⟩ := X52.virtualBack hx (y := (⟨"java/util/ArrayList", "elementData", "(I)Ljava/lang/Object;"⟩ : MethodName)) (z := (⟨"java/util/ArrayList", "elementData", "(I)Ljava/lang/Object;"⟩ : MethodName)) hown (mvT hZ (hw _ (List.mem_of_getElem? (i := 99) rfl))) (mvT hZ (hw _ (List.mem_of_getElem? (i := 100) rfl))) (notFace_of_selects (args := #[]) (mvT hZ (hw _ (List.mem_of_getElem? (i := 102) rfl)))) (mvT hZ (hw _ (List.mem_of_getElem? (i := 102) rfl))) (mvT hZ (hw _ (List.mem_of_getElem? (i := 101) rfl))) (by decide) (backOf (W := 0) (rm22 l Z a0 hw [] a1 b1 w1 k1 i1 z1 cap1 vs1 h0 n0 E1 Fe Fs V1 hi0 hiz hic hv) hZ (hw _ (List.mem_of_getElem? (i := 103) rfl)) (hw _ (List.mem_of_getElem? (i := 2) rfl)) (by decide) (by decide)) q53a q53c (g := (mkF m 11 #[.val (.ref a1), .val (.int i1)] [(.int i1), (.ref a1)])) rfl (by rw [hml]; rfl) (Steps.refl _) (argsL := [(.int i1)]) (rest := []) (lenOf pd23_1 rfl) rfl (by show 2 * 0 + _ ≤ _; exact Nat.le_of_eq rfl) (hb hby d23_11) (fun _ _ => ⟨rfl, eq52, (by decide : 0 + 0 ≤ _), (by decide : 0 + 0 ≤ _)⟩)
  dsimp only [Pt.U, Pt.locs, Pt.cells, Pt.slots] at X53 l53 y53 z53 st53 hQ53
  subst l53 y53 z53
  obtain ⟨rfl, Nq53, eq53⟩ := hQ53
  have N53 := Fr.app N52 Nq53
  refine own_csR [(.ref w1)] 14 st53 ?_
  exact own_retR X53 hx hrt (hb hby d23_14) rfl rfl hlk (by decide) (by decide) eq53 (⟨rfl, N53, rfl⟩)


theorem own_split {vs pre rs : List Value} {am aq : Addr} {b : Bool} {r : List Bool} {i : Nat} (h : vs = pre ++ ((b :: r).map (own_v am aq) ++ rs)) (hl : pre.length = i) : vs.getD i .null = .ref (own_e am aq b) ∧ vs = (pre ++ [own_v am aq b]) ++ (r.map (own_v am aq) ++ rs) := by
  subst hl
  refine ⟨?_, by rw [h]; simp⟩
  rw [h, List.getD_eq_getElem?_getD, List.getElem?_append_right (Nat.le_refl _), Nat.sub_self]
  rfl
theorem own_next {i z : Int32} {n : Nat} (h : i.toInt + (n + 1 : Nat) = z.toInt) (h0 : 0 ≤ i.toInt) : ¬ i < 0 ∧ i < z ∧ (i + 1).toInt + n = z.toInt ∧ 0 ≤ (i + 1).toInt ∧ (i + 1).toNatClampNeg = i.toNatClampNeg + 1 := by
  have e0 : (0 : Int32).toInt = 0 := rfl
  have e1 : (1 : Int32).toInt = 1 := rfl
  have a := c_iadd i 1
  have r := rng32 z
  have r1 := rng32 i
  have r2 := rng32 (i + 1)
  have q : (i + 1).toInt = i.toInt + 1 := by omega
  simp only [Int32.lt_iff_toInt_lt, Int32.toNatClampNeg, e0]
  omega
theorem own_last {i z : Int32} (h : i.toInt + (0 : Nat) = z.toInt) : ¬ i < z := by rw [Int32.lt_iff_toInt_lt]; omega
theorem own_lec {i z c : Int32} (h : i < z) (h2 : ¬ c < z) : i < c := by
  rw [Int32.lt_iff_toInt_lt] at *
  omega
theorem own_map_len (am aq : Addr) (pre : List Value) (b : Bool) (i : Int32) (h : pre.length = i.toNatClampNeg) (h2 : (i + 1).toNatClampNeg = i.toNatClampNeg + 1) : (pre ++ [own_v am aq b]).length = (i + 1).toNatClampNeg := by
  rw [h2, ← h]; simp
def Q24 (Z : State) (h0 : Heap) (n0 : Nat) (v : Option Value) (h : Heap) (L : List Loc) : Prop := v = none ∧ Fr n0 L ∧ h = h0

theorem d24_0 : decode prog_9_method_5_code 0 = .ok (.iconst 0, 1) := by decide +kernel
theorem d24_1 : decode prog_9_method_5_code 1 = .ok (.istore_n 2, 1) := by decide +kernel
theorem d24_2 : decode prog_9_method_5_code 2 = .ok (.iconst 0, 1) := by decide +kernel
theorem d24_3 : decode prog_9_method_5_code 3 = .ok (.istore_n 3, 1) := by decide +kernel
theorem d24_4 : decode prog_9_method_5_code 4 = .ok (.iload_n 3, 1) := by decide +kernel
theorem d24_5 : decode prog_9_method_5_code 5 = .ok (.aload_n 1, 1) := by decide +kernel
theorem d24_6 : decode prog_9_method_5_code 6 = .ok (.invokeinterface 42 1, 5) := by decide +kernel
theorem d24_11 : decode prog_9_method_5_code 11 = .ok (.if_icmp .ge 107, 3) := by decide +kernel
theorem d24_14 : decode prog_9_method_5_code 14 = .ok (.aload_n 1, 1) := by decide +kernel
theorem d24_15 : decode prog_9_method_5_code 15 = .ok (.iload_n 3, 1) := by decide +kernel
theorem d24_16 : decode prog_9_method_5_code 16 = .ok (.invokeinterface 47 2, 5) := by decide +kernel
theorem d24_21 : decode prog_9_method_5_code 21 = .ok (.checkcast 1, 3) := by decide +kernel
theorem d24_24 : decode prog_9_method_5_code 24 = .ok (.astore 4, 2) := by decide +kernel
theorem d24_26 : decode prog_9_method_5_code 26 = .ok (.aload 4, 2) := by decide +kernel
theorem d24_28 : decode prog_9_method_5_code 28 = .ok (.getfield 32, 3) := by decide +kernel
theorem d24_31 : decode prog_9_method_5_code 31 = .ok (.aload_n 0, 1) := by decide +kernel
theorem d24_32 : decode prog_9_method_5_code 32 = .ok (.getfield 32, 3) := by decide +kernel
theorem d24_35 : decode prog_9_method_5_code 35 = .ok (.if_icmp .lt 25, 3) := by decide +kernel
theorem d24_60 : decode prog_9_method_5_code 60 = .ok (.iload_n 2, 1) := by decide +kernel
theorem d24_61 : decode prog_9_method_5_code 61 = .ok (.aload 4, 2) := by decide +kernel
theorem d24_63 : decode prog_9_method_5_code 63 = .ok (.getfield 32, 3) := by decide +kernel
theorem d24_66 : decode prog_9_method_5_code 66 = .ok (.irem, 1) := by decide +kernel
theorem d24_67 : decode prog_9_method_5_code 67 = .ok (.ifCond .eq 37, 3) := by decide +kernel
theorem d24_104 : decode prog_9_method_5_code 104 = .ok (.iload_n 2, 1) := by decide +kernel
theorem d24_105 : decode prog_9_method_5_code 105 = .ok (.aload 4, 2) := by decide +kernel
theorem d24_107 : decode prog_9_method_5_code 107 = .ok (.getfield 32, 3) := by decide +kernel
theorem d24_110 : decode prog_9_method_5_code 110 = .ok (.iadd, 1) := by decide +kernel
theorem d24_111 : decode prog_9_method_5_code 111 = .ok (.istore_n 2, 1) := by decide +kernel
theorem d24_112 : decode prog_9_method_5_code 112 = .ok (.iinc 3 1, 3) := by decide +kernel
theorem d24_115 : decode prog_9_method_5_code 115 = .ok (.goto (-111), 3) := by decide +kernel
theorem d24_118 : decode prog_9_method_5_code 118 = .ok (.iload_n 2, 1) := by decide +kernel
theorem d24_119 : decode prog_9_method_5_code 119 = .ok (.aload_n 0, 1) := by decide +kernel
theorem d24_120 : decode prog_9_method_5_code 120 = .ok (.getfield 32, 3) := by decide +kernel
theorem d24_123 : decode prog_9_method_5_code 123 = .ok (.if_icmp .eq 29, 3) := by decide +kernel
theorem d24_152 : decode prog_9_method_5_code 152 = .ok (.return_, 1) := by decide +kernel
theorem pn24 : plainName "com/example/kalends/kalends/ContractPeriod$Length" = true := by first | (simp [plainName, overriddenIn]; done) | decide +kernel
theorem pd24_0 : parseMethodDescriptor "()I" = some ⟨[], some .int⟩ := by decide +kernel
theorem pd24_1 : parseMethodDescriptor "(I)Ljava/lang/Object;" = some ⟨[.int], some (.object "java/lang/Object")⟩ := by decide +kernel
theorem ef24 (m : MethodId) (x0 : Addr) (x1 : Addr) : entryFrame m #[(.ref x0), (.ref x1)] 5 = mkF m 0 #[.val (.ref x0), .val (.ref x1), .unset, .unset, .unset] [] := by first | (simp [entryFrame, mkF, argsToLocals, Value.category]; done) | rfl
set_option maxRecDepth 65536 in
set_option maxHeartbeats 40000000 in
theorem rm24 (l : Launch) (Z : State) (a0 : Array Value) (hw : ∀ d ∈ tables_1, d.before a0 Z = true) (ws : List Jvm.Cond) (t1 a1 b1 : Addr) (k1 : ClassId) (z1 g1 cap1 mt : Int32) (vs1 rs1 : List Value) (ks1 : List Bool) (h0 : Heap) (n0 : Nat) (O0 : Old Z n0 h0) (LL : own_L Z n0 h0 a1 b1 k1 z1 g1 cap1 vs1) (am aq ay : Addr) (Sm : Sta Z Z.heap "com/example/kalends/kalends/ContractPeriod$Length" "MONTH" "Lcom/example/kalends/kalends/ContractPeriod$Length;" (.ref am)) (Sq : Sta Z Z.heap "com/example/kalends/kalends/ContractPeriod$Length" "QUARTER" "Lcom/example/kalends/kalends/ContractPeriod$Length;" (.ref aq)) (Sy : Sta Z Z.heap "com/example/kalends/kalends/ContractPeriod$Length" "YEAR" "Lcom/example/kalends/kalends/ContractPeriod$Length;" (.ref ay)) (Hm : Exa Z Z.heap am "com/example/kalends/kalends/ContractPeriod$Length") (Hq : Exa Z Z.heap aq "com/example/kalends/kalends/ContractPeriod$Length") (Hy : Exa Z Z.heap ay "com/example/kalends/kalends/ContractPeriod$Length") (Fm : Fld Z Z.heap am "com/example/kalends/kalends/ContractPeriod$Length" "months" "I" (.int (1 : Int32))) (Fq : Fld Z Z.heap aq "com/example/kalends/kalends/ContractPeriod$Length" "months" "I" (.int (3 : Int32))) (Fy : Fld Z Z.heap ay "com/example/kalends/kalends/ContractPeriod$Length" "months" "I" (.int (12 : Int32))) (Et : Exa Z Z.heap t1 "com/example/kalends/kalends/ContractPeriod$Length") (Ft : Fld Z Z.heap t1 "com/example/kalends/kalends/ContractPeriod$Length" "months" "I" (.int mt)) (hvs : vs1 = [] ++ (ks1.map (own_v am aq) ++ rs1)) (hks : (0 : Int32).toInt + ks1.length = z1.toInt) (hcap : ¬ cap1 < z1) (hok : own_ok mt (0 : Int32) ks1 = true) :
    own_Met l (⟨"com/example/kalends/kalends/ContractPeriod$Length", "requireMadeUpOf", "(Ljava/util/List;)V"⟩ : MethodName) prog_9_method_5_code 5 none ws ({ frames := 3, cells := 0, slots := 0, locals := 40 } : Room) Z #[(.ref t1), (.ref a1)] h0 (Q24 Z h0 n0) := by
  refine own_enter #[.val (.ref t1), .val (.ref a1), .unset, .unset, .unset] (plainFor_of_name pn24) (fun m => ef24 m t1 a1) ?_
  intro p e s m below meth c s₁ hx hby hml hown hnm hZ hrt hlk X0 e0
  have N0 := Fr.nil n0
  obtain ⟨Ea51, Fe51, Fs51, Fg51, Vb51, Ov51, Eb51, ga51, gb51, nab51⟩ := LL
  refine own_tp (.int (0 : Int32)) 1 (fun _ q => XS.iconst X0.here hx rfl (hb hby d24_0) q) ?_
  refine own_ls #[.val (.ref t1), .val (.ref a1), .val (.int (0 : Int32)), .unset, .unset] 2 (fun _ q => XS.istoreN X0.here hx rfl (hb hby d24_1) rfl (l' := #[.val (.ref t1), .val (.ref a1), .val (.int (0 : Int32)), .unset, .unset]) rfl q) ?_
  refine own_tp (.int (0 : Int32)) 3 (fun _ q => XS.iconst X0.here hx rfl (hb hby d24_2) q) ?_
  refine own_ls #[.val (.ref t1), .val (.ref a1), .val (.int (0 : Int32)), .val (.int (0 : Int32)), .unset] 4 (fun _ q => XS.istoreN X0.here hx rfl (hb hby d24_3) rfl (l' := #[.val (.ref t1), .val (.ref a1), .val (.int (0 : Int32)), .val (.int (0 : Int32)), .unset]) rfl q) ?_
  have loop : ∀ (r : List Bool) (pre : List Value) (Tj : State) (lj : List Loc) (i f : Int32) (sl : Slot), One sl → Stand p l e ({ frames := 3, cells := 0, slots := 0, locals := 40 } : Room) s m #[(.ref t1), (.ref a1)] below meth c Tj lj 0 0 → Fr n0 lj → Tj.heap = h0 → vs1 = pre ++ (r.map (own_v am aq) ++ rs1) → pre.length = i.toNatClampNeg → i.toInt + r.length = z1.toInt → 0 ≤ i.toInt → own_ok mt f r = true → own_Goes p e below (own_FN s (Q24 Z h0 n0) ({ frames := 3, cells := 0, slots := 0, locals := 40 } : Room).cells ({ frames := 3, cells := 0, slots := 0, locals := 40 } : Room).slots) (Tj.setTop (mkF m 4 #[.val (.ref t1), .val (.ref a1), .val (.int f), .val (.int i), sl] [])) := by
    intro r
    induction r with
    | nil =>
      intro pre Tj lj i f sl hsl Xj Nj ej hvs hpre hi hi0 hok
      have hlt := own_last hi
      have hfm := own_ok0 hok
      refine own_tp (.int i) 5 (fun _ q => XS.iloadN Xj.here hx rfl (hb hby d24_4) rfl q) ?_
      refine own_tp (.ref a1) 6 (fun _ q => XS.aloadN Xj.here hx rfl (hb hby d24_5) rfl rfl q) ?_
      obtain ⟨cq52, kq52, q52a, q52b, q52c⟩ := isOf hZ ej Ea51
      obtain ⟨_, _, ⟨T52, L52, k52, n52⟩, -, X52, ⟨Lc52, hQ52, l52, y52, z52⟩, st52⟩ := Xj.interfaceBack hx (xi := (⟨"java/util/List", "size", "()I"⟩ : MethodName)) (y := (⟨"java/util/ArrayList", "size", "()I"⟩ : MethodName)) hown (mvT hZ (hw _ (List.mem_of_getElem? (i := 75) rfl))) (mvT hZ (hw _ (List.mem_of_getElem? (i := 76) rfl))) (mvT hZ (hw _ (List.mem_of_getElem? (i := 77) rfl))) (mvT hZ (hw _ (List.mem_of_getElem? (i := 78) rfl))) (mvT hZ (hw _ (List.mem_of_getElem? (i := 79) rfl))) (mvT hZ (hw _ (List.mem_of_getElem? (i := 80) rfl))) (mvT hZ (hw _ (List.mem_of_getElem? (i := 81) rfl))) (mvT hZ (hw _ (List.mem_of_getElem? (i := 40) rfl))) (by decide) (backOf (W := 1) (rm19 l Z a0 hw [] a1 z1 h0 n0 Ea51 Fs51) hZ (hw _ (List.mem_of_getElem? (i := 82) rfl)) (hw _ (List.mem_of_getElem? (i := 2) rfl)) (by decide) (by decide)) q52a q52b q52c (g := (mkF m 6 #[.val (.ref t1), .val (.ref a1), .val (.int f), .val (.int i), sl] [(.ref a1), (.int i)])) rfl (by rw [hml]; rfl) (Steps.refl _) (argsL := []) (rest := [(.int i)]) (lenOf pd24_0 rfl) rfl (by show 2 * 0 + _ ≤ _; exact Nat.le_of_eq rfl) (hb hby d24_6) (fun _ _ => ⟨rfl, ej, (by decide : 0 + 0 ≤ _), (by decide : 0 + 0 ≤ _)⟩)
      dsimp only [Pt.U, Pt.locs, Pt.cells, Pt.slots] at X52 l52 y52 z52 st52 hQ52
      subst l52 y52 z52
      obtain ⟨rfl, Nq52, eq52⟩ := hQ52
      have N52 := Fr.app Nj Nq52
      refine own_csR [(.int z1), (.int i)] 11 st52 ?_
      refine own_d2 118 (fun _ q => XS.icmpYes X52.here hx rfl (pc0 := 11) (pc' := 118) rfl (hb hby d24_11) rfl (flt hlt).2.1 (by decide) (by decide) q) ?_
      refine own_tp (.int f) 119 (fun _ q => XS.iloadN X52.here hx rfl (hb hby d24_118) rfl q) ?_
      refine own_tp (.ref t1) 120 (fun _ q => XS.aloadN X52.here hx rfl (hb hby d24_119) rfl rfl q) ?_
      obtain ⟨T53, X53, e53, st53⟩ := getF X52 hx hZ hown (host := "") (Or.inl (hw _ (List.mem_of_getElem? (i := 106) rfl))) Via.refl eq52 (Ft.ext O0.2) (g := (mkF m 120 #[.val (.ref t1), .val (.ref a1), .val (.int f), .val (.int i), sl] [(.ref t1), (.int f)])) rfl rfl (hb hby d24_120)
      refine own_t1 (.int mt) 123 st53 ?_
      refine own_d2 152 (fun _ q => XS.icmpYes X53.here hx rfl (pc0 := 123) (pc' := 152) rfl (hb hby d24_123) rfl (teq hfm).1 (by decide) (by decide) q) ?_
      exact own_retV X53 hx hrt (hb hby d24_152) hlk (by decide) (by decide) e53 (⟨rfl, N52, rfl⟩)
    | cons b r ih =>
      intro pre Tj lj i f sl hsl Xj Nj ej hvs hpre hi hi0 hok
      obtain ⟨hget, hvs2⟩ := own_split hvs hpre
      obtain ⟨hn0, hlt, hi2, hi3, hi4⟩ := own_next hi hi0
      obtain ⟨hml1, hrem, hok2⟩ := own_ok1 hok
      have Ee : Exa Z Z.heap (own_e am aq b) "com/example/kalends/kalends/ContractPeriod$Length" := by cases b; exact Hm; exact Hq
      have Fee : Fld Z Z.heap (own_e am aq b) "com/example/kalends/kalends/ContractPeriod$Length" "months" "I" (.int (own_mon b)) := by cases b; exact Fm; exact Fq
      refine own_tp (.int i) 5 (fun _ q => XS.iloadN Xj.here hx rfl (hb hby d24_4) rfl q) ?_
      refine own_tp (.ref a1) 6 (fun _ q => XS.aloadN Xj.here hx rfl (hb hby d24_5) rfl rfl q) ?_
      obtain ⟨cq54, kq54, q54a, q54b, q54c⟩ := isOf hZ ej Ea51
      obtain ⟨_, _, ⟨T54, L54, k54, n54⟩, -, X54, ⟨Lc54, hQ54, l54, y54, z54⟩, st54⟩ := Xj.interfaceBack hx (xi := (⟨"java/util/List", "size", "()I"⟩ : MethodName)) (y := (⟨"java/util/ArrayList", "size", "()I"⟩ : MethodName)) hown (mvT hZ (hw _ (List.mem_of_getElem? (i := 75) rfl))) (mvT hZ (hw _ (List.mem_of_getElem? (i := 76) rfl))) (mvT hZ (hw _ (List.mem_of_getElem? (i := 77) rfl))) (mvT hZ (hw _ (List.mem_of_getElem? (i := 78) rfl))) (mvT hZ (hw _ (List.mem_of_getElem? (i := 79) rfl))) (mvT hZ (hw _ (List.mem_of_getElem? (i := 80) rfl))) (mvT hZ (hw _ (List.mem_of_getElem? (i := 81) rfl))) (mvT hZ (hw _ (List.mem_of_getElem? (i := 40) rfl))) (by decide) (backOf (W := 1) (rm19 l Z a0 hw [] a1 z1 h0 n0 Ea51 Fs51) hZ (hw _ (List.mem_of_getElem? (i := 82) rfl)) (hw _ (List.mem_of_getElem? (i := 2) rfl)) (by decide) (by decide)) q54a q54b q54c (g := (mkF m 6 #[.val (.ref t1), .val (.ref a1), .val (.int f), .val (.int i), sl] [(.ref a1), (.int i)])) rfl (by rw [hml]; rfl) (Steps.refl _) (argsL := []) (rest := [(.int i)]) (lenOf pd24_0 rfl) rfl (by show 2 * 0 + _ ≤ _; exact Nat.le_of_eq rfl) (hb hby d24_6) (fun _ _ => ⟨rfl, ej, (by decide : 0 + 0 ≤ _), (by decide : 0 + 0 ≤ _)⟩)
      dsimp only [Pt.U, Pt.locs, Pt.cells, Pt.slots] at X54 l54 y54 z54 st54 hQ54
      subst l54 y54 z54
      obtain ⟨rfl, Nq54, eq54⟩ := hQ54
      have N54 := Fr.app Nj Nq54
      refine own_csR [(.int z1), (.int i)] 11 st54 ?_
      refine own_d2 14 (fun _ q => XS.icmpNo X54.here hx rfl (hb hby d24_11) rfl (tlt hlt).2.1 q) ?_
      refine own_tp (.ref a1) 15 (fun _ q => XS.aloadN X54.here hx rfl (hb hby d24_14) rfl rfl q) ?_
      refine own_tp (.int i) 16 (fun _ q => XS.iloadN X54.here hx rfl (hb hby d24_15) rfl q) ?_
      obtain ⟨cq55, kq55, q55a, q55b, q55c⟩ := isOf hZ eq54 Ea51
      obtain ⟨_, _, ⟨T55, L55, k55, n55⟩, -, X55, ⟨Lc55, hQ55, l55, y55, z55⟩, st55⟩ := X54.interfaceBack hx (xi := (⟨"java/util/List", "get", "(I)Ljava/lang/Object;"⟩ : MethodName)) (y := (⟨"java/util/ArrayList", "get", "(I)Ljava/lang/Object;"⟩ : MethodName)) hown (mvT hZ (hw _ (List.mem_of_getElem? (i := 83) rfl))) (mvT hZ (hw _ (List.mem_of_getElem? (i := 84) rfl))) (mvT hZ (hw _ (List.mem_of_getElem? (i := 85) rfl))) (mvT hZ (hw _ (List.mem_of_getElem? (i := 86) rfl))) (mvT hZ (hw _ (List.mem_of_getElem? (i := 87) rfl))) (mvT hZ (hw _ (List.mem_of_getElem? (i := 88) rfl))) (mvT hZ (hw _ (List.mem_of_getElem? (i := 89) rfl))) (mvT hZ (hw _ (List.mem_of_getElem? (i := 40) rfl))) (by decide) (backOf (W := 0) (rm23 l Z a0 hw [] a1 b1 (own_e am aq b) k1 i z1 cap1 vs1 h0 n0 Ea51 Fe51 Fs51 Vb51 hn0 hlt (own_lec hlt hcap) hget) hZ (hw _ (List.mem_of_getElem? (i := 90) rfl)) (hw _ (List.mem_of_getElem? (i := 2) rfl)) (by decide) (by decide)) q55a q55b q55c (g := (mkF m 16 #[.val (.ref t1), .val (.ref a1), .val (.int f), .val (.int i), sl] [(.int i), (.ref a1)])) rfl (by rw [hml]; rfl) (Steps.refl _) (argsL := [(.int i)]) (rest := []) (lenOf pd24_1 rfl) rfl (by show 2 * 0 + _ ≤ _; exact Nat.le_of_eq rfl) (hb hby d24_16) (fun _ _ => ⟨rfl, eq54, (by decide : 0 + 0 ≤ _), (by decide : 0 + 0 ≤ _)⟩)
      dsimp only [Pt.U, Pt.locs, Pt.cells, Pt.slots] at X55 l55 y55 z55 st55 hQ55
      subst l55 y55 z55
      obtain ⟨rfl, Nq55, eq55⟩ := hQ55
      have N55 := Fr.app N54 Nq55
      refine own_csR [(.ref (own_e am aq b))] 21 st55 ?_
      obtain ⟨T56, X56, e56, st56⟩ := castY X55 hx hZ hown (hw _ (List.mem_of_getElem? (i := 104) rfl)) eq55 (Ins.self (Ee.ext O0.2)) (g := (mkF m 21 #[.val (.ref t1), .val (.ref a1), .val (.int f), .val (.int i), sl] [(.ref (own_e am aq b))])) rfl rfl (hb hby d24_21)
      refine own_d0 24 st56 ?_
      refine own_ls #[.val (.ref t1), .val (.ref a1), .val (.int f), .val (.int i), .val (.ref (own_e am aq b))] 26 (fun _ q => XS.astoreS X56.here hx rfl (hb hby d24_24) rfl rfl rfl rfl hsl q) ?_
      refine own_tp (.ref (own_e am aq b)) 28 (fun _ q => XS.aload X56.here hx rfl (hb hby d24_26) rfl rfl q) ?_
      obtain ⟨T57, X57, e57, st57⟩ := getF X56 hx hZ hown (host := "") (Or.inl (hw _ (List.mem_of_getElem? (i := 106) rfl))) Via.refl e56 (Fee.ext O0.2) (g := (mkF m 28 #[.val (.ref t1), .val (.ref a1), .val (.int f), .val (.int i), .val (.ref (own_e am aq b))] [(.ref (own_e am aq b))])) rfl rfl (hb hby d24_28)
      refine own_t1 (.int (own_mon b)) 31 st57 ?_
      refine own_tp (.ref t1) 32 (fun _ q => XS.aloadN X57.here hx rfl (hb hby d24_31) rfl rfl q) ?_
      obtain ⟨T58, X58, e58, st58⟩ := getF X57 hx hZ hown (host := "") (Or.inl (hw _ (List.mem_of_getElem? (i := 106) rfl))) Via.refl e57 (Ft.ext O0.2) (g := (mkF m 32 #[.val (.ref t1), .val (.ref a1), .val (.int f), .val (.int i), .val (.ref (own_e am aq b))] [(.ref t1), (.int (own_mon b))])) rfl rfl (hb hby d24_32)
      refine own_t1 (.int mt) 35 st58 ?_
      refine own_d2 60 (fun _ q => XS.icmpYes X58.here hx rfl (pc0 := 35) (pc' := 60) rfl (hb hby d24_35) rfl (tlt hml1).1 (by decide) (by decide) q) ?_
      refine own_tp (.int f) 61 (fun _ q => XS.iloadN X58.here hx rfl (hb hby d24_60) rfl q) ?_
      refine own_tp (.ref (own_e am aq b)) 63 (fun _ q => XS.aload X58.here hx rfl (hb hby d24_61) rfl rfl q) ?_
      obtain ⟨T59, X59, e59, st59⟩ := getF X58 hx hZ hown (host := "") (Or.inl (hw _ (List.mem_of_getElem? (i := 106) rfl))) Via.refl e58 (Fee.ext O0.2) (g := (mkF m 63 #[.val (.ref t1), .val (.ref a1), .val (.int f), .val (.int i), .val (.ref (own_e am aq b))] [(.ref (own_e am aq b)), (.int f)])) rfl rfl (hb hby d24_63)
      refine own_t1 (.int (own_mon b)) 66 st59 ?_
      refine own_t2 (.int (f % (own_mon b))) 67 (fun _ q => iremM (g := (mkF m 66 #[.val (.ref t1), .val (.ref a1), .val (.int f), .val (.int i), .val (.ref (own_e am aq b))] [(.int (own_mon b)), (.int f)])) X59 hx rfl (hb hby d24_66) rfl (own_mon_ne b) q) ?_
      refine own_d1 104 (fun _ q => XS.ifYes X59.here hx rfl (pc0 := 67) (pc' := 104) rfl (hb hby d24_67) rfl ((if0 _ _).trans (teq hrem).1) (by decide) (by decide) q) ?_
      refine own_tp (.int f) 105 (fun _ q => XS.iloadN X59.here hx rfl (hb hby d24_104) rfl q) ?_
      refine own_tp (.ref (own_e am aq b)) 107 (fun _ q => XS.aload X59.here hx rfl (hb hby d24_105) rfl rfl q) ?_
      obtain ⟨T60, X60, e60, st60⟩ := getF X59 hx hZ hown (host := "") (Or.inl (hw _ (List.mem_of_getElem? (i := 106) rfl))) Via.refl e59 (Fee.ext O0.2) (g := (mkF m 107 #[.val (.ref t1), .val (.ref a1), .val (.int f), .val (.int i), .val (.ref (own_e am aq b))] [(.ref (own_e am aq b)), (.int f)])) rfl rfl (hb hby d24_107)
      refine own_t1 (.int (own_mon b)) 110 st60 ?_
      refine own_t2 (.int (f + (own_mon b))) 111 (fun _ q => XS.iadd X60.here hx rfl (hb hby d24_110) rfl q) ?_
      refine own_ls #[.val (.ref t1), .val (.ref a1), .val (.int (f + (own_mon b))), .val (.int i), .val (.ref (own_e am aq b))] 112 (fun _ q => XS.istoreN X60.here hx rfl (hb hby d24_111) rfl (l' := #[.val (.ref t1), .val (.ref a1), .val (.int (f + (own_mon b))), .val (.int i), .val (.ref (own_e am aq b))]) rfl q) ?_
      refine own_li #[.val (.ref t1), .val (.ref a1), .val (.int (f + (own_mon b))), .val (.int (i + (1 : Int32))), .val (.ref (own_e am aq b))] 115 (fun _ q => XS.iinc X60.here hx rfl (hb hby d24_112) rfl (l' := #[.val (.ref t1), .val (.ref a1), .val (.int (f + (own_mon b))), .val (.int (i + (1 : Int32))), .val (.ref (own_e am aq b))]) rfl q) ?_
      refine own_d0 4 (fun _ q => XS.goto X60.here hx rfl (pc0 := 115) (pc' := 4) rfl (hb hby d24_115) (by decide) (by decide) q) ?_
      exact ih _ T60 _ _ _ _ (One.val rfl) X60 N55 e60 hvs2 (own_map_len am aq pre b i hpre hi4) hi2 hi3 hok2
  exact loop ks1 [] s₁ _ (0 : Int32) (0 : Int32) .unset One.u X0 N0 e0 hvs rfl hks (by decide) hok

def Q25 (Z : State) (a1 am aq : Addr) (g1 : Int32) (h0 : Heap) (n0 : Nat) (v : Option Value) (h : Heap) (L : List Loc) : Prop := ∃ (b : Addr) (k : ClassId), v = some (.int (1 : Int32)) ∧ Fr n0 L ∧ Old Z n0 h ∧ own_L Z n0 h a1 b k (1 : Int32) (g1 + (1 : Int32)) (10 : Int32) [(.ref aq), .null, .null, .null, .null, .null, .null, .null, .null, .null]

theorem d25_0 : decode method_2_code 0 = .ok (.iload_n 1, 1) := by decide +kernel
theorem d25_1 : decode method_2_code 1 = .ok (.ifCond .eq 15, 3) := by decide +kernel
theorem d25_4 : decode method_2_code 4 = .ok (.aload_n 0, 1) := by decide +kernel
theorem d25_5 : decode method_2_code 5 = .ok (.getstatic 7, 3) := by decide +kernel
theorem d25_8 : decode method_2_code 8 = .ok (.invokeinterface 13 2, 5) := by decide +kernel
theorem d25_13 : decode method_2_code 13 = .ok (.pop, 1) := by decide +kernel
theorem d25_14 : decode method_2_code 14 = .ok (.iconst 1, 1) := by decide +kernel
theorem d25_15 : decode method_2_code 15 = .ok (.ireturn, 1) := by decide +kernel
theorem pn25 : plainName "com/example/kalends/kalends/LengthRequireMadeUpOfPinLaw" = true := by first | (simp [plainName, overriddenIn]; done) | decide +kernel
theorem pd25_0 : parseMethodDescriptor "(Ljava/lang/Object;)Z" = some ⟨[(.object "java/lang/Object")], some .boolean⟩ := by decide +kernel
theorem ef25 (m : MethodId) (x0 : Addr) (x1 : Int32) : entryFrame m #[(.ref x0), (.int x1)] 2 = mkF m 0 #[.val (.ref x0), .val (.int x1)] [] := by first | (simp [entryFrame, mkF, argsToLocals, Value.category]; done) | rfl
set_option maxRecDepth 65536 in
set_option maxHeartbeats 40000000 in
theorem rm25 (l : Launch) (Z : State) (a0 : Array Value) (hw : ∀ d ∈ tables_1, d.before a0 Z = true) (ws : List Jvm.Cond) (a1 ad : Addr) (g1 : Int32) (h0 : Heap) (n0 : Nat) (O0 : Old Z n0 h0) (LL : own_L0 Z n0 h0 a1 ad g1) (kd : ClassId) (Sd : Sta Z Z.heap "java/util/ArrayList" "DEFAULTCAPACITY_EMPTY_ELEMENTDATA" "[Ljava/lang/Object;" (.ref ad)) (Vd : Arv Z Z.heap ad kd (.object "java/lang/Object") (0 : Int32) [] .null) (am aq ay : Addr) (Sm : Sta Z Z.heap "com/example/kalends/kalends/ContractPeriod$Length" "MONTH" "Lcom/example/kalends/kalends/ContractPeriod$Length;" (.ref am)) (Sq : Sta Z Z.heap "com/example/kalends/kalends/ContractPeriod$Length" "QUARTER" "Lcom/example/kalends/kalends/ContractPeriod$Length;" (.ref aq)) (Sy : Sta Z Z.heap "com/example/kalends/kalends/ContractPeriod$Length" "YEAR" "Lcom/example/kalends/kalends/ContractPeriod$Length;" (.ref ay)) (Hm : Exa Z Z.heap am "com/example/kalends/kalends/ContractPeriod$Length") (Hq : Exa Z Z.heap aq "com/example/kalends/kalends/ContractPeriod$Length") (Hy : Exa Z Z.heap ay "com/example/kalends/kalends/ContractPeriod$Length") (Fm : Fld Z Z.heap am "com/example/kalends/kalends/ContractPeriod$Length" "months" "I" (.int (1 : Int32))) (Fq : Fld Z Z.heap aq "com/example/kalends/kalends/ContractPeriod$Length" "months" "I" (.int (3 : Int32))) (Fy : Fld Z Z.heap ay "com/example/kalends/kalends/ContractPeriod$Length" "months" "I" (.int (12 : Int32))) :
    own_Met l (⟨"com/example/kalends/kalends/LengthRequireMadeUpOfPinLaw", "addBlock", "(Ljava/util/List;Z)I"⟩ : MethodName) method_2_code 2 (some .int) ws ({ frames := 8, cells := 1, slots := 10, locals := 132 } : Room) Z #[(.ref a1), (.int (1 : Int32))] h0 (Q25 Z a1 am aq g1 h0 n0) := by
  refine own_enter #[.val (.ref a1), .val (.int (1 : Int32))] (plainFor_of_name pn25) (fun m => ef25 m a1 (1 : Int32)) ?_
  intro p e s m below meth c s₁ hx hby hml hown hnm hZ hrt hlk X0 e0
  have N0 := Fr.nil n0
  obtain ⟨Ea51, Fe51, Fs51, Fg51, ga51⟩ := LL
  refine own_tp (.int (1 : Int32)) 1 (fun _ q => XS.iloadN X0.here hx rfl (hb hby d25_0) rfl q) ?_
  refine own_d1 4 (fun _ q => XS.ifNo X0.here hx rfl (hb hby d25_1) rfl ((if0 _ _).trans (feq (by decide : ¬ ((1 : Int32) = (0 : Int32)))).1) q) ?_
  refine own_tp (.ref a1) 5 (fun _ q => XS.aloadN X0.here hx rfl (hb hby d25_4) rfl rfl q) ?_
  obtain ⟨T52, X52, e52, st52⟩ := getS2 X0 hx hZ hown (host := "") (Or.inl (hw _ (List.mem_of_getElem? (i := 68) rfl))) Via.refl e0 (Sq.ext O0.2) (g := (mkF m 5 #[.val (.ref a1), .val (.int (1 : Int32))] [(.ref a1)])) rfl (hb hby d25_5)
  refine own_tp (.ref aq) 8 st52 ?_
  obtain ⟨cq53, kq53, q53a, q53b, q53c⟩ := isOf hZ e52 Ea51
  obtain ⟨_, _, ⟨T53, L53, k53, n53⟩, -, X53, ⟨Lc53, hQ53, l53, y53, z53⟩, st53⟩ := X52.interfaceBack hx (xi := (⟨"java/util/List", "add", "(Ljava/lang/Object;)Z"⟩ : MethodName)) (y := (⟨"java/util/ArrayList", "add", "(Ljava/lang/Object;)Z"⟩ : MethodName)) hown (mvT hZ (hw _ (List.mem_of_getElem? (i := 33) rfl))) (mvT hZ (hw _ (List.mem_of_getElem? (i := 34) rfl))) (mvT hZ (hw _ (List.mem_of_getElem? (i := 35) rfl))) (mvT hZ (hw _ (List.mem_of_getElem? (i := 36) rfl))) (mvT hZ (hw _ (List.mem_of_getElem? (i := 37) rfl))) (mvT hZ (hw _ (List.mem_of_getElem? (i := 38) rfl))) (mvT hZ (hw _ (List.mem_of_getElem? (i := 39) rfl))) (mvT hZ (hw _ (List.mem_of_getElem? (i := 40) rfl))) (by decide) (backOf (W := 0) (rm8 l Z a0 hw [] a1 aq ad g1 h0 n0 O0 ⟨Ea51, Fe51, Fs51, Fg51, ga51⟩ kd Sd Vd Hq) hZ (hw _ (List.mem_of_getElem? (i := 41) rfl)) (hw _ (List.mem_of_getElem? (i := 2) rfl)) (by decide) (by decide)) q53a q53b q53c (g := (mkF m 8 #[.val (.ref a1), .val (.int (1 : Int32))] [(.ref aq), (.ref a1)])) rfl (by rw [hml]; rfl) (Steps.refl _) (argsL := [(.ref aq)]) (rest := []) (lenOf pd25_0 rfl) rfl (by show 2 * 0 + _ ≤ _; exact Nat.le_of_eq rfl) (hb hby d25_8) (fun _ _ => ⟨rfl, e52, (by decide : 0 + 1 ≤ _), (by decide : 0 + 10 ≤ _)⟩)
  dsimp only [Pt.U, Pt.locs, Pt.cells, Pt.slots] at X53 l53 y53 z53 st53 hQ53
  subst l53 y53 z53
  obtain ⟨bq53, kq53, rfl, Nq53, O53, LL53⟩ := hQ53
  have N53 := Fr.app N0 Nq53
  have LM53 : own_L Z n0 T53.heap a1 bq53 kq53 (1 : Int32) (g1 + (1 : Int32)) (10 : Int32) [(.ref aq), .null, .null, .null, .null, .null, .null, .null, .null, .null] := LL53
  obtain ⟨Ea54, Fe54, Fs54, Fg54, Vb54, Ov54, Eb54, ga54, gb54, nab54⟩ := LM53
  refine own_csR [(.int (1 : Int32))] 13 st53 ?_
  refine own_d1 14 (fun _ q => XS.pop X53.here hx rfl (hb hby d25_13) rfl rfl q) ?_
  refine own_tp (.int (1 : Int32)) 15 (fun _ q => XS.iconst X53.here hx rfl (hb hby d25_14) q) ?_
  exact own_retI X53 hx hrt (hb hby d25_15) hlk (by decide) (by decide) rfl (⟨bq53, kq53, rfl, N53, O53, ⟨Ea54, Fe54, Fs54, Fg54, Vb54, Ov54, Eb54, ga54, gb54, nab54⟩⟩)

def Q26 (Z : State) (a1 am aq : Addr) (g1 : Int32) (h0 : Heap) (n0 : Nat) (v : Option Value) (h : Heap) (L : List Loc) : Prop := ∃ (b : Addr) (k : ClassId), v = some (.int (3 : Int32)) ∧ Fr n0 L ∧ Old Z n0 h ∧ own_L Z n0 h a1 b k (3 : Int32) (((g1 + (1 : Int32)) + (1 : Int32)) + (1 : Int32)) (10 : Int32) [(.ref am), (.ref am), (.ref am), .null, .null, .null, .null, .null, .null, .null]

theorem d26_0 : decode method_2_code 0 = .ok (.iload_n 1, 1) := by decide +kernel
theorem d26_1 : decode method_2_code 1 = .ok (.ifCond .eq 15, 3) := by decide +kernel
theorem d26_16 : decode method_2_code 16 = .ok (.aload_n 0, 1) := by decide +kernel
theorem d26_17 : decode method_2_code 17 = .ok (.getstatic 19, 3) := by decide +kernel
theorem d26_20 : decode method_2_code 20 = .ok (.invokeinterface 13 2, 5) := by decide +kernel
theorem d26_25 : decode method_2_code 25 = .ok (.pop, 1) := by decide +kernel
theorem d26_26 : decode method_2_code 26 = .ok (.aload_n 0, 1) := by decide +kernel
theorem d26_27 : decode method_2_code 27 = .ok (.getstatic 19, 3) := by decide +kernel
theorem d26_30 : decode method_2_code 30 = .ok (.invokeinterface 13 2, 5) := by decide +kernel
theorem d26_35 : decode method_2_code 35 = .ok (.pop, 1) := by decide +kernel
theorem d26_36 : decode method_2_code 36 = .ok (.aload_n 0, 1) := by decide +kernel
theorem d26_37 : decode method_2_code 37 = .ok (.getstatic 19, 3) := by decide +kernel
theorem d26_40 : decode method_2_code 40 = .ok (.invokeinterface 13 2, 5) := by decide +kernel
theorem d26_45 : decode method_2_code 45 = .ok (.pop, 1) := by decide +kernel
theorem d26_46 : decode method_2_code 46 = .ok (.iconst 3, 1) := by decide +kernel
theorem d26_47 : decode method_2_code 47 = .ok (.ireturn, 1) := by decide +kernel
theorem pn26 : plainName "com/example/kalends/kalends/LengthRequireMadeUpOfPinLaw" = true := by first | (simp [plainName, overriddenIn]; done) | decide +kernel
theorem pd26_0 : parseMethodDescriptor "(Ljava/lang/Object;)Z" = some ⟨[(.object "java/lang/Object")], some .boolean⟩ := by decide +kernel
theorem ef26 (m : MethodId) (x0 : Addr) (x1 : Int32) : entryFrame m #[(.ref x0), (.int x1)] 2 = mkF m 0 #[.val (.ref x0), .val (.int x1)] [] := by first | (simp [entryFrame, mkF, argsToLocals, Value.category]; done) | rfl
set_option maxRecDepth 65536 in
set_option maxHeartbeats 40000000 in
theorem rm26 (l : Launch) (Z : State) (a0 : Array Value) (hw : ∀ d ∈ tables_1, d.before a0 Z = true) (ws : List Jvm.Cond) (a1 ad : Addr) (g1 : Int32) (h0 : Heap) (n0 : Nat) (O0 : Old Z n0 h0) (LL : own_L0 Z n0 h0 a1 ad g1) (kd : ClassId) (Sd : Sta Z Z.heap "java/util/ArrayList" "DEFAULTCAPACITY_EMPTY_ELEMENTDATA" "[Ljava/lang/Object;" (.ref ad)) (Vd : Arv Z Z.heap ad kd (.object "java/lang/Object") (0 : Int32) [] .null) (am aq ay : Addr) (Sm : Sta Z Z.heap "com/example/kalends/kalends/ContractPeriod$Length" "MONTH" "Lcom/example/kalends/kalends/ContractPeriod$Length;" (.ref am)) (Sq : Sta Z Z.heap "com/example/kalends/kalends/ContractPeriod$Length" "QUARTER" "Lcom/example/kalends/kalends/ContractPeriod$Length;" (.ref aq)) (Sy : Sta Z Z.heap "com/example/kalends/kalends/ContractPeriod$Length" "YEAR" "Lcom/example/kalends/kalends/ContractPeriod$Length;" (.ref ay)) (Hm : Exa Z Z.heap am "com/example/kalends/kalends/ContractPeriod$Length") (Hq : Exa Z Z.heap aq "com/example/kalends/kalends/ContractPeriod$Length") (Hy : Exa Z Z.heap ay "com/example/kalends/kalends/ContractPeriod$Length") (Fm : Fld Z Z.heap am "com/example/kalends/kalends/ContractPeriod$Length" "months" "I" (.int (1 : Int32))) (Fq : Fld Z Z.heap aq "com/example/kalends/kalends/ContractPeriod$Length" "months" "I" (.int (3 : Int32))) (Fy : Fld Z Z.heap ay "com/example/kalends/kalends/ContractPeriod$Length" "months" "I" (.int (12 : Int32))) :
    own_Met l (⟨"com/example/kalends/kalends/LengthRequireMadeUpOfPinLaw", "addBlock", "(Ljava/util/List;Z)I"⟩ : MethodName) method_2_code 2 (some .int) ws ({ frames := 8, cells := 1, slots := 10, locals := 132 } : Room) Z #[(.ref a1), (.int (0 : Int32))] h0 (Q26 Z a1 am aq g1 h0 n0) := by
  refine own_enter #[.val (.ref a1), .val (.int (0 : Int32))] (plainFor_of_name pn26) (fun m => ef26 m a1 (0 : Int32)) ?_
  intro p e s m below meth c s₁ hx hby hml hown hnm hZ hrt hlk X0 e0
  have N0 := Fr.nil n0
  obtain ⟨Ea51, Fe51, Fs51, Fg51, ga51⟩ := LL
  refine own_tp (.int (0 : Int32)) 1 (fun _ q => XS.iloadN X0.here hx rfl (hb hby d26_0) rfl q) ?_
  refine own_d1 16 (fun _ q => XS.ifYes X0.here hx rfl (pc0 := 1) (pc' := 16) rfl (hb hby d26_1) rfl ((if0 _ _).trans (teq (by decide : (0 : Int32) = (0 : Int32))).1) (by decide) (by decide) q) ?_
  refine own_tp (.ref a1) 17 (fun _ q => XS.aloadN X0.here hx rfl (hb hby d26_16) rfl rfl q) ?_
  obtain ⟨T52, X52, e52, st52⟩ := getS2 X0 hx hZ hown (host := "") (Or.inl (hw _ (List.mem_of_getElem? (i := 30) rfl))) Via.refl e0 (Sm.ext O0.2) (g := (mkF m 17 #[.val (.ref a1), .val (.int (0 : Int32))] [(.ref a1)])) rfl (hb hby d26_17)
  refine own_tp (.ref am) 20 st52 ?_
  obtain ⟨cq53, kq53, q53a, q53b, q53c⟩ := isOf hZ e52 Ea51
  obtain ⟨_, _, ⟨T53, L53, k53, n53⟩, -, X53, ⟨Lc53, hQ53, l53, y53, z53⟩, st53⟩ := X52.interfaceBack hx (xi := (⟨"java/util/List", "add", "(Ljava/lang/Object;)Z"⟩ : MethodName)) (y := (⟨"java/util/ArrayList", "add", "(Ljava/lang/Object;)Z"⟩ : MethodName)) hown (mvT hZ (hw _ (List.mem_of_getElem? (i := 33) rfl))) (mvT hZ (hw _ (List.mem_of_getElem? (i := 34) rfl))) (mvT hZ (hw _ (List.mem_of_getElem? (i := 35) rfl))) (mvT hZ (hw _ (List.mem_of_getElem? (i := 36) rfl))) (mvT hZ (hw _ (List.mem_of_getElem? (i := 37) rfl))) (mvT hZ (hw _ (List.mem_of_getElem? (i := 38) rfl))) (mvT hZ (hw _ (List.mem_of_getElem? (i := 39) rfl))) (mvT hZ (hw _ (List.mem_of_getElem? (i := 40) rfl))) (by decide) (backOf (W := 0) (rm8 l Z a0 hw [] a1 am ad g1 h0 n0 O0 ⟨Ea51, Fe51, Fs51, Fg51, ga51⟩ kd Sd Vd Hm) hZ (hw _ (List.mem_of_getElem? (i := 41) rfl)) (hw _ (List.mem_of_getElem? (i := 2) rfl)) (by decide) (by decide)) q53a q53b q53c (g := (mkF m 20 #[.val (.ref a1), .val (.int (0 : Int32))] [(.ref am), (.ref a1)])) rfl (by rw [hml]; rfl) (Steps.refl _) (argsL := [(.ref am)]) (rest := []) (lenOf pd26_0 rfl) rfl (by show 2 * 0 + _ ≤ _; exact Nat.le_of_eq rfl) (hb hby d26_20) (fun _ _ => ⟨rfl, e52, (by decide : 0 + 1 ≤ _), (by decide : 0 + 10 ≤ _)⟩)
  dsimp only [Pt.U, Pt.locs, Pt.cells, Pt.slots] at X53 l53 y53 z53 st53 hQ53
  subst l53 y53 z53
  obtain ⟨bq53, kq53, rfl, Nq53, O53, LL53⟩ := hQ53
  have N53 := Fr.app N0 Nq53
  have LM53 : own_L Z n0 T53.heap a1 bq53 kq53 (1 : Int32) (g1 + (1 : Int32)) (10 : Int32) [(.ref am), .null, .null, .null, .null, .null, .null, .null, .null, .null] := LL53
  obtain ⟨Ea54, Fe54, Fs54, Fg54, Vb54, Ov54, Eb54, ga54, gb54, nab54⟩ := LM53
  refine own_csR [(.int (1 : Int32))] 25 st53 ?_
  refine own_d1 26 (fun _ q => XS.pop X53.here hx rfl (hb hby d26_25) rfl rfl q) ?_
  refine own_tp (.ref a1) 27 (fun _ q => XS.aloadN X53.here hx rfl (hb hby d26_26) rfl rfl q) ?_
  obtain ⟨T55, X55, e55, st55⟩ := getS2 X53 hx hZ hown (host := "") (Or.inl (hw _ (List.mem_of_getElem? (i := 30) rfl))) Via.refl rfl (Sm.ext O53.2) (g := (mkF m 27 #[.val (.ref a1), .val (.int (0 : Int32))] [(.ref a1)])) rfl (hb hby d26_27)
  refine own_tp (.ref am) 30 st55 ?_
  obtain ⟨cq56, kq56, q56a, q56b, q56c⟩ := isOf hZ e55 Ea54
  obtain ⟨_, _, ⟨T56, L56, k56, n56⟩, -, X56, ⟨Lc56, hQ56, l56, y56, z56⟩, st56⟩ := X55.interfaceBack hx (xi := (⟨"java/util/List", "add", "(Ljava/lang/Object;)Z"⟩ : MethodName)) (y := (⟨"java/util/ArrayList", "add", "(Ljava/lang/Object;)Z"⟩ : MethodName)) hown (mvT hZ (hw _ (List.mem_of_getElem? (i := 33) rfl))) (mvT hZ (hw _ (List.mem_of_getElem? (i := 34) rfl))) (mvT hZ (hw _ (List.mem_of_getElem? (i := 35) rfl))) (mvT hZ (hw _ (List.mem_of_getElem? (i := 36) rfl))) (mvT hZ (hw _ (List.mem_of_getElem? (i := 37) rfl))) (mvT hZ (hw _ (List.mem_of_getElem? (i := 38) rfl))) (mvT hZ (hw _ (List.mem_of_getElem? (i := 39) rfl))) (mvT hZ (hw _ (List.mem_of_getElem? (i := 40) rfl))) (by decide) (backOf (W := 0) (rm10 l Z a0 hw [] a1 am bq53 kq53 (1 : Int32) (g1 + (1 : Int32)) (10 : Int32) [(.ref am), .null, .null, .null, .null, .null, .null, .null, .null, .null] 1 T53.heap n0 O53 ⟨Ea54, Fe54, Fs54, Fg54, Vb54, Ov54, Eb54, ga54, gb54, nab54⟩ ⟨by decide, by decide, rfl, by simp⟩ Hm) hZ (hw _ (List.mem_of_getElem? (i := 41) rfl)) (hw _ (List.mem_of_getElem? (i := 2) rfl)) (by decide) (by decide)) q56a q56b q56c (g := (mkF m 30 #[.val (.ref a1), .val (.int (0 : Int32))] [(.ref am), (.ref a1)])) rfl (by rw [hml]; rfl) (Steps.refl _) (argsL := [(.ref am)]) (rest := []) (lenOf pd26_0 rfl) rfl (by show 2 * 0 + _ ≤ _; exact Nat.le_of_eq rfl) (hb hby d26_30) (fun _ _ => ⟨rfl, e55, (by decide : 1 + 0 ≤ _), (by decide : 10 + 0 ≤ _)⟩)
  dsimp only [Pt.U, Pt.locs, Pt.cells, Pt.slots] at X56 l56 y56 z56 st56 hQ56
  subst l56 y56 z56
  obtain ⟨rfl, Nq56, O56, LL56⟩ := hQ56
  have N56 := Fr.app N53 Nq56
  have LM56 : own_L Z n0 T56.heap a1 bq53 kq53 (2 : Int32) ((g1 + (1 : Int32)) + (1 : Int32)) (10 : Int32) [(.ref am), (.ref am), .null, .null, .null, .null, .null, .null, .null, .null] := LL56
  obtain ⟨Ea57, Fe57, Fs57, Fg57, Vb57, Ov57, Eb57, ga57, gb57, nab57⟩ := LM56
  refine own_csR [(.int (1 : Int32))] 35 st56 ?_
  refine own_d1 36 (fun _ q => XS.pop X56.here hx rfl (hb hby d26_35) rfl rfl q) ?_
  refine own_tp (.ref a1) 37 (fun _ q => XS.aloadN X56.here hx rfl (hb hby d26_36) rfl rfl q) ?_
  obtain ⟨T58, X58, e58, st58⟩ := getS2 X56 hx hZ hown (host := "") (Or.inl (hw _ (List.mem_of_getElem? (i := 30) rfl))) Via.refl rfl (Sm.ext O56.2) (g := (mkF m 37 #[.val (.ref a1), .val (.int (0 : Int32))] [(.ref a1)])) rfl (hb hby d26_37)
  refine own_tp (.ref am) 40 st58 ?_
  obtain ⟨cq59, kq59, q59a, q59b, q59c⟩ := isOf hZ e58 Ea57
  obtain ⟨_, _, ⟨T59, L59, k59, n59⟩, -, X59, ⟨Lc59, hQ59, l59, y59, z59⟩, st59⟩ := X58.interfaceBack hx (xi := (⟨"java/util/List", "add", "(Ljava/lang/Object;)Z"⟩ : MethodName)) (y := (⟨"java/util/ArrayList", "add", "(Ljava/lang/Object;)Z"⟩ : MethodName)) hown (mvT hZ (hw _ (List.mem_of_getElem? (i := 33) rfl))) (mvT hZ (hw _ (List.mem_of_getElem? (i := 34) rfl))) (mvT hZ (hw _ (List.mem_of_getElem? (i := 35) rfl))) (mvT hZ (hw _ (List.mem_of_getElem? (i := 36) rfl))) (mvT hZ (hw _ (List.mem_of_getElem? (i := 37) rfl))) (mvT hZ (hw _ (List.mem_of_getElem? (i := 38) rfl))) (mvT hZ (hw _ (List.mem_of_getElem? (i := 39) rfl))) (mvT hZ (hw _ (List.mem_of_getElem? (i := 40) rfl))) (by decide) (backOf (W := 0) (rm10 l Z a0 hw [] a1 am bq53 kq53 (2 : Int32) ((g1 + (1 : Int32)) + (1 : Int32)) (10 : Int32) [(.ref am), (.ref am), .null, .null, .null, .null, .null, .null, .null, .null] 2 T56.heap n0 O56 ⟨Ea57, Fe57, Fs57, Fg57, Vb57, Ov57, Eb57, ga57, gb57, nab57⟩ ⟨by decide, by decide, rfl, by simp⟩ Hm) hZ (hw _ (List.mem_of_getElem? (i := 41) rfl)) (hw _ (List.mem_of_getElem? (i := 2) rfl)) (by decide) (by decide)) q59a q59b q59c (g := (mkF m 40 #[.val (.ref a1), .val (.int (0 : Int32))] [(.ref am), (.ref a1)])) rfl (by rw [hml]; rfl) (Steps.refl _) (argsL := [(.ref am)]) (rest := []) (lenOf pd26_0 rfl) rfl (by show 2 * 0 + _ ≤ _; exact Nat.le_of_eq rfl) (hb hby d26_40) (fun _ _ => ⟨rfl, e58, (by decide : 1 + 0 ≤ _), (by decide : 10 + 0 ≤ _)⟩)
  dsimp only [Pt.U, Pt.locs, Pt.cells, Pt.slots] at X59 l59 y59 z59 st59 hQ59
  subst l59 y59 z59
  obtain ⟨rfl, Nq59, O59, LL59⟩ := hQ59
  have N59 := Fr.app N56 Nq59
  have LM59 : own_L Z n0 T59.heap a1 bq53 kq53 (3 : Int32) (((g1 + (1 : Int32)) + (1 : Int32)) + (1 : Int32)) (10 : Int32) [(.ref am), (.ref am), (.ref am), .null, .null, .null, .null, .null, .null, .null] := LL59
  obtain ⟨Ea60, Fe60, Fs60, Fg60, Vb60, Ov60, Eb60, ga60, gb60, nab60⟩ := LM59
  refine own_csR [(.int (1 : Int32))] 45 st59 ?_
  refine own_d1 46 (fun _ q => XS.pop X59.here hx rfl (hb hby d26_45) rfl rfl q) ?_
  refine own_tp (.int (3 : Int32)) 47 (fun _ q => XS.iconst X59.here hx rfl (hb hby d26_46) q) ?_
  exact own_retI X59 hx hrt (hb hby d26_47) hlk (by decide) (by decide) rfl (⟨bq53, kq53, rfl, N59, O59, ⟨Ea60, Fe60, Fs60, Fg60, Vb60, Ov60, Eb60, ga60, gb60, nab60⟩⟩)

def Q27 (Z : State) (a1 b1 am aq : Addr) (k1 : ClassId) (z1 g1 cap1 : Int32) (vs1 : List Value) (i1 : Nat) (h0 : Heap) (n0 : Nat) (v : Option Value) (h : Heap) (L : List Loc) : Prop := v = some (.int (1 : Int32)) ∧ Fr n0 L ∧ Old Z n0 h ∧ own_L Z n0 h a1 b1 k1 (z1 + (1 : Int32)) (g1 + (1 : Int32)) cap1 (vs1.set i1 (.ref aq))

theorem d27_0 : decode method_2_code 0 = .ok (.iload_n 1, 1) := by decide +kernel
theorem d27_1 : decode method_2_code 1 = .ok (.ifCond .eq 15, 3) := by decide +kernel
theorem d27_4 : decode method_2_code 4 = .ok (.aload_n 0, 1) := by decide +kernel
theorem d27_5 : decode method_2_code 5 = .ok (.getstatic 7, 3) := by decide +kernel
theorem d27_8 : decode method_2_code 8 = .ok (.invokeinterface 13 2, 5) := by decide +kernel
theorem d27_13 : decode method_2_code 13 = .ok (.pop, 1) := by decide +kernel
theorem d27_14 : decode method_2_code 14 = .ok (.iconst 1, 1) := by decide +kernel
theorem d27_15 : decode method_2_code 15 = .ok (.ireturn, 1) := by decide +kernel
theorem pn27 : plainName "com/example/kalends/kalends/LengthRequireMadeUpOfPinLaw" = true := by first | (simp [plainName, overriddenIn]; done) | decide +kernel
theorem pd27_0 : parseMethodDescriptor "(Ljava/lang/Object;)Z" = some ⟨[(.object "java/lang/Object")], some .boolean⟩ := by decide +kernel
theorem ef27 (m : MethodId) (x0 : Addr) (x1 : Int32) : entryFrame m #[(.ref x0), (.int x1)] 2 = mkF m 0 #[.val (.ref x0), .val (.int x1)] [] := by first | (simp [entryFrame, mkF, argsToLocals, Value.category]; done) | rfl
set_option maxRecDepth 65536 in
set_option maxHeartbeats 40000000 in
theorem rm27 (l : Launch) (Z : State) (a0 : Array Value) (hw : ∀ d ∈ tables_1, d.before a0 Z = true) (ws : List Jvm.Cond) (a1 b1 : Addr) (k1 : ClassId) (z1 g1 cap1 : Int32) (vs1 : List Value) (i1 : Nat) (h0 : Heap) (n0 : Nat) (O0 : Old Z n0 h0) (LL : own_L Z n0 h0 a1 b1 k1 z1 g1 cap1 vs1) (hat0 : own_at z1 cap1 i1 vs1.length) (am aq ay : Addr) (Sm : Sta Z Z.heap "com/example/kalends/kalends/ContractPeriod$Length" "MONTH" "Lcom/example/kalends/kalends/ContractPeriod$Length;" (.ref am)) (Sq : Sta Z Z.heap "com/example/kalends/kalends/ContractPeriod$Length" "QUARTER" "Lcom/example/kalends/kalends/ContractPeriod$Length;" (.ref aq)) (Sy : Sta Z Z.heap "com/example/kalends/kalends/ContractPeriod$Length" "YEAR" "Lcom/example/kalends/kalends/ContractPeriod$Length;" (.ref ay)) (Hm : Exa Z Z.heap am "com/example/kalends/kalends/ContractPeriod$Length") (Hq : Exa Z Z.heap aq "com/example/kalends/kalends/ContractPeriod$Length") (Hy : Exa Z Z.heap ay "com/example/kalends/kalends/ContractPeriod$Length") (Fm : Fld Z Z.heap am "com/example/kalends/kalends/ContractPeriod$Length" "months" "I" (.int (1 : Int32))) (Fq : Fld Z Z.heap aq "com/example/kalends/kalends/ContractPeriod$Length" "months" "I" (.int (3 : Int32))) (Fy : Fld Z Z.heap ay "com/example/kalends/kalends/ContractPeriod$Length" "months" "I" (.int (12 : Int32))) :
    own_Met l (⟨"com/example/kalends/kalends/LengthRequireMadeUpOfPinLaw", "addBlock", "(Ljava/util/List;Z)I"⟩ : MethodName) method_2_code 2 (some .int) ws ({ frames := 8, cells := 0, slots := 0, locals := 132 } : Room) Z #[(.ref a1), (.int (1 : Int32))] h0 (Q27 Z a1 b1 am aq k1 z1 g1 cap1 vs1 i1 h0 n0) := by
  refine own_enter #[.val (.ref a1), .val (.int (1 : Int32))] (plainFor_of_name pn27) (fun m => ef27 m a1 (1 : Int32)) ?_
  intro p e s m below meth c s₁ hx hby hml hown hnm hZ hrt hlk X0 e0
  have N0 := Fr.nil n0
  obtain ⟨Ea51, Fe51, Fs51, Fg51, Vb51, Ov51, Eb51, ga51, gb51, nab51⟩ := LL
  refine own_tp (.int (1 : Int32)) 1 (fun _ q => XS.iloadN X0.here hx rfl (hb hby d27_0) rfl q) ?_
  refine own_d1 4 (fun _ q => XS.ifNo X0.here hx rfl (hb hby d27_1) rfl ((if0 _ _).trans (feq (by decide : ¬ ((1 : Int32) = (0 : Int32)))).1) q) ?_
  refine own_tp (.ref a1) 5 (fun _ q => XS.aloadN X0.here hx rfl (hb hby d27_4) rfl rfl q) ?_
  obtain ⟨T52, X52, e52, st52⟩ := getS2 X0 hx hZ hown (host := "") (Or.inl (hw _ (List.mem_of_getElem? (i := 68) rfl))) Via.refl e0 (Sq.ext O0.2) (g := (mkF m 5 #[.val (.ref a1), .val (.int (1 : Int32))] [(.ref a1)])) rfl (hb hby d27_5)
  refine own_tp (.ref aq) 8 st52 ?_
  obtain ⟨cq53, kq53, q53a, q53b, q53c⟩ := isOf hZ e52 Ea51
  obtain ⟨_, _, ⟨T53, L53, k53, n53⟩, -, X53, ⟨Lc53, hQ53, l53, y53, z53⟩, st53⟩ := X52.interfaceBack hx (xi := (⟨"java/util/List", "add", "(Ljava/lang/Object;)Z"⟩ : MethodName)) (y := (⟨"java/util/ArrayList", "add", "(Ljava/lang/Object;)Z"⟩ : MethodName)) hown (mvT hZ (hw _ (List.mem_of_getElem? (i := 33) rfl))) (mvT hZ (hw _ (List.mem_of_getElem? (i := 34) rfl))) (mvT hZ (hw _ (List.mem_of_getElem? (i := 35) rfl))) (mvT hZ (hw _ (List.mem_of_getElem? (i := 36) rfl))) (mvT hZ (hw _ (List.mem_of_getElem? (i := 37) rfl))) (mvT hZ (hw _ (List.mem_of_getElem? (i := 38) rfl))) (mvT hZ (hw _ (List.mem_of_getElem? (i := 39) rfl))) (mvT hZ (hw _ (List.mem_of_getElem? (i := 40) rfl))) (by decide) (backOf (W := 0) (rm10 l Z a0 hw [] a1 aq b1 k1 z1 g1 cap1 vs1 i1 h0 n0 O0 ⟨Ea51, Fe51, Fs51, Fg51, Vb51, Ov51, Eb51, ga51, gb51, nab51⟩ hat0 Hq) hZ (hw _ (List.mem_of_getElem? (i := 41) rfl)) (hw _ (List.mem_of_getElem? (i := 2) rfl)) (by decide) (by decide)) q53a q53b q53c (g := (mkF m 8 #[.val (.ref a1), .val (.int (1 : Int32))] [(.ref aq), (.ref a1)])) rfl (by rw [hml]; rfl) (Steps.refl _) (argsL := [(.ref aq)]) (rest := []) (lenOf pd27_0 rfl) rfl (by show 2 * 0 + _ ≤ _; exact Nat.le_of_eq rfl) (hb hby d27_8) (fun _ _ => ⟨rfl, e52, (by decide : 0 + 0 ≤ _), (by decide : 0 + 0 ≤ _)⟩)
  dsimp only [Pt.U, Pt.locs, Pt.cells, Pt.slots] at X53 l53 y53 z53 st53 hQ53
  subst l53 y53 z53
  obtain ⟨rfl, Nq53, O53, LL53⟩ := hQ53
  have N53 := Fr.app N0 Nq53
  have LM53 : own_L Z n0 T53.heap a1 b1 k1 (z1 + (1 : Int32)) (g1 + (1 : Int32)) cap1 (vs1.set i1 (.ref aq)) := LL53
  obtain ⟨Ea54, Fe54, Fs54, Fg54, Vb54, Ov54, Eb54, ga54, gb54, nab54⟩ := LM53
  refine own_csR [(.int (1 : Int32))] 13 st53 ?_
  refine own_d1 14 (fun _ q => XS.pop X53.here hx rfl (hb hby d27_13) rfl rfl q) ?_
  refine own_tp (.int (1 : Int32)) 15 (fun _ q => XS.iconst X53.here hx rfl (hb hby d27_14) q) ?_
  exact own_retI X53 hx hrt (hb hby d27_15) hlk (by decide) (by decide) rfl (⟨rfl, N53, O53, ⟨Ea54, Fe54, Fs54, Fg54, Vb54, Ov54, Eb54, ga54, gb54, nab54⟩⟩)

def Q28 (Z : State) (a1 b1 am aq : Addr) (k1 : ClassId) (z1 g1 cap1 : Int32) (vs1 : List Value) (i1 : Nat) (h0 : Heap) (n0 : Nat) (v : Option Value) (h : Heap) (L : List Loc) : Prop := v = some (.int (3 : Int32)) ∧ Fr n0 L ∧ Old Z n0 h ∧ own_L Z n0 h a1 b1 k1 (((z1 + (1 : Int32)) + (1 : Int32)) + (1 : Int32)) (((g1 + (1 : Int32)) + (1 : Int32)) + (1 : Int32)) cap1 (((vs1.set i1 (.ref am)).set (i1 + 1) (.ref am)).set (i1 + 2) (.ref am))

theorem d28_0 : decode method_2_code 0 = .ok (.iload_n 1, 1) := by decide +kernel
theorem d28_1 : decode method_2_code 1 = .ok (.ifCond .eq 15, 3) := by decide +kernel
theorem d28_16 : decode method_2_code 16 = .ok (.aload_n 0, 1) := by decide +kernel
theorem d28_17 : decode method_2_code 17 = .ok (.getstatic 19, 3) := by decide +kernel
theorem d28_20 : decode method_2_code 20 = .ok (.invokeinterface 13 2, 5) := by decide +kernel
theorem d28_25 : decode method_2_code 25 = .ok (.pop, 1) := by decide +kernel
theorem d28_26 : decode method_2_code 26 = .ok (.aload_n 0, 1) := by decide +kernel
theorem d28_27 : decode method_2_code 27 = .ok (.getstatic 19, 3) := by decide +kernel
theorem d28_30 : decode method_2_code 30 = .ok (.invokeinterface 13 2, 5) := by decide +kernel
theorem d28_35 : decode method_2_code 35 = .ok (.pop, 1) := by decide +kernel
theorem d28_36 : decode method_2_code 36 = .ok (.aload_n 0, 1) := by decide +kernel
theorem d28_37 : decode method_2_code 37 = .ok (.getstatic 19, 3) := by decide +kernel
theorem d28_40 : decode method_2_code 40 = .ok (.invokeinterface 13 2, 5) := by decide +kernel
theorem d28_45 : decode method_2_code 45 = .ok (.pop, 1) := by decide +kernel
theorem d28_46 : decode method_2_code 46 = .ok (.iconst 3, 1) := by decide +kernel
theorem d28_47 : decode method_2_code 47 = .ok (.ireturn, 1) := by decide +kernel
theorem pn28 : plainName "com/example/kalends/kalends/LengthRequireMadeUpOfPinLaw" = true := by first | (simp [plainName, overriddenIn]; done) | decide +kernel
theorem pd28_0 : parseMethodDescriptor "(Ljava/lang/Object;)Z" = some ⟨[(.object "java/lang/Object")], some .boolean⟩ := by decide +kernel
theorem ef28 (m : MethodId) (x0 : Addr) (x1 : Int32) : entryFrame m #[(.ref x0), (.int x1)] 2 = mkF m 0 #[.val (.ref x0), .val (.int x1)] [] := by first | (simp [entryFrame, mkF, argsToLocals, Value.category]; done) | rfl
set_option maxRecDepth 65536 in
set_option maxHeartbeats 40000000 in
theorem rm28 (l : Launch) (Z : State) (a0 : Array Value) (hw : ∀ d ∈ tables_1, d.before a0 Z = true) (ws : List Jvm.Cond) (a1 b1 : Addr) (k1 : ClassId) (z1 g1 cap1 : Int32) (vs1 : List Value) (i1 : Nat) (h0 : Heap) (n0 : Nat) (O0 : Old Z n0 h0) (LL : own_L Z n0 h0 a1 b1 k1 z1 g1 cap1 vs1) (hat0 : own_at z1 cap1 i1 vs1.length) (hat1 : own_at (z1 + (1 : Int32)) cap1 (i1 + 1) vs1.length) (hat2 : own_at ((z1 + (1 : Int32)) + (1 : Int32)) cap1 (i1 + 2) vs1.length) (am aq ay : Addr) (Sm : Sta Z Z.heap "com/example/kalends/kalends/ContractPeriod$Length" "MONTH" "Lcom/example/kalends/kalends/ContractPeriod$Length;" (.ref am)) (Sq : Sta Z Z.heap "com/example/kalends/kalends/ContractPeriod$Length" "QUARTER" "Lcom/example/kalends/kalends/ContractPeriod$Length;" (.ref aq)) (Sy : Sta Z Z.heap "com/example/kalends/kalends/ContractPeriod$Length" "YEAR" "Lcom/example/kalends/kalends/ContractPeriod$Length;" (.ref ay)) (Hm : Exa Z Z.heap am "com/example/kalends/kalends/ContractPeriod$Length") (Hq : Exa Z Z.heap aq "com/example/kalends/kalends/ContractPeriod$Length") (Hy : Exa Z Z.heap ay "com/example/kalends/kalends/ContractPeriod$Length") (Fm : Fld Z Z.heap am "com/example/kalends/kalends/ContractPeriod$Length" "months" "I" (.int (1 : Int32))) (Fq : Fld Z Z.heap aq "com/example/kalends/kalends/ContractPeriod$Length" "months" "I" (.int (3 : Int32))) (Fy : Fld Z Z.heap ay "com/example/kalends/kalends/ContractPeriod$Length" "months" "I" (.int (12 : Int32))) :
    own_Met l (⟨"com/example/kalends/kalends/LengthRequireMadeUpOfPinLaw", "addBlock", "(Ljava/util/List;Z)I"⟩ : MethodName) method_2_code 2 (some .int) ws ({ frames := 8, cells := 0, slots := 0, locals := 132 } : Room) Z #[(.ref a1), (.int (0 : Int32))] h0 (Q28 Z a1 b1 am aq k1 z1 g1 cap1 vs1 i1 h0 n0) := by
  refine own_enter #[.val (.ref a1), .val (.int (0 : Int32))] (plainFor_of_name pn28) (fun m => ef28 m a1 (0 : Int32)) ?_
  intro p e s m below meth c s₁ hx hby hml hown hnm hZ hrt hlk X0 e0
  have N0 := Fr.nil n0
  obtain ⟨Ea51, Fe51, Fs51, Fg51, Vb51, Ov51, Eb51, ga51, gb51, nab51⟩ := LL
  refine own_tp (.int (0 : Int32)) 1 (fun _ q => XS.iloadN X0.here hx rfl (hb hby d28_0) rfl q) ?_
  refine own_d1 16 (fun _ q => XS.ifYes X0.here hx rfl (pc0 := 1) (pc' := 16) rfl (hb hby d28_1) rfl ((if0 _ _).trans (teq (by decide : (0 : Int32) = (0 : Int32))).1) (by decide) (by decide) q) ?_
  refine own_tp (.ref a1) 17 (fun _ q => XS.aloadN X0.here hx rfl (hb hby d28_16) rfl rfl q) ?_
  obtain ⟨T52, X52, e52, st52⟩ := getS2 X0 hx hZ hown (host := "") (Or.inl (hw _ (List.mem_of_getElem? (i := 30) rfl))) Via.refl e0 (Sm.ext O0.2) (g := (mkF m 17 #[.val (.ref a1), .val (.int (0 : Int32))] [(.ref a1)])) rfl (hb hby d28_17)
  refine own_tp (.ref am) 20 st52 ?_
  obtain ⟨cq53, kq53, q53a, q53b, q53c⟩ := isOf hZ e52 Ea51
  obtain ⟨_, _, ⟨T53, L53, k53, n53⟩, -, X53, ⟨Lc53, hQ53, l53, y53, z53⟩, st53⟩ := X52.interfaceBack hx (xi := (⟨"java/util/List", "add", "(Ljava/lang/Object;)Z"⟩ : MethodName)) (y := (⟨"java/util/ArrayList", "add", "(Ljava/lang/Object;)Z"⟩ : MethodName)) hown (mvT hZ (hw _ (List.mem_of_getElem? (i := 33) rfl))) (mvT hZ (hw _ (List.mem_of_getElem? (i := 34) rfl))) (mvT hZ (hw _ (List.mem_of_getElem? (i := 35) rfl))) (mvT hZ (hw _ (List.mem_of_getElem? (i := 36) rfl))) (mvT hZ (hw _ (List.mem_of_getElem? (i := 37) rfl))) (mvT hZ (hw _ (List.mem_of_getElem? (i := 38) rfl))) (mvT hZ (hw _ (List.mem_of_getElem? (i := 39) rfl))) (mvT hZ (hw _ (List.mem_of_getElem? (i := 40) rfl))) (by decide) (backOf (W := 0) (rm10 l Z a0 hw [] a1 am b1 k1 z1 g1 cap1 vs1 i1 h0 n0 O0 ⟨Ea51, Fe51, Fs51, Fg51, Vb51, Ov51, Eb51, ga51, gb51, nab51⟩ hat0 Hm) hZ (hw _ (List.mem_of_getElem? (i := 41) rfl)) (hw _ (List.mem_of_getElem? (i := 2) rfl)) (by decide) (by decide)) q53a q53b q53c (g := (mkF m 20 #[.val (.ref a1), .val (.int (0 : Int32))] [(.ref am), (.ref a1)])) rfl (by rw [hml]; rfl) (Steps.refl _) (argsL := [(.ref am)]) (rest := []) (lenOf pd28_0 rfl) rfl (by show 2 * 0 + _ ≤ _; exact Nat.le_of_eq rfl) (hb hby d28_20) (fun _ _ => ⟨rfl, e52, (by decide : 0 + 0 ≤ _), (by decide : 0 + 0 ≤ _)⟩)
  dsimp only [Pt.U, Pt.locs, Pt.cells, Pt.slots] at X53 l53 y53 z53 st53 hQ53
  subst l53 y53 z53
  obtain ⟨rfl, Nq53, O53, LL53⟩ := hQ53
  have N53 := Fr.app N0 Nq53
  have LM53 : own_L Z n0 T53.heap a1 b1 k1 (z1 + (1 : Int32)) (g1 + (1 : Int32)) cap1 (vs1.set i1 (.ref am)) := LL53
  obtain ⟨Ea54, Fe54, Fs54, Fg54, Vb54, Ov54, Eb54, ga54, gb54, nab54⟩ := LM53
  refine own_csR [(.int (1 : Int32))] 25 st53 ?_
  refine own_d1 26 (fun _ q => XS.pop X53.here hx rfl (hb hby d28_25) rfl rfl q) ?_
  refine own_tp (.ref a1) 27 (fun _ q => XS.aloadN X53.here hx rfl (hb hby d28_26) rfl rfl q) ?_
  obtain ⟨T55, X55, e55, st55⟩ := getS2 X53 hx hZ hown (host := "") (Or.inl (hw _ (List.mem_of_getElem? (i := 30) rfl))) Via.refl rfl (Sm.ext O53.2) (g := (mkF m 27 #[.val (.ref a1), .val (.int (0 : Int32))] [(.ref a1)])) rfl (hb hby d28_27)
  refine own_tp (.ref am) 30 st55 ?_
  obtain ⟨cq56, kq56, q56a, q56b, q56c⟩ := isOf hZ e55 Ea54
  obtain ⟨_, _, ⟨T56, L56, k56, n56⟩, -, X56, ⟨Lc56, hQ56, l56, y56, z56⟩, st56⟩ := X55.interfaceBack hx (xi := (⟨"java/util/List", "add", "(Ljava/lang/Object;)Z"⟩ : MethodName)) (y := (⟨"java/util/ArrayList", "add", "(Ljava/lang/Object;)Z"⟩ : MethodName)) hown (mvT hZ (hw _ (List.mem_of_getElem? (i := 33) rfl))) (mvT hZ (hw _ (List.mem_of_getElem? (i := 34) rfl))) (mvT hZ (hw _ (List.mem_of_getElem? (i := 35) rfl))) (mvT hZ (hw _ (List.mem_of_getElem? (i := 36) rfl))) (mvT hZ (hw _ (List.mem_of_getElem? (i := 37) rfl))) (mvT hZ (hw _ (List.mem_of_getElem? (i := 38) rfl))) (mvT hZ (hw _ (List.mem_of_getElem? (i := 39) rfl))) (mvT hZ (hw _ (List.mem_of_getElem? (i := 40) rfl))) (by decide) (backOf (W := 0) (rm10 l Z a0 hw [] a1 am b1 k1 (z1 + (1 : Int32)) (g1 + (1 : Int32)) cap1 (vs1.set i1 (.ref am)) (i1 + 1) T53.heap n0 O53 ⟨Ea54, Fe54, Fs54, Fg54, Vb54, Ov54, Eb54, ga54, gb54, nab54⟩ (by simpa only [List.length_set] using hat1) Hm) hZ (hw _ (List.mem_of_getElem? (i := 41) rfl)) (hw _ (List.mem_of_getElem? (i := 2) rfl)) (by decide) (by decide)) q56a q56b q56c (g := (mkF m 30 #[.val (.ref a1), .val (.int (0 : Int32))] [(.ref am), (.ref a1)])) rfl (by rw [hml]; rfl) (Steps.refl _) (argsL := [(.ref am)]) (rest := []) (lenOf pd28_0 rfl) rfl (by show 2 * 0 + _ ≤ _; exact Nat.le_of_eq rfl) (hb hby d28_30) (fun _ _ => ⟨rfl, e55, (by decide : 0 + 0 ≤ _), (by decide : 0 + 0 ≤ _)⟩)
  dsimp only [Pt.U, Pt.locs, Pt.cells, Pt.slots] at X56 l56 y56 z56 st56 hQ56
  subst l56 y56 z56
  obtain ⟨rfl, Nq56, O56, LL56⟩ := hQ56
  have N56 := Fr.app N53 Nq56
  have LM56 : own_L Z n0 T56.heap a1 b1 k1 ((z1 + (1 : Int32)) + (1 : Int32)) ((g1 + (1 : Int32)) + (1 : Int32)) cap1 ((vs1.set i1 (.ref am)).set (i1 + 1) (.ref am)) := LL56
  obtain ⟨Ea57, Fe57, Fs57, Fg57, Vb57, Ov57, Eb57, ga57, gb57, nab57⟩ := LM56
  refine own_csR [(.int (1 : Int32))] 35 st56 ?_
  refine own_d1 36 (fun _ q => XS.pop X56.here hx rfl (hb hby d28_35) rfl rfl q) ?_
  refine own_tp (.ref a1) 37 (fun _ q => XS.aloadN X56.here hx rfl (hb hby d28_36) rfl rfl q) ?_
  obtain ⟨T58, X58, e58, st58⟩ := getS2 X56 hx hZ hown (host := "") (Or.inl (hw _ (List.mem_of_getElem? (i := 30) rfl))) Via.refl rfl (Sm.ext O56.2) (g := (mkF m 37 #[.val (.ref a1), .val (.int (0 : Int32))] [(.ref a1)])) rfl (hb hby d28_37)
  refine own_tp (.ref am) 40 st58 ?_
  obtain ⟨cq59, kq59, q59a, q59b, q59c⟩ := isOf hZ e58 Ea57
  obtain ⟨_, _, ⟨T59, L59, k59, n59⟩, -, X59, ⟨Lc59, hQ59, l59, y59, z59⟩, st59⟩ := X58.interfaceBack hx (xi := (⟨"java/util/List", "add", "(Ljava/lang/Object;)Z"⟩ : MethodName)) (y := (⟨"java/util/ArrayList", "add", "(Ljava/lang/Object;)Z"⟩ : MethodName)) hown (mvT hZ (hw _ (List.mem_of_getElem? (i := 33) rfl))) (mvT hZ (hw _ (List.mem_of_getElem? (i := 34) rfl))) (mvT hZ (hw _ (List.mem_of_getElem? (i := 35) rfl))) (mvT hZ (hw _ (List.mem_of_getElem? (i := 36) rfl))) (mvT hZ (hw _ (List.mem_of_getElem? (i := 37) rfl))) (mvT hZ (hw _ (List.mem_of_getElem? (i := 38) rfl))) (mvT hZ (hw _ (List.mem_of_getElem? (i := 39) rfl))) (mvT hZ (hw _ (List.mem_of_getElem? (i := 40) rfl))) (by decide) (backOf (W := 0) (rm10 l Z a0 hw [] a1 am b1 k1 ((z1 + (1 : Int32)) + (1 : Int32)) ((g1 + (1 : Int32)) + (1 : Int32)) cap1 ((vs1.set i1 (.ref am)).set (i1 + 1) (.ref am)) (i1 + 2) T56.heap n0 O56 ⟨Ea57, Fe57, Fs57, Fg57, Vb57, Ov57, Eb57, ga57, gb57, nab57⟩ (by simpa only [List.length_set] using hat2) Hm) hZ (hw _ (List.mem_of_getElem? (i := 41) rfl)) (hw _ (List.mem_of_getElem? (i := 2) rfl)) (by decide) (by decide)) q59a q59b q59c (g := (mkF m 40 #[.val (.ref a1), .val (.int (0 : Int32))] [(.ref am), (.ref a1)])) rfl (by rw [hml]; rfl) (Steps.refl _) (argsL := [(.ref am)]) (rest := []) (lenOf pd28_0 rfl) rfl (by show 2 * 0 + _ ≤ _; exact Nat.le_of_eq rfl) (hb hby d28_40) (fun _ _ => ⟨rfl, e58, (by decide : 0 + 0 ≤ _), (by decide : 0 + 0 ≤ _)⟩)
  dsimp only [Pt.U, Pt.locs, Pt.cells, Pt.slots] at X59 l59 y59 z59 st59 hQ59
  subst l59 y59 z59
  obtain ⟨rfl, Nq59, O59, LL59⟩ := hQ59
  have N59 := Fr.app N56 Nq59
  have LM59 : own_L Z n0 T59.heap a1 b1 k1 (((z1 + (1 : Int32)) + (1 : Int32)) + (1 : Int32)) (((g1 + (1 : Int32)) + (1 : Int32)) + (1 : Int32)) cap1 (((vs1.set i1 (.ref am)).set (i1 + 1) (.ref am)).set (i1 + 2) (.ref am)) := LL59
  obtain ⟨Ea60, Fe60, Fs60, Fg60, Vb60, Ov60, Eb60, ga60, gb60, nab60⟩ := LM59
  refine own_csR [(.int (1 : Int32))] 45 st59 ?_
  refine own_d1 46 (fun _ q => XS.pop X59.here hx rfl (hb hby d28_45) rfl rfl q) ?_
  refine own_tp (.int (3 : Int32)) 47 (fun _ q => XS.iconst X59.here hx rfl (hb hby d28_46) q) ?_
  exact own_retI X59 hx hrt (hb hby d28_47) hlk (by decide) (by decide) rfl (⟨rfl, N59, O59, ⟨Ea60, Fe60, Fs60, Fg60, Vb60, Ov60, Eb60, ga60, gb60, nab60⟩⟩)

def Q29 (Z : State) (a1 am : Addr) (g1 : Int32) (h0 : Heap) (n0 : Nat) (v : Option Value) (h : Heap) (L : List Loc) : Prop := ∃ (b : Addr) (k : ClassId), v = some (.int (3 : Int32)) ∧ Fr n0 L ∧ Old Z n0 h ∧ own_L Z n0 h a1 b k (12 : Int32) (((g1 + (1 : Int32)) + (1 : Int32)) + (1 : Int32)) (15 : Int32) [(.ref am), (.ref am), (.ref am), (.ref am), (.ref am), (.ref am), (.ref am), (.ref am), (.ref am), (.ref am), (.ref am), (.ref am), .null, .null, .null]

theorem d29_0 : decode method_2_code 0 = .ok (.iload_n 1, 1) := by decide +kernel
theorem d29_1 : decode method_2_code 1 = .ok (.ifCond .eq 15, 3) := by decide +kernel
theorem d29_16 : decode method_2_code 16 = .ok (.aload_n 0, 1) := by decide +kernel
theorem d29_17 : decode method_2_code 17 = .ok (.getstatic 19, 3) := by decide +kernel
theorem d29_20 : decode method_2_code 20 = .ok (.invokeinterface 13 2, 5) := by decide +kernel
theorem d29_25 : decode method_2_code 25 = .ok (.pop, 1) := by decide +kernel
theorem d29_26 : decode method_2_code 26 = .ok (.aload_n 0, 1) := by decide +kernel
theorem d29_27 : decode method_2_code 27 = .ok (.getstatic 19, 3) := by decide +kernel
theorem d29_30 : decode method_2_code 30 = .ok (.invokeinterface 13 2, 5) := by decide +kernel
theorem d29_35 : decode method_2_code 35 = .ok (.pop, 1) := by decide +kernel
theorem d29_36 : decode method_2_code 36 = .ok (.aload_n 0, 1) := by decide +kernel
theorem d29_37 : decode method_2_code 37 = .ok (.getstatic 19, 3) := by decide +kernel
theorem d29_40 : decode method_2_code 40 = .ok (.invokeinterface 13 2, 5) := by decide +kernel
theorem d29_45 : decode method_2_code 45 = .ok (.pop, 1) := by decide +kernel
theorem d29_46 : decode method_2_code 46 = .ok (.iconst 3, 1) := by decide +kernel
theorem d29_47 : decode method_2_code 47 = .ok (.ireturn, 1) := by decide +kernel
theorem pn29 : plainName "com/example/kalends/kalends/LengthRequireMadeUpOfPinLaw" = true := by first | (simp [plainName, overriddenIn]; done) | decide +kernel
theorem pd29_0 : parseMethodDescriptor "(Ljava/lang/Object;)Z" = some ⟨[(.object "java/lang/Object")], some .boolean⟩ := by decide +kernel
theorem ef29 (m : MethodId) (x0 : Addr) (x1 : Int32) : entryFrame m #[(.ref x0), (.int x1)] 2 = mkF m 0 #[.val (.ref x0), .val (.int x1)] [] := by first | (simp [entryFrame, mkF, argsToLocals, Value.category]; done) | rfl
set_option maxRecDepth 65536 in
set_option maxHeartbeats 40000000 in
theorem rm29 (l : Launch) (Z : State) (a0 : Array Value) (hw : ∀ d ∈ tables_1, d.before a0 Z = true) (ws : List Jvm.Cond) (a1 b1 mr : Addr) (k1 : ClassId) (g1 : Int32) (h0 : Heap) (n0 : Nat) (O0 : Old Z n0 h0) (am aq ay : Addr) (Sm : Sta Z Z.heap "com/example/kalends/kalends/ContractPeriod$Length" "MONTH" "Lcom/example/kalends/kalends/ContractPeriod$Length;" (.ref am)) (Sq : Sta Z Z.heap "com/example/kalends/kalends/ContractPeriod$Length" "QUARTER" "Lcom/example/kalends/kalends/ContractPeriod$Length;" (.ref aq)) (Sy : Sta Z Z.heap "com/example/kalends/kalends/ContractPeriod$Length" "YEAR" "Lcom/example/kalends/kalends/ContractPeriod$Length;" (.ref ay)) (Hm : Exa Z Z.heap am "com/example/kalends/kalends/ContractPeriod$Length") (Hq : Exa Z Z.heap aq "com/example/kalends/kalends/ContractPeriod$Length") (Hy : Exa Z Z.heap ay "com/example/kalends/kalends/ContractPeriod$Length") (Fm : Fld Z Z.heap am "com/example/kalends/kalends/ContractPeriod$Length" "months" "I" (.int (1 : Int32))) (Fq : Fld Z Z.heap aq "com/example/kalends/kalends/ContractPeriod$Length" "months" "I" (.int (3 : Int32))) (Fy : Fld Z Z.heap ay "com/example/kalends/kalends/ContractPeriod$Length" "months" "I" (.int (12 : Int32))) (LL : own_L Z n0 h0 a1 b1 k1 (9 : Int32) g1 (10 : Int32) [(.ref am), (.ref am), (.ref am), (.ref am), (.ref am), (.ref am), (.ref am), (.ref am), (.ref am), .null]) (Mr : Mir0 Z mr) :
    own_Met l (⟨"com/example/kalends/kalends/LengthRequireMadeUpOfPinLaw", "addBlock", "(Ljava/util/List;Z)I"⟩ : MethodName) method_2_code 2 (some .int) ws ({ frames := 8, cells := 1, slots := 15, locals := 132 } : Room) Z #[(.ref a1), (.int (0 : Int32))] h0 (Q29 Z a1 am g1 h0 n0) := by
  refine own_enter #[.val (.ref a1), .val (.int (0 : Int32))] (plainFor_of_name pn29) (fun m => ef29 m a1 (0 : Int32)) ?_
  intro p e s m below meth c s₁ hx hby hml hown hnm hZ hrt hlk X0 e0
  have N0 := Fr.nil n0
  obtain ⟨Ea51, Fe51, Fs51, Fg51, Vb51, Ov51, Eb51, ga51, gb51, nab51⟩ := LL
  refine own_tp (.int (0 : Int32)) 1 (fun _ q => XS.iloadN X0.here hx rfl (hb hby d29_0) rfl q) ?_
  refine own_d1 16 (fun _ q => XS.ifYes X0.here hx rfl (pc0 := 1) (pc' := 16) rfl (hb hby d29_1) rfl ((if0 _ _).trans (teq (by decide : (0 : Int32) = (0 : Int32))).1) (by decide) (by decide) q) ?_
  refine own_tp (.ref a1) 17 (fun _ q => XS.aloadN X0.here hx rfl (hb hby d29_16) rfl rfl q) ?_
  obtain ⟨T52, X52, e52, st52⟩ := getS2 X0 hx hZ hown (host := "") (Or.inl (hw _ (List.mem_of_getElem? (i := 30) rfl))) Via.refl e0 (Sm.ext O0.2) (g := (mkF m 17 #[.val (.ref a1), .val (.int (0 : Int32))] [(.ref a1)])) rfl (hb hby d29_17)
  refine own_tp (.ref am) 20 st52 ?_
  obtain ⟨cq53, kq53, q53a, q53b, q53c⟩ := isOf hZ e52 Ea51
  obtain ⟨_, _, ⟨T53, L53, k53, n53⟩, -, X53, ⟨Lc53, hQ53, l53, y53, z53⟩, st53⟩ := X52.interfaceBack hx (xi := (⟨"java/util/List", "add", "(Ljava/lang/Object;)Z"⟩ : MethodName)) (y := (⟨"java/util/ArrayList", "add", "(Ljava/lang/Object;)Z"⟩ : MethodName)) hown (mvT hZ (hw _ (List.mem_of_getElem? (i := 33) rfl))) (mvT hZ (hw _ (List.mem_of_getElem? (i := 34) rfl))) (mvT hZ (hw _ (List.mem_of_getElem? (i := 35) rfl))) (mvT hZ (hw _ (List.mem_of_getElem? (i := 36) rfl))) (mvT hZ (hw _ (List.mem_of_getElem? (i := 37) rfl))) (mvT hZ (hw _ (List.mem_of_getElem? (i := 38) rfl))) (mvT hZ (hw _ (List.mem_of_getElem? (i := 39) rfl))) (mvT hZ (hw _ (List.mem_of_getElem? (i := 40) rfl))) (by decide) (backOf (W := 0) (rm10 l Z a0 hw [] a1 am b1 k1 (9 : Int32) g1 (10 : Int32) [(.ref am), (.ref am), (.ref am), (.ref am), (.ref am), (.ref am), (.ref am), (.ref am), (.ref am), .null] 9 h0 n0 O0 ⟨Ea51, Fe51, Fs51, Fg51, Vb51, Ov51, Eb51, ga51, gb51, nab51⟩ ⟨by decide, by decide, rfl, by simp⟩ Hm) hZ (hw _ (List.mem_of_getElem? (i := 41) rfl)) (hw _ (List.mem_of_getElem? (i := 2) rfl)) (by decide) (by decide)) q53a q53b q53c (g := (mkF m 20 #[.val (.ref a1), .val (.int (0 : Int32))] [(.ref am), (.ref a1)])) rfl (by rw [hml]; rfl) (Steps.refl _) (argsL := [(.ref am)]) (rest := []) (lenOf pd29_0 rfl) rfl (by show 2 * 0 + _ ≤ _; exact Nat.le_of_eq rfl) (hb hby d29_20) (fun _ _ => ⟨rfl, e52, (by decide : 0 + 0 ≤ _), (by decide : 0 + 0 ≤ _)⟩)
  dsimp only [Pt.U, Pt.locs, Pt.cells, Pt.slots] at X53 l53 y53 z53 st53 hQ53
  subst l53 y53 z53
  obtain ⟨rfl, Nq53, O53, LL53⟩ := hQ53
  have N53 := Fr.app N0 Nq53
  have LM53 : own_L Z n0 T53.heap a1 b1 k1 (10 : Int32) (g1 + (1 : Int32)) (10 : Int32) [(.ref am), (.ref am), (.ref am), (.ref am), (.ref am), (.ref am), (.ref am), (.ref am), (.ref am), (.ref am)] := LL53
  obtain ⟨Ea54, Fe54, Fs54, Fg54, Vb54, Ov54, Eb54, ga54, gb54, nab54⟩ := LM53
  refine own_csR [(.int (1 : Int32))] 25 st53 ?_
  refine own_d1 26 (fun _ q => XS.pop X53.here hx rfl (hb hby d29_25) rfl rfl q) ?_
  refine own_tp (.ref a1) 27 (fun _ q => XS.aloadN X53.here hx rfl (hb hby d29_26) rfl rfl q) ?_
  obtain ⟨T55, X55, e55, st55⟩ := getS2 X53 hx hZ hown (host := "") (Or.inl (hw _ (List.mem_of_getElem? (i := 30) rfl))) Via.refl rfl (Sm.ext O53.2) (g := (mkF m 27 #[.val (.ref a1), .val (.int (0 : Int32))] [(.ref a1)])) rfl (hb hby d29_27)
  refine own_tp (.ref am) 30 st55 ?_
  obtain ⟨cq56, kq56, q56a, q56b, q56c⟩ := isOf hZ e55 Ea54
  obtain ⟨_, _, ⟨T56, L56, k56, n56⟩, -, X56, ⟨Lc56, hQ56, l56, y56, z56⟩, st56⟩ := X55.interfaceBack hx (xi := (⟨"java/util/List", "add", "(Ljava/lang/Object;)Z"⟩ : MethodName)) (y := (⟨"java/util/ArrayList", "add", "(Ljava/lang/Object;)Z"⟩ : MethodName)) hown (mvT hZ (hw _ (List.mem_of_getElem? (i := 33) rfl))) (mvT hZ (hw _ (List.mem_of_getElem? (i := 34) rfl))) (mvT hZ (hw _ (List.mem_of_getElem? (i := 35) rfl))) (mvT hZ (hw _ (List.mem_of_getElem? (i := 36) rfl))) (mvT hZ (hw _ (List.mem_of_getElem? (i := 37) rfl))) (mvT hZ (hw _ (List.mem_of_getElem? (i := 38) rfl))) (mvT hZ (hw _ (List.mem_of_getElem? (i := 39) rfl))) (mvT hZ (hw _ (List.mem_of_getElem? (i := 40) rfl))) (by decide) (backOf (W := 0) (rm18 l Z a0 hw [] a1 am b1 mr k1 (g1 + (1 : Int32)) T53.heap n0 O53 ⟨Ea54, Fe54, Fs54, Fg54, Vb54, Ov54, Eb54, ga54, gb54, nab54⟩ Hm Mr) hZ (hw _ (List.mem_of_getElem? (i := 41) rfl)) (hw _ (List.mem_of_getElem? (i := 2) rfl)) (by decide) (by decide)) q56a q56b q56c (g := (mkF m 30 #[.val (.ref a1), .val (.int (0 : Int32))] [(.ref am), (.ref a1)])) rfl (by rw [hml]; rfl) (Steps.refl _) (argsL := [(.ref am)]) (rest := []) (lenOf pd29_0 rfl) rfl (by show 2 * 0 + _ ≤ _; exact Nat.le_of_eq rfl) (hb hby d29_30) (fun _ _ => ⟨rfl, e55, (by decide : 0 + 1 ≤ _), (by decide : 0 + 15 ≤ _)⟩)
  dsimp only [Pt.U, Pt.locs, Pt.cells, Pt.slots] at X56 l56 y56 z56 st56 hQ56
  subst l56 y56 z56
  obtain ⟨bq56, kq56, rfl, Nq56, O56, LL56⟩ := hQ56
  have N56 := Fr.app N53 Nq56
  have LM56 : own_L Z n0 T56.heap a1 bq56 kq56 (11 : Int32) ((g1 + (1 : Int32)) + (1 : Int32)) (15 : Int32) [(.ref am), (.ref am), (.ref am), (.ref am), (.ref am), (.ref am), (.ref am), (.ref am), (.ref am), (.ref am), (.ref am), .null, .null, .null, .null] := LL56
  obtain ⟨Ea57, Fe57, Fs57, Fg57, Vb57, Ov57, Eb57, ga57, gb57, nab57⟩ := LM56
  refine own_csR [(.int (1 : Int32))] 35 st56 ?_
  refine own_d1 36 (fun _ q => XS.pop X56.here hx rfl (hb hby d29_35) rfl rfl q) ?_
  refine own_tp (.ref a1) 37 (fun _ q => XS.aloadN X56.here hx rfl (hb hby d29_36) rfl rfl q) ?_
  obtain ⟨T58, X58, e58, st58⟩ := getS2 X56 hx hZ hown (host := "") (Or.inl (hw _ (List.mem_of_getElem? (i := 30) rfl))) Via.refl rfl (Sm.ext O56.2) (g := (mkF m 37 #[.val (.ref a1), .val (.int (0 : Int32))] [(.ref a1)])) rfl (hb hby d29_37)
  refine own_tp (.ref am) 40 st58 ?_
  obtain ⟨cq59, kq59, q59a, q59b, q59c⟩ := isOf hZ e58 Ea57
  obtain ⟨_, _, ⟨T59, L59, k59, n59⟩, -, X59, ⟨Lc59, hQ59, l59, y59, z59⟩, st59⟩ := X58.interfaceBack hx (xi := (⟨"java/util/List", "add", "(Ljava/lang/Object;)Z"⟩ : MethodName)) (y := (⟨"java/util/ArrayList", "add", "(Ljava/lang/Object;)Z"⟩ : MethodName)) hown (mvT hZ (hw _ (List.mem_of_getElem? (i := 33) rfl))) (mvT hZ (hw _ (List.mem_of_getElem? (i := 34) rfl))) (mvT hZ (hw _ (List.mem_of_getElem? (i := 35) rfl))) (mvT hZ (hw _ (List.mem_of_getElem? (i := 36) rfl))) (mvT hZ (hw _ (List.mem_of_getElem? (i := 37) rfl))) (mvT hZ (hw _ (List.mem_of_getElem? (i := 38) rfl))) (mvT hZ (hw _ (List.mem_of_getElem? (i := 39) rfl))) (mvT hZ (hw _ (List.mem_of_getElem? (i := 40) rfl))) (by decide) (backOf (W := 0) (rm10 l Z a0 hw [] a1 am bq56 kq56 (11 : Int32) ((g1 + (1 : Int32)) + (1 : Int32)) (15 : Int32) [(.ref am), (.ref am), (.ref am), (.ref am), (.ref am), (.ref am), (.ref am), (.ref am), (.ref am), (.ref am), (.ref am), .null, .null, .null, .null] 11 T56.heap n0 O56 ⟨Ea57, Fe57, Fs57, Fg57, Vb57, Ov57, Eb57, ga57, gb57, nab57⟩ ⟨by decide, by decide, rfl, by simp⟩ Hm) hZ (hw _ (List.mem_of_getElem? (i := 41) rfl)) (hw _ (List.mem_of_getElem? (i := 2) rfl)) (by decide) (by decide)) q59a q59b q59c (g := (mkF m 40 #[.val (.ref a1), .val (.int (0 : Int32))] [(.ref am), (.ref a1)])) rfl (by rw [hml]; rfl) (Steps.refl _) (argsL := [(.ref am)]) (rest := []) (lenOf pd29_0 rfl) rfl (by show 2 * 0 + _ ≤ _; exact Nat.le_of_eq rfl) (hb hby d29_40) (fun _ _ => ⟨rfl, e58, (by decide : 1 + 0 ≤ _), (by decide : 15 + 0 ≤ _)⟩)
  dsimp only [Pt.U, Pt.locs, Pt.cells, Pt.slots] at X59 l59 y59 z59 st59 hQ59
  subst l59 y59 z59
  obtain ⟨rfl, Nq59, O59, LL59⟩ := hQ59
  have N59 := Fr.app N56 Nq59
  have LM59 : own_L Z n0 T59.heap a1 bq56 kq56 (12 : Int32) (((g1 + (1 : Int32)) + (1 : Int32)) + (1 : Int32)) (15 : Int32) [(.ref am), (.ref am), (.ref am), (.ref am), (.ref am), (.ref am), (.ref am), (.ref am), (.ref am), (.ref am), (.ref am), (.ref am), .null, .null, .null] := LL59
  obtain ⟨Ea60, Fe60, Fs60, Fg60, Vb60, Ov60, Eb60, ga60, gb60, nab60⟩ := LM59
  refine own_csR [(.int (1 : Int32))] 45 st59 ?_
  refine own_d1 46 (fun _ q => XS.pop X59.here hx rfl (hb hby d29_45) rfl rfl q) ?_
  refine own_tp (.int (3 : Int32)) 47 (fun _ q => XS.iconst X59.here hx rfl (hb hby d29_46) q) ?_
  exact own_retI X59 hx hrt (hb hby d29_47) hlk (by decide) (by decide) rfl (⟨bq56, kq56, rfl, N59, O59, ⟨Ea60, Fe60, Fs60, Fg60, Vb60, Ov60, Eb60, ga60, gb60, nab60⟩⟩)

theorem pn0 : plainName "com/example/kalends/kalends/LengthRequireMadeUpOfPinLaw" = true := by first | (simp [plainName, overriddenIn]; done) | decide +kernel
theorem pd0_0 : parseMethodDescriptor "()V" = some ⟨[], none⟩ := by decide +kernel
theorem pd0_1 : parseMethodDescriptor "(Ljava/util/List;Z)I" = some ⟨[(.object "java/util/List"), .boolean], some .int⟩ := by decide +kernel
theorem pd0_2 : parseMethodDescriptor "(Ljava/util/List;)V" = some ⟨[(.object "java/util/List")], none⟩ := by decide +kernel
theorem pd0_3 : parseMethodDescriptor "()I" = some ⟨[], some .int⟩ := by decide +kernel
theorem pd0_4 : parseMethodDescriptor "(I)Ljava/lang/Object;" = some ⟨[.int], some (.object "java/lang/Object")⟩ := by decide +kernel
theorem ef0 (m : MethodId) (x0 : Int32) (x1 : Int32) : entryFrame m #[(.int x0), (.int x1)] maxLocals = mkF m 0 #[.val (.int x0), .val (.int x1), .unset, .unset] [] := by first | (simp [entryFrame, mkF, argsToLocals, Value.category, maxLocals]; done) | rfl
set_option maxRecDepth 65536 in
set_option maxHeartbeats 40000000 in
theorem rm0 (l : Launch) (Z : State) (a0 : Array Value) (hw : ∀ d ∈ tables_1, d.before a0 Z = true) (ws : List Jvm.Cond) (p0 p1 : Int32) (h0 : Heap) (n0 : Nat) (Z0 : n0 ≤ h0.size) (O0 : Old Z n0 h0) (ad : Addr) (kd : ClassId) (Sd : Sta Z Z.heap "java/util/ArrayList" "DEFAULTCAPACITY_EMPTY_ELEMENTDATA" "[Ljava/lang/Object;" (.ref ad)) (Vd : Arv Z Z.heap ad kd (.object "java/lang/Object") (0 : Int32) [] .null) (am aq ay : Addr) (Sm : Sta Z Z.heap "com/example/kalends/kalends/ContractPeriod$Length" "MONTH" "Lcom/example/kalends/kalends/ContractPeriod$Length;" (.ref am)) (Sq : Sta Z Z.heap "com/example/kalends/kalends/ContractPeriod$Length" "QUARTER" "Lcom/example/kalends/kalends/ContractPeriod$Length;" (.ref aq)) (Sy : Sta Z Z.heap "com/example/kalends/kalends/ContractPeriod$Length" "YEAR" "Lcom/example/kalends/kalends/ContractPeriod$Length;" (.ref ay)) (Hm : Exa Z Z.heap am "com/example/kalends/kalends/ContractPeriod$Length") (Hq : Exa Z Z.heap aq "com/example/kalends/kalends/ContractPeriod$Length") (Hy : Exa Z Z.heap ay "com/example/kalends/kalends/ContractPeriod$Length") (Fm : Fld Z Z.heap am "com/example/kalends/kalends/ContractPeriod$Length" "months" "I" (.int (1 : Int32))) (Fq : Fld Z Z.heap aq "com/example/kalends/kalends/ContractPeriod$Length" "months" "I" (.int (3 : Int32))) (Fy : Fld Z Z.heap ay "com/example/kalends/kalends/ContractPeriod$Length" "months" "I" (.int (12 : Int32))) (mr : Addr) (Mr : Mir0 Z mr) :
    own_Met l x code maxLocals ret ws room_1 Z #[(.int p0), (.int p1)] h0 (Q0 h0 n0) := by
  refine own_enter #[.val (.int p0), .val (.int p1), .unset, .unset] (plainFor_of_name pn0) (fun m => ef0 m p0 p1) ?_
  intro p e s m below meth c s₁ hx hby hml hown hnm hZ hrt hlk X0 e0
  have N0 := Fr.nil n0
  obtain ⟨T51, h51, X51, e51, E51, A51, D51, -, st51⟩ := newO X0 hx hZ hown (hw _ (List.mem_of_getElem? (i := 0) rfl)) (hw _ (List.mem_of_getElem? (i := 1) rfl)) (hw _ (List.mem_of_getElem? (i := 2) rfl)) e0 (g := (mkF m 0 #[.val (.int p0), .val (.int p1), .unset, .unset] [])) rfl (hb hby at_0) (by decide) (by decide)
  obtain ⟨b51, g51⟩ : ∃ z, z = h0.size := ⟨_, rfl⟩
  rw [← g51] at A51 D51 st51
  have ge51 : n0 ≤ b51 := Nat.le_trans Z0 (Nat.le_of_eq g51.symm)
  have O51 := Old.ext O0 E51
  have Z51 : n0 ≤ h51.size := Nat.le_trans Z0 E51.1
  have FmodCount_51 : Fld Z h51 b51 "java/util/AbstractList" "modCount" "I" (.int (0 : Int32)) := D51 (Or.inl (hw _ (List.mem_of_getElem? (i := 22) rfl))) (ty := .int) (by decide)
  have FelementData_51 : Fld Z h51 b51 "java/util/ArrayList" "elementData" "[Ljava/lang/Object;" .null := D51 (Or.inl (hw _ (List.mem_of_getElem? (i := 25) rfl))) (ty := (.array (.object "java/lang/Object"))) (by decide)
  have Fsize_51 : Fld Z h51 b51 "java/util/ArrayList" "size" "I" (.int (0 : Int32)) := D51 (Or.inl (hw _ (List.mem_of_getElem? (i := 45) rfl))) (ty := .int) (by decide)
  refine own_tp (.ref b51) 3 st51 ?_
  refine own_tp (.ref b51) 4 (fun _ q => XS.dup X51.here hx rfl (hb hby at_3) rfl rfl q) ?_
  obtain ⟨_, _, ⟨T52, L52, k52, n52⟩, -, X52, ⟨Lc52, hQ52, l52, y52, z52⟩, st52⟩ := X51.specialBack hx (y := (⟨"java/util/ArrayList", "<init>", "()V"⟩ : MethodName)) rfl hown (mvT hZ (hw _ (List.mem_of_getElem? (i := 3) rfl))) (mvT hZ (hw _ (List.mem_of_getElem? (i := 4) rfl))) (mvT hZ (hw _ (List.mem_of_getElem? (i := 5) rfl))) (by decide) (backOf (W := 1) (rm4 l Z a0 hw [] b51 h51 n0 O51 A51 FelementData_51 Fsize_51 FmodCount_51 ge51 ad kd Sd Vd) hZ (hw _ (List.mem_of_getElem? (i := 5) rfl)) (hw _ (List.mem_of_getElem? (i := 2) rfl)) (by decide) (by decide)) (g := (mkF m 4 #[.val (.int p0), .val (.int p1), .unset, .unset] [(.ref b51), (.ref b51)])) rfl (by rw [hml]; rfl) (Steps.refl _) (a := b51) (argsL := []) (rest := [(.ref b51)]) (lenOf pd0_0 rfl) rfl (by show 2 * 0 + _ ≤ _; exact Nat.le_of_eq rfl) (hb hby at_4) (fun _ _ => ⟨rfl, e51, (by decide : 1 + 0 ≤ _), (by decide : 3 + 0 ≤ _)⟩)
  dsimp only [Pt.U, Pt.locs, Pt.cells, Pt.slots] at X52 l52 y52 z52 st52 hQ52
  subst l52 y52 z52
  obtain ⟨rfl, Nq52, O52, LL52⟩ := hQ52
  have N52 := Fr.app N0 Nq52
  obtain ⟨Ea53, Fe53, Fs53, Fg53, ga53⟩ := LL52
  refine own_csR [(.ref b51)] 7 st52 ?_
  refine own_ls #[.val (.int p0), .val (.int p1), .val (.ref b51), .unset] 8 (fun _ q => XS.astoreN X52.here hx rfl (hb hby at_7) rfl rfl (l' := #[.val (.int p0), .val (.int p1), .val (.ref b51), .unset]) rfl q) ?_
  refine own_tp (.int p0) 9 (fun _ q => XS.iloadN X52.here hx rfl (hb hby at_8) rfl q) ?_
  refine own_tp (.int (1 : Int32)) 10 (fun _ q => XS.iconst X52.here hx rfl (hb hby at_9) q) ?_
  refine own_t2 (.int (p0 &&& (1 : Int32))) 11 (fun _ q => XS.iand X52.here hx rfl (hb hby at_10) rfl q) ?_
  by_cases c54 : (p0 &&& (1 : Int32)) = (0 : Int32)
  ·
    refine own_d1 14 (fun _ q => XS.ifNo X52.here hx rfl (hb hby at_11) rfl ((if0 _ _).trans (teq c54).2) q) ?_
    refine own_tp (.ref b51) 15 (fun _ q => XS.aloadN X52.here hx rfl (hb hby at_14) rfl rfl q) ?_
    refine own_tp (.int (0 : Int32)) 16 (fun _ q => XS.iconst X52.here hx rfl (hb hby at_15) q) ?_
    obtain ⟨_, _, ⟨T55, L55, k55, n55⟩, -, X55, ⟨Lc55, hQ55, l55, y55, z55⟩, st55⟩ := Jvm.LawKit.callS X52 hx (y := (⟨"com/example/kalends/kalends/LengthRequireMadeUpOfPinLaw", "addBlock", "(Ljava/util/List;Z)I"⟩ : MethodName)) hown (mvT hZ (hw _ (List.mem_of_getElem? (i := 26) rfl))) (mvT hZ (hw _ (List.mem_of_getElem? (i := 27) rfl))) (mvT hZ (hw _ (List.mem_of_getElem? (i := 28) rfl))) (mvT hZ (hw _ (List.mem_of_getElem? (i := 29) rfl))) (by decide) (backOf (W := 0) (rm26 l Z a0 hw [] b51 ad (0 : Int32) T52.heap n0 O52 ⟨Ea53, Fe53, Fs53, Fg53, ga53⟩ kd Sd Vd am aq ay Sm Sq Sy Hm Hq Hy Fm Fq Fy) hZ (hw _ (List.mem_of_getElem? (i := 29) rfl)) (hw _ (List.mem_of_getElem? (i := 28) rfl)) (by decide) (by decide)) (g := (mkF m 16 #[.val (.int p0), .val (.int p1), .val (.ref b51), .unset] [(.int (0 : Int32)), (.ref b51)])) rfl (by rw [hml]; rfl) (argsL := [(.ref b51), (.int (0 : Int32))]) (rest := []) (lenOf pd0_1 rfl) rfl (by show 2 * 0 + _ ≤ _; exact Nat.le_of_eq rfl) (hb hby at_16) (fun _ _ => ⟨rfl, rfl, (by decide : 1 + 1 ≤ _), (by decide : 3 + 10 ≤ _)⟩)
    dsimp only [Pt.U, Pt.locs, Pt.cells, Pt.slots] at X55 l55 y55 z55 st55 hQ55
    subst l55 y55 z55
    obtain ⟨bq55, kq55, rfl, Nq55, O55, LL55⟩ := hQ55
    have N55 := Fr.app N52 Nq55
    have LM55 : own_L Z n0 T55.heap b51 bq55 kq55 (3 : Int32) (3 : Int32) (10 : Int32) [(.ref am), (.ref am), (.ref am), .null, .null, .null, .null, .null, .null, .null] := LL55
    obtain ⟨Ea56, Fe56, Fs56, Fg56, Vb56, Ov56, Eb56, ga56, gb56, nab56⟩ := LM55
    refine own_t2 (.int (3 : Int32)) 19 st55 ?_
    refine own_ls #[.val (.int p0), .val (.int p1), .val (.ref b51), .val (.int (3 : Int32))] 20 (fun _ q => XS.istoreN X55.here hx rfl (hb hby at_19) rfl (l' := #[.val (.int p0), .val (.int p1), .val (.ref b51), .val (.int (3 : Int32))]) rfl q) ?_
    obtain ⟨T57, X57, e57, st57⟩ := getS2 X55 hx hZ hown (host := "") (Or.inl (hw _ (List.mem_of_getElem? (i := 68) rfl))) Via.refl rfl (Sq.ext O55.2) (g := (mkF m 20 #[.val (.int p0), .val (.int p1), .val (.ref b51), .val (.int (3 : Int32))] [])) rfl (hb hby at_20)
    refine own_tp (.ref aq) 23 st57 ?_
    refine own_tp (.ref b51) 24 (fun _ q => XS.aloadN X57.here hx rfl (hb hby at_23) rfl rfl q) ?_
    obtain ⟨cq58, kq58, q58a, q58b, q58c⟩ := isOf hZ e57 (Hq.ext O55.2)
    obtain ⟨_, _, ⟨T58, L58, k58, n58⟩, -, X58, ⟨Lc58, hQ58, l58, y58, z58⟩, st58⟩ := X57.virtualBack hx (y := (⟨"com/example/kalends/kalends/ContractPeriod$Length", "requireMadeUpOf", "(Ljava/util/List;)V"⟩ : MethodName)) (z := (⟨"com/example/kalends/kalends/ContractPeriod$Length", "requireMadeUpOf", "(Ljava/util/List;)V"⟩ : MethodName)) hown (mvT hZ (hw _ (List.mem_of_getElem? (i := 70) rfl))) (mvT hZ (hw _ (List.mem_of_getElem? (i := 71) rfl))) (notFace_of_selects (args := #[]) (mvT hZ (hw _ (List.mem_of_getElem? (i := 73) rfl)))) (mvT hZ (hw _ (List.mem_of_getElem? (i := 73) rfl))) (mvT hZ (hw _ (List.mem_of_getElem? (i := 72) rfl))) (by decide) (backOf (W := 0) (rm24 l Z a0 hw [] aq b51 bq55 kq55 (3 : Int32) (3 : Int32) (10 : Int32) (3 : Int32) [(.ref am), (.ref am), (.ref am), .null, .null, .null, .null, .null, .null, .null] [.null, .null, .null, .null, .null, .null, .null] [false, false, false] T55.heap n0 O55 ⟨Ea56, Fe56, Fs56, Fg56, Vb56, Ov56, Eb56, ga56, gb56, nab56⟩ am aq ay Sm Sq Sy Hm Hq Hy Fm Fq Fy Hq Fq rfl (by decide) (by decide) (by decide +kernel)) hZ (hw _ (List.mem_of_getElem? (i := 74) rfl)) (hw _ (List.mem_of_getElem? (i := 31) rfl)) (by decide) (by decide)) q58a q58c (g := (mkF m 24 #[.val (.int p0), .val (.int p1), .val (.ref b51), .val (.int (3 : Int32))] [(.ref b51), (.ref aq)])) rfl (by rw [hml]; rfl) (Steps.refl _) (argsL := [(.ref b51)]) (rest := []) (lenOf pd0_2 rfl) rfl (by show 2 * 0 + _ ≤ _; exact Nat.le_of_eq rfl) (hb hby at_24) (fun _ _ => ⟨rfl, e57, (by decide : 2 + 0 ≤ _), (by decide : 13 + 0 ≤ _)⟩)
    dsimp only [Pt.U, Pt.locs, Pt.cells, Pt.slots] at X58 l58 y58 z58 st58 hQ58
    subst l58 y58 z58
    obtain ⟨rfl, Nq58, eq58⟩ := hQ58
    have N58 := Fr.app N55 Nq58
    refine own_csR [] 27 st58 ?_
    refine own_tp (.ref b51) 28 (fun _ q => XS.aloadN X58.here hx rfl (hb hby at_27) rfl rfl q) ?_
    obtain ⟨cq59, kq59, q59a, q59b, q59c⟩ := isOf hZ eq58 Ea56
    obtain ⟨_, _, ⟨T59, L59, k59, n59⟩, -, X59, ⟨Lc59, hQ59, l59, y59, z59⟩, st59⟩ := X58.interfaceBack hx (xi := (⟨"java/util/List", "size", "()I"⟩ : MethodName)) (y := (⟨"java/util/ArrayList", "size", "()I"⟩ : MethodName)) hown (mvT hZ (hw _ (List.mem_of_getElem? (i := 108) rfl))) (mvT hZ (hw _ (List.mem_of_getElem? (i := 76) rfl))) (mvT hZ (hw _ (List.mem_of_getElem? (i := 77) rfl))) (mvT hZ (hw _ (List.mem_of_getElem? (i := 78) rfl))) (mvT hZ (hw _ (List.mem_of_getElem? (i := 79) rfl))) (mvT hZ (hw _ (List.mem_of_getElem? (i := 80) rfl))) (mvT hZ (hw _ (List.mem_of_getElem? (i := 81) rfl))) (mvT hZ (hw _ (List.mem_of_getElem? (i := 40) rfl))) (by decide) (backOf (W := 0) (rm19 l Z a0 hw [] b51 (3 : Int32) T55.heap n0 Ea56 Fs56) hZ (hw _ (List.mem_of_getElem? (i := 82) rfl)) (hw _ (List.mem_of_getElem? (i := 2) rfl)) (by decide) (by decide)) q59a q59b q59c (g := (mkF m 28 #[.val (.int p0), .val (.int p1), .val (.ref b51), .val (.int (3 : Int32))] [(.ref b51)])) rfl (by rw [hml]; rfl) (Steps.refl _) (argsL := []) (rest := []) (lenOf pd0_3 rfl) rfl (by show 2 * 0 + _ ≤ _; exact Nat.le_of_eq rfl) (hb hby at_28) (fun _ _ => ⟨rfl, eq58, (by decide : 2 + 0 ≤ _), (by decide : 13 + 0 ≤ _)⟩)
    dsimp only [Pt.U, Pt.locs, Pt.cells, Pt.slots] at X59 l59 y59 z59 st59 hQ59
    subst l59 y59 z59
    obtain ⟨rfl, Nq59, eq59⟩ := hQ59
    have N59 := Fr.app N58 Nq59
    refine own_csR [(.int (3 : Int32))] 33 st59 ?_
    refine own_tp (.int (3 : Int32)) 34 (fun _ q => XS.iloadN X59.here hx rfl (hb hby at_33) rfl q) ?_
    refine own_d2 37 (fun _ q => XS.icmpNo X59.here hx rfl (hb hby at_34) rfl (teq (by decide : (3 : Int32) = (3 : Int32))).2 q) ?_
    refine own_tp (.ref b51) 38 (fun _ q => XS.aloadN X59.here hx rfl (hb hby at_37) rfl rfl q) ?_
    refine own_tp (.int (0 : Int32)) 39 (fun _ q => XS.iconst X59.here hx rfl (hb hby at_38) q) ?_
    obtain ⟨cq60, kq60, q60a, q60b, q60c⟩ := isOf hZ eq59 Ea56
    obtain ⟨_, _, ⟨T60, L60, k60, n60⟩, -, X60, ⟨Lc60, hQ60, l60, y60, z60⟩, st60⟩ := X59.interfaceBack hx (xi := (⟨"java/util/List", "get", "(I)Ljava/lang/Object;"⟩ : MethodName)) (y := (⟨"java/util/ArrayList", "get", "(I)Ljava/lang/Object;"⟩ : MethodName)) hown (mvT hZ (hw _ (List.mem_of_getElem? (i := 109) rfl))) (mvT hZ (hw _ (List.mem_of_getElem? (i := 84) rfl))) (mvT hZ (hw _ (List.mem_of_getElem? (i := 85) rfl))) (mvT hZ (hw _ (List.mem_of_getElem? (i := 86) rfl))) (mvT hZ (hw _ (List.mem_of_getElem? (i := 87) rfl))) (mvT hZ (hw _ (List.mem_of_getElem? (i := 88) rfl))) (mvT hZ (hw _ (List.mem_of_getElem? (i := 89) rfl))) (mvT hZ (hw _ (List.mem_of_getElem? (i := 40) rfl))) (by decide) (backOf (W := 0) (rm23 l Z a0 hw [] b51 bq55 am kq55 (0 : Int32) (3 : Int32) (10 : Int32) [(.ref am), (.ref am), (.ref am), .null, .null, .null, .null, .null, .null, .null] T55.heap n0 Ea56 Fe56 Fs56 Vb56 (by decide) (by decide) (by decide) rfl) hZ (hw _ (List.mem_of_getElem? (i := 90) rfl)) (hw _ (List.mem_of_getElem? (i := 2) rfl)) (by decide) (by decide)) q60a q60b q60c (g := (mkF m 39 #[.val (.int p0), .val (.int p1), .val (.ref b51), .val (.int (3 : Int32))] [(.int (0 : Int32)), (.ref b51)])) rfl (by rw [hml]; rfl) (Steps.refl _) (argsL := [(.int (0 : Int32))]) (rest := []) (lenOf pd0_4 rfl) rfl (by show 2 * 0 + _ ≤ _; exact Nat.le_of_eq rfl) (hb hby at_39) (fun _ _ => ⟨rfl, eq59, (by decide : 2 + 0 ≤ _), (by decide : 13 + 0 ≤ _)⟩)
    dsimp only [Pt.U, Pt.locs, Pt.cells, Pt.slots] at X60 l60 y60 z60 st60 hQ60
    subst l60 y60 z60
    obtain ⟨rfl, Nq60, eq60⟩ := hQ60
    have N60 := Fr.app N59 Nq60
    refine own_csR [(.ref am)] 44 st60 ?_
    obtain ⟨T61, X61, e61, st61⟩ := getS2 X60 hx hZ hown (host := "") (Or.inl (hw _ (List.mem_of_getElem? (i := 30) rfl))) Via.refl eq60 (Sm.ext O55.2) (g := (mkF m 44 #[.val (.int p0), .val (.int p1), .val (.ref b51), .val (.int (3 : Int32))] [(.ref am)])) rfl (hb hby at_44)
    refine own_tp (.ref am) 47 st61 ?_
    refine own_d2 50 (fun _ q => Jvm.RoadKit.acmp (g := (mkF m 47 #[.val (.int p0), .val (.int p1), .val (.ref b51), .val (.int (3 : Int32))] [(.ref am), (.ref am)])) X61 hx rfl rfl rfl (pc0 := 47) (pc' := 50) (same := true) rfl (hb hby at_47) rfl (decide_eq_true rfl) (by decide) (by decide) q) ?_
    refine own_tp (.ref b51) 51 (fun _ q => XS.aloadN X61.here hx rfl (hb hby at_50) rfl rfl q) ?_
    refine own_tp (.int (2 : Int32)) 52 (fun _ q => XS.iconst X61.here hx rfl (hb hby at_51) q) ?_
    obtain ⟨cq62, kq62, q62a, q62b, q62c⟩ := isOf hZ e61 Ea56
    obtain ⟨_, _, ⟨T62, L62, k62, n62⟩, -, X62, ⟨Lc62, hQ62, l62, y62, z62⟩, st62⟩ := X61.interfaceBack hx (xi := (⟨"java/util/List", "get", "(I)Ljava/lang/Object;"⟩ : MethodName)) (y := (⟨"java/util/ArrayList", "get", "(I)Ljava/lang/Object;"⟩ : MethodName)) hown (mvT hZ (hw _ (List.mem_of_getElem? (i := 109) rfl))) (mvT hZ (hw _ (List.mem_of_getElem? (i := 84) rfl))) (mvT hZ (hw _ (List.mem_of_getElem? (i := 85) rfl))) (mvT hZ (hw _ (List.mem_of_getElem? (i := 86) rfl))) (mvT hZ (hw _ (List.mem_of_getElem? (i := 87) rfl))) (mvT hZ (hw _ (List.mem_of_getElem? (i := 88) rfl))) (mvT hZ (hw _ (List.mem_of_getElem? (i := 89) rfl))) (mvT hZ (hw _ (List.mem_of_getElem? (i := 40) rfl))) (by decide) (backOf (W := 0) (rm23 l Z a0 hw [] b51 bq55 am kq55 (2 : Int32) (3 : Int32) (10 : Int32) [(.ref am), (.ref am), (.ref am), .null, .null, .null, .null, .null, .null, .null] T55.heap n0 Ea56 Fe56 Fs56 Vb56 (by decide) (by decide) (by decide) rfl) hZ (hw _ (List.mem_of_getElem? (i := 90) rfl)) (hw _ (List.mem_of_getElem? (i := 2) rfl)) (by decide) (by decide)) q62a q62b q62c (g := (mkF m 52 #[.val (.int p0), .val (.int p1), .val (.ref b51), .val (.int (3 : Int32))] [(.int (2 : Int32)), (.ref b51)])) rfl (by rw [hml]; rfl) (Steps.refl _) (argsL := [(.int (2 : Int32))]) (rest := []) (lenOf pd0_4 rfl) rfl (by show 2 * 0 + _ ≤ _; exact Nat.le_of_eq rfl) (hb hby at_52) (fun _ _ => ⟨rfl, e61, (by decide : 2 + 0 ≤ _), (by decide : 13 + 0 ≤ _)⟩)
    dsimp only [Pt.U, Pt.locs, Pt.cells, Pt.slots] at X62 l62 y62 z62 st62 hQ62
    subst l62 y62 z62
    obtain ⟨rfl, Nq62, eq62⟩ := hQ62
    have N62 := Fr.app N60 Nq62
    refine own_csR [(.ref am)] 57 st62 ?_
    obtain ⟨T63, X63, e63, st63⟩ := getS2 X62 hx hZ hown (host := "") (Or.inl (hw _ (List.mem_of_getElem? (i := 30) rfl))) Via.refl eq62 (Sm.ext O55.2) (g := (mkF m 57 #[.val (.int p0), .val (.int p1), .val (.ref b51), .val (.int (3 : Int32))] [(.ref am)])) rfl (hb hby at_57)
    refine own_tp (.ref am) 60 st63 ?_
    refine own_d2 63 (fun _ q => Jvm.RoadKit.acmp (g := (mkF m 60 #[.val (.int p0), .val (.int p1), .val (.ref b51), .val (.int (3 : Int32))] [(.ref am), (.ref am)])) X63 hx rfl rfl rfl (pc0 := 60) (pc' := 63) (same := true) rfl (hb hby at_60) rfl (decide_eq_true rfl) (by decide) (by decide) q) ?_
    refine own_tp (.int (1 : Int32)) 64 (fun _ q => XS.iconst X63.here hx rfl (hb hby at_63) q) ?_
    refine own_d0 68 (fun _ q => XS.goto X63.here hx rfl (pc0 := 64) (pc' := 68) rfl (hb hby at_64) (by decide) (by decide) q) ?_
    exact own_retN (t := .boolean) X63 hx hrt (hb hby at_68) (by simp) hlk (by decide) (by decide) e63 (⟨rfl, N62⟩)
  ·
    refine own_d1 69 (fun _ q => XS.ifYes X52.here hx rfl (pc0 := 11) (pc' := 69) rfl (hb hby at_11) rfl ((if0 _ _).trans (feq c54).2) (by decide) (by decide) q) ?_
    refine own_tp (.int (0 : Int32)) 70 (fun _ q => XS.iconst X52.here hx rfl (hb hby at_69) q) ?_
    refine own_ls #[.val (.int p0), .val (.int p1), .val (.ref b51), .val (.int (0 : Int32))] 71 (fun _ q => XS.istoreN X52.here hx rfl (hb hby at_70) rfl (l' := #[.val (.int p0), .val (.int p1), .val (.ref b51), .val (.int (0 : Int32))]) rfl q) ?_
    refine own_tp (.int (0 : Int32)) 72 (fun _ q => XS.iloadN X52.here hx rfl (hb hby at_71) rfl q) ?_
    refine own_tp (.ref b51) 73 (fun _ q => XS.aloadN X52.here hx rfl (hb hby at_72) rfl rfl q) ?_
    refine own_tp (.int p1) 74 (fun _ q => XS.iloadN X52.here hx rfl (hb hby at_73) rfl q) ?_
    refine own_tp (.int (1 : Int32)) 75 (fun _ q => XS.iconst X52.here hx rfl (hb hby at_74) q) ?_
    refine own_t2 (.int (p1 &&& (1 : Int32))) 76 (fun _ q => XS.iand X52.here hx rfl (hb hby at_75) rfl q) ?_
    by_cases c64 : (p1 &&& (1 : Int32)) = (0 : Int32)
    ·
      refine own_d1 83 (fun _ q => XS.ifYes X52.here hx rfl (pc0 := 76) (pc' := 83) rfl (hb hby at_76) rfl ((if0 _ _).trans (teq c64).1) (by decide) (by decide) q) ?_
      refine own_tp (.int (0 : Int32)) 84 (fun _ q => XS.iconst X52.here hx rfl (hb hby at_83) q) ?_
      obtain ⟨_, _, ⟨T65, L65, k65, n65⟩, -, X65, ⟨Lc65, hQ65, l65, y65, z65⟩, st65⟩ := Jvm.LawKit.callS X52 hx (y := (⟨"com/example/kalends/kalends/LengthRequireMadeUpOfPinLaw", "addBlock", "(Ljava/util/List;Z)I"⟩ : MethodName)) hown (mvT hZ (hw _ (List.mem_of_getElem? (i := 26) rfl))) (mvT hZ (hw _ (List.mem_of_getElem? (i := 27) rfl))) (mvT hZ (hw _ (List.mem_of_getElem? (i := 28) rfl))) (mvT hZ (hw _ (List.mem_of_getElem? (i := 29) rfl))) (by decide) (backOf (W := 1) (rm26 l Z a0 hw [] b51 ad (0 : Int32) T52.heap n0 O52 ⟨Ea53, Fe53, Fs53, Fg53, ga53⟩ kd Sd Vd am aq ay Sm Sq Sy Hm Hq Hy Fm Fq Fy) hZ (hw _ (List.mem_of_getElem? (i := 29) rfl)) (hw _ (List.mem_of_getElem? (i := 28) rfl)) (by decide) (by decide)) (g := (mkF m 84 #[.val (.int p0), .val (.int p1), .val (.ref b51), .val (.int (0 : Int32))] [(.int (0 : Int32)), (.ref b51), (.int (0 : Int32))])) rfl (by rw [hml]; rfl) (argsL := [(.ref b51), (.int (0 : Int32))]) (rest := [(.int (0 : Int32))]) (lenOf pd0_1 rfl) rfl (by show 2 * 0 + _ ≤ _; exact Nat.le_of_eq rfl) (hb hby at_84) (fun _ _ => ⟨rfl, rfl, (by decide : 1 + 1 ≤ _), (by decide : 3 + 10 ≤ _)⟩)
      dsimp only [Pt.U, Pt.locs, Pt.cells, Pt.slots] at X65 l65 y65 z65 st65 hQ65
      subst l65 y65 z65
      obtain ⟨bq65, kq65, rfl, Nq65, O65, LL65⟩ := hQ65
      have N65 := Fr.app N52 Nq65
      have LM65 : own_L Z n0 T65.heap b51 bq65 kq65 (3 : Int32) (3 : Int32) (10 : Int32) [(.ref am), (.ref am), (.ref am), .null, .null, .null, .null, .null, .null, .null] := LL65
      obtain ⟨Ea66, Fe66, Fs66, Fg66, Vb66, Ov66, Eb66, ga66, gb66, nab66⟩ := LM65
      refine own_t2 (.int (3 : Int32)) 87 st65 ?_
      refine own_t2 (.int (3 : Int32)) 88 (fun _ q => XS.iadd X65.here hx rfl (hb hby at_87) rfl q) ?_
      refine own_ls #[.val (.int p0), .val (.int p1), .val (.ref b51), .val (.int (3 : Int32))] 89 (fun _ q => XS.istoreN X65.here hx rfl (hb hby at_88) rfl (l' := #[.val (.int p0), .val (.int p1), .val (.ref b51), .val (.int (3 : Int32))]) rfl q) ?_
      refine own_tp (.int (3 : Int32)) 90 (fun _ q => XS.iloadN X65.here hx rfl (hb hby at_89) rfl q) ?_
      refine own_tp (.ref b51) 91 (fun _ q => XS.aloadN X65.here hx rfl (hb hby at_90) rfl rfl q) ?_
      refine own_tp (.int p1) 92 (fun _ q => XS.iloadN X65.here hx rfl (hb hby at_91) rfl q) ?_
      refine own_tp (.int (2 : Int32)) 93 (fun _ q => XS.iconst X65.here hx rfl (hb hby at_92) q) ?_
      refine own_t2 (.int (p1 &&& (2 : Int32))) 94 (fun _ q => XS.iand X65.here hx rfl (hb hby at_93) rfl q) ?_
      by_cases c67 : (p1 &&& (2 : Int32)) = (0 : Int32)
      ·
        refine own_d1 101 (fun _ q => XS.ifYes X65.here hx rfl (pc0 := 94) (pc' := 101) rfl (hb hby at_94) rfl ((if0 _ _).trans (teq c67).1) (by decide) (by decide) q) ?_
        refine own_tp (.int (0 : Int32)) 102 (fun _ q => XS.iconst X65.here hx rfl (hb hby at_101) q) ?_
        obtain ⟨_, _, ⟨T68, L68, k68, n68⟩, -, X68, ⟨Lc68, hQ68, l68, y68, z68⟩, st68⟩ := Jvm.LawKit.callS X65 hx (y := (⟨"com/example/kalends/kalends/LengthRequireMadeUpOfPinLaw", "addBlock", "(Ljava/util/List;Z)I"⟩ : MethodName)) hown (mvT hZ (hw _ (List.mem_of_getElem? (i := 26) rfl))) (mvT hZ (hw _ (List.mem_of_getElem? (i := 27) rfl))) (mvT hZ (hw _ (List.mem_of_getElem? (i := 28) rfl))) (mvT hZ (hw _ (List.mem_of_getElem? (i := 29) rfl))) (by decide) (backOf (W := 1) (rm28 l Z a0 hw [] b51 bq65 kq65 (3 : Int32) (3 : Int32) (10 : Int32) [(.ref am), (.ref am), (.ref am), .null, .null, .null, .null, .null, .null, .null] 3 T65.heap n0 O65 ⟨Ea66, Fe66, Fs66, Fg66, Vb66, Ov66, Eb66, ga66, gb66, nab66⟩ ⟨by decide, by decide, rfl, by simp⟩ ⟨by decide, by decide, rfl, by simp⟩ ⟨by decide, by decide, rfl, by simp⟩ am aq ay Sm Sq Sy Hm Hq Hy Fm Fq Fy) hZ (hw _ (List.mem_of_getElem? (i := 29) rfl)) (hw _ (List.mem_of_getElem? (i := 28) rfl)) (by decide) (by decide)) (g := (mkF m 102 #[.val (.int p0), .val (.int p1), .val (.ref b51), .val (.int (3 : Int32))] [(.int (0 : Int32)), (.ref b51), (.int (3 : Int32))])) rfl (by rw [hml]; rfl) (argsL := [(.ref b51), (.int (0 : Int32))]) (rest := [(.int (3 : Int32))]) (lenOf pd0_1 rfl) rfl (by show 2 * 0 + _ ≤ _; exact Nat.le_of_eq rfl) (hb hby at_102) (fun _ _ => ⟨rfl, rfl, (by decide : 2 + 0 ≤ _), (by decide : 13 + 0 ≤ _)⟩)
        dsimp only [Pt.U, Pt.locs, Pt.cells, Pt.slots] at X68 l68 y68 z68 st68 hQ68
        subst l68 y68 z68
        obtain ⟨rfl, Nq68, O68, LL68⟩ := hQ68
        have N68 := Fr.app N65 Nq68
        have LM68 : own_L Z n0 T68.heap b51 bq65 kq65 (6 : Int32) (6 : Int32) (10 : Int32) [(.ref am), (.ref am), (.ref am), (.ref am), (.ref am), (.ref am), .null, .null, .null, .null] := LL68
        obtain ⟨Ea69, Fe69, Fs69, Fg69, Vb69, Ov69, Eb69, ga69, gb69, nab69⟩ := LM68
        refine own_t2 (.int (3 : Int32)) 105 st68 ?_
        refine own_t2 (.int (6 : Int32)) 106 (fun _ q => XS.iadd X68.here hx rfl (hb hby at_105) rfl q) ?_
        refine own_ls #[.val (.int p0), .val (.int p1), .val (.ref b51), .val (.int (6 : Int32))] 107 (fun _ q => XS.istoreN X68.here hx rfl (hb hby at_106) rfl (l' := #[.val (.int p0), .val (.int p1), .val (.ref b51), .val (.int (6 : Int32))]) rfl q) ?_
        refine own_tp (.int (6 : Int32)) 108 (fun _ q => XS.iloadN X68.here hx rfl (hb hby at_107) rfl q) ?_
        refine own_tp (.ref b51) 109 (fun _ q => XS.aloadN X68.here hx rfl (hb hby at_108) rfl rfl q) ?_
        refine own_tp (.int p1) 110 (fun _ q => XS.iloadN X68.here hx rfl (hb hby at_109) rfl q) ?_
        refine own_tp (.int (4 : Int32)) 111 (fun _ q => XS.iconst X68.here hx rfl (hb hby at_110) q) ?_
        refine own_t2 (.int (p1 &&& (4 : Int32))) 112 (fun _ q => XS.iand X68.here hx rfl (hb hby at_111) rfl q) ?_
        by_cases c70 : (p1 &&& (4 : Int32)) = (0 : Int32)
        ·
          refine own_d1 119 (fun _ q => XS.ifYes X68.here hx rfl (pc0 := 112) (pc' := 119) rfl (hb hby at_112) rfl ((if0 _ _).trans (teq c70).1) (by decide) (by decide) q) ?_
          refine own_tp (.int (0 : Int32)) 120 (fun _ q => XS.iconst X68.here hx rfl (hb hby at_119) q) ?_
          obtain ⟨_, _, ⟨T71, L71, k71, n71⟩, -, X71, ⟨Lc71, hQ71, l71, y71, z71⟩, st71⟩ := Jvm.LawKit.callS X68 hx (y := (⟨"com/example/kalends/kalends/LengthRequireMadeUpOfPinLaw", "addBlock", "(Ljava/util/List;Z)I"⟩ : MethodName)) hown (mvT hZ (hw _ (List.mem_of_getElem? (i := 26) rfl))) (mvT hZ (hw _ (List.mem_of_getElem? (i := 27) rfl))) (mvT hZ (hw _ (List.mem_of_getElem? (i := 28) rfl))) (mvT hZ (hw _ (List.mem_of_getElem? (i := 29) rfl))) (by decide) (backOf (W := 1) (rm28 l Z a0 hw [] b51 bq65 kq65 (6 : Int32) (6 : Int32) (10 : Int32) [(.ref am), (.ref am), (.ref am), (.ref am), (.ref am), (.ref am), .null, .null, .null, .null] 6 T68.heap n0 O68 ⟨Ea69, Fe69, Fs69, Fg69, Vb69, Ov69, Eb69, ga69, gb69, nab69⟩ ⟨by decide, by decide, rfl, by simp⟩ ⟨by decide, by decide, rfl, by simp⟩ ⟨by decide, by decide, rfl, by simp⟩ am aq ay Sm Sq Sy Hm Hq Hy Fm Fq Fy) hZ (hw _ (List.mem_of_getElem? (i := 29) rfl)) (hw _ (List.mem_of_getElem? (i := 28) rfl)) (by decide) (by decide)) (g := (mkF m 120 #[.val (.int p0), .val (.int p1), .val (.ref b51), .val (.int (6 : Int32))] [(.int (0 : Int32)), (.ref b51), (.int (6 : Int32))])) rfl (by rw [hml]; rfl) (argsL := [(.ref b51), (.int (0 : Int32))]) (rest := [(.int (6 : Int32))]) (lenOf pd0_1 rfl) rfl (by show 2 * 0 + _ ≤ _; exact Nat.le_of_eq rfl) (hb hby at_120) (fun _ _ => ⟨rfl, rfl, (by decide : 2 + 0 ≤ _), (by decide : 13 + 0 ≤ _)⟩)
          dsimp only [Pt.U, Pt.locs, Pt.cells, Pt.slots] at X71 l71 y71 z71 st71 hQ71
          subst l71 y71 z71
          obtain ⟨rfl, Nq71, O71, LL71⟩ := hQ71
          have N71 := Fr.app N68 Nq71
          have LM71 : own_L Z n0 T71.heap b51 bq65 kq65 (9 : Int32) (9 : Int32) (10 : Int32) [(.ref am), (.ref am), (.ref am), (.ref am), (.ref am), (.ref am), (.ref am), (.ref am), (.ref am), .null] := LL71
          obtain ⟨Ea72, Fe72, Fs72, Fg72, Vb72, Ov72, Eb72, ga72, gb72, nab72⟩ := LM71
          refine own_t2 (.int (3 : Int32)) 123 st71 ?_
          refine own_t2 (.int (9 : Int32)) 124 (fun _ q => XS.iadd X71.here hx rfl (hb hby at_123) rfl q) ?_
          refine own_ls #[.val (.int p0), .val (.int p1), .val (.ref b51), .val (.int (9 : Int32))] 125 (fun _ q => XS.istoreN X71.here hx rfl (hb hby at_124) rfl (l' := #[.val (.int p0), .val (.int p1), .val (.ref b51), .val (.int (9 : Int32))]) rfl q) ?_
          refine own_tp (.int (9 : Int32)) 126 (fun _ q => XS.iloadN X71.here hx rfl (hb hby at_125) rfl q) ?_
          refine own_tp (.ref b51) 127 (fun _ q => XS.aloadN X71.here hx rfl (hb hby at_126) rfl rfl q) ?_
          refine own_tp (.int p1) 128 (fun _ q => XS.iloadN X71.here hx rfl (hb hby at_127) rfl q) ?_
          refine own_tp (.int (8 : Int32)) 130 (fun _ q => XS.bipush X71.here hx rfl (hb hby at_128) q) ?_
          refine own_t2 (.int (p1 &&& (8 : Int32))) 131 (fun _ q => XS.iand X71.here hx rfl (hb hby at_130) rfl q) ?_
          by_cases c73 : (p1 &&& (8 : Int32)) = (0 : Int32)
          ·
            refine own_d1 138 (fun _ q => XS.ifYes X71.here hx rfl (pc0 := 131) (pc' := 138) rfl (hb hby at_131) rfl ((if0 _ _).trans (teq c73).1) (by decide) (by decide) q) ?_
            refine own_tp (.int (0 : Int32)) 139 (fun _ q => XS.iconst X71.here hx rfl (hb hby at_138) q) ?_
            obtain ⟨_, _, ⟨T74, L74, k74, n74⟩, -, X74, ⟨Lc74, hQ74, l74, y74, z74⟩, st74⟩ := Jvm.LawKit.callS X71 hx (y := (⟨"com/example/kalends/kalends/LengthRequireMadeUpOfPinLaw", "addBlock", "(Ljava/util/List;Z)I"⟩ : MethodName)) hown (mvT hZ (hw _ (List.mem_of_getElem? (i := 26) rfl))) (mvT hZ (hw _ (List.mem_of_getElem? (i := 27) rfl))) (mvT hZ (hw _ (List.mem_of_getElem? (i := 28) rfl))) (mvT hZ (hw _ (List.mem_of_getElem? (i := 29) rfl))) (by decide) (backOf (W := 1) (rm29 l Z a0 hw [] b51 bq65 mr kq65 (9 : Int32) T71.heap n0 O71 am aq ay Sm Sq Sy Hm Hq Hy Fm Fq Fy ⟨Ea72, Fe72, Fs72, Fg72, Vb72, Ov72, Eb72, ga72, gb72, nab72⟩ Mr) hZ (hw _ (List.mem_of_getElem? (i := 29) rfl)) (hw _ (List.mem_of_getElem? (i := 28) rfl)) (by decide) (by decide)) (g := (mkF m 139 #[.val (.int p0), .val (.int p1), .val (.ref b51), .val (.int (9 : Int32))] [(.int (0 : Int32)), (.ref b51), (.int (9 : Int32))])) rfl (by rw [hml]; rfl) (argsL := [(.ref b51), (.int (0 : Int32))]) (rest := [(.int (9 : Int32))]) (lenOf pd0_1 rfl) rfl (by show 2 * 0 + _ ≤ _; exact Nat.le_of_eq rfl) (hb hby at_139) (fun _ _ => ⟨rfl, rfl, (by decide : 2 + 1 ≤ _), (by decide : 13 + 15 ≤ _)⟩)
            dsimp only [Pt.U, Pt.locs, Pt.cells, Pt.slots] at X74 l74 y74 z74 st74 hQ74
            subst l74 y74 z74
            obtain ⟨bq74, kq74, rfl, Nq74, O74, LL74⟩ := hQ74
            have N74 := Fr.app N71 Nq74
            have LM74 : own_L Z n0 T74.heap b51 bq74 kq74 (12 : Int32) (12 : Int32) (15 : Int32) [(.ref am), (.ref am), (.ref am), (.ref am), (.ref am), (.ref am), (.ref am), (.ref am), (.ref am), (.ref am), (.ref am), (.ref am), .null, .null, .null] := LL74
            obtain ⟨Ea75, Fe75, Fs75, Fg75, Vb75, Ov75, Eb75, ga75, gb75, nab75⟩ := LM74
            refine own_t2 (.int (3 : Int32)) 142 st74 ?_
            refine own_t2 (.int (12 : Int32)) 143 (fun _ q => XS.iadd X74.here hx rfl (hb hby at_142) rfl q) ?_
            refine own_ls #[.val (.int p0), .val (.int p1), .val (.ref b51), .val (.int (12 : Int32))] 144 (fun _ q => XS.istoreN X74.here hx rfl (hb hby at_143) rfl (l' := #[.val (.int p0), .val (.int p1), .val (.ref b51), .val (.int (12 : Int32))]) rfl q) ?_
            obtain ⟨T76, X76, e76, st76⟩ := getS2 X74 hx hZ hown (host := "") (Or.inl (hw _ (List.mem_of_getElem? (i := 110) rfl))) Via.refl rfl (Sy.ext O74.2) (g := (mkF m 144 #[.val (.int p0), .val (.int p1), .val (.ref b51), .val (.int (12 : Int32))] [])) rfl (hb hby at_144)
            refine own_tp (.ref ay) 147 st76 ?_
            refine own_tp (.ref b51) 148 (fun _ q => XS.aloadN X76.here hx rfl (hb hby at_147) rfl rfl q) ?_
            obtain ⟨cq77, kq77, q77a, q77b, q77c⟩ := isOf hZ e76 (Hy.ext O74.2)
            obtain ⟨_, _, ⟨T77, L77, k77, n77⟩, -, X77, ⟨Lc77, hQ77, l77, y77, z77⟩, st77⟩ := X76.virtualBack hx (y := (⟨"com/example/kalends/kalends/ContractPeriod$Length", "requireMadeUpOf", "(Ljava/util/List;)V"⟩ : MethodName)) (z := (⟨"com/example/kalends/kalends/ContractPeriod$Length", "requireMadeUpOf", "(Ljava/util/List;)V"⟩ : MethodName)) hown (mvT hZ (hw _ (List.mem_of_getElem? (i := 70) rfl))) (mvT hZ (hw _ (List.mem_of_getElem? (i := 71) rfl))) (notFace_of_selects (args := #[]) (mvT hZ (hw _ (List.mem_of_getElem? (i := 73) rfl)))) (mvT hZ (hw _ (List.mem_of_getElem? (i := 73) rfl))) (mvT hZ (hw _ (List.mem_of_getElem? (i := 72) rfl))) (by decide) (backOf (W := 0) (rm24 l Z a0 hw [] ay b51 bq74 kq74 (12 : Int32) (12 : Int32) (15 : Int32) (12 : Int32) [(.ref am), (.ref am), (.ref am), (.ref am), (.ref am), (.ref am), (.ref am), (.ref am), (.ref am), (.ref am), (.ref am), (.ref am), .null, .null, .null] [.null, .null, .null] [false, false, false, false, false, false, false, false, false, false, false, false] T74.heap n0 O74 ⟨Ea75, Fe75, Fs75, Fg75, Vb75, Ov75, Eb75, ga75, gb75, nab75⟩ am aq ay Sm Sq Sy Hm Hq Hy Fm Fq Fy Hy Fy rfl (by decide) (by decide) (by decide +kernel)) hZ (hw _ (List.mem_of_getElem? (i := 74) rfl)) (hw _ (List.mem_of_getElem? (i := 31) rfl)) (by decide) (by decide)) q77a q77c (g := (mkF m 148 #[.val (.int p0), .val (.int p1), .val (.ref b51), .val (.int (12 : Int32))] [(.ref b51), (.ref ay)])) rfl (by rw [hml]; rfl) (Steps.refl _) (argsL := [(.ref b51)]) (rest := []) (lenOf pd0_2 rfl) rfl (by show 2 * 0 + _ ≤ _; exact Nat.le_of_eq rfl) (hb hby at_148) (fun _ _ => ⟨rfl, e76, (by decide : 3 + 0 ≤ _), (by decide : 28 + 0 ≤ _)⟩)
            dsimp only [Pt.U, Pt.locs, Pt.cells, Pt.slots] at X77 l77 y77 z77 st77 hQ77
            subst l77 y77 z77
            obtain ⟨rfl, Nq77, eq77⟩ := hQ77
            have N77 := Fr.app N74 Nq77
            refine own_csR [] 151 st77 ?_
            refine own_tp (.ref b51) 152 (fun _ q => XS.aloadN X77.here hx rfl (hb hby at_151) rfl rfl q) ?_
            obtain ⟨cq78, kq78, q78a, q78b, q78c⟩ := isOf hZ eq77 Ea75
            obtain ⟨_, _, ⟨T78, L78, k78, n78⟩, -, X78, ⟨Lc78, hQ78, l78, y78, z78⟩, st78⟩ := X77.interfaceBack hx (xi := (⟨"java/util/List", "size", "()I"⟩ : MethodName)) (y := (⟨"java/util/ArrayList", "size", "()I"⟩ : MethodName)) hown (mvT hZ (hw _ (List.mem_of_getElem? (i := 108) rfl))) (mvT hZ (hw _ (List.mem_of_getElem? (i := 76) rfl))) (mvT hZ (hw _ (List.mem_of_getElem? (i := 77) rfl))) (mvT hZ (hw _ (List.mem_of_getElem? (i := 78) rfl))) (mvT hZ (hw _ (List.mem_of_getElem? (i := 79) rfl))) (mvT hZ (hw _ (List.mem_of_getElem? (i := 80) rfl))) (mvT hZ (hw _ (List.mem_of_getElem? (i := 81) rfl))) (mvT hZ (hw _ (List.mem_of_getElem? (i := 40) rfl))) (by decide) (backOf (W := 0) (rm19 l Z a0 hw [] b51 (12 : Int32) T74.heap n0 Ea75 Fs75) hZ (hw _ (List.mem_of_getElem? (i := 82) rfl)) (hw _ (List.mem_of_getElem? (i := 2) rfl)) (by decide) (by decide)) q78a q78b q78c (g := (mkF m 152 #[.val (.int p0), .val (.int p1), .val (.ref b51), .val (.int (12 : Int32))] [(.ref b51)])) rfl (by rw [hml]; rfl) (Steps.refl _) (argsL := []) (rest := []) (lenOf pd0_3 rfl) rfl (by show 2 * 0 + _ ≤ _; exact Nat.le_of_eq rfl) (hb hby at_152) (fun _ _ => ⟨rfl, eq77, (by decide : 3 + 0 ≤ _), (by decide : 28 + 0 ≤ _)⟩)
            dsimp only [Pt.U, Pt.locs, Pt.cells, Pt.slots] at X78 l78 y78 z78 st78 hQ78
            subst l78 y78 z78
            obtain ⟨rfl, Nq78, eq78⟩ := hQ78
            have N78 := Fr.app N77 Nq78
            refine own_csR [(.int (12 : Int32))] 157 st78 ?_
            refine own_tp (.int (12 : Int32)) 158 (fun _ q => XS.iloadN X78.here hx rfl (hb hby at_157) rfl q) ?_
            refine own_d2 161 (fun _ q => XS.icmpNo X78.here hx rfl (hb hby at_158) rfl (teq (by decide : (12 : Int32) = (12 : Int32))).2 q) ?_
            refine own_tp (.int (1 : Int32)) 162 (fun _ q => XS.iconst X78.here hx rfl (hb hby at_161) q) ?_
            refine own_d0 166 (fun _ q => XS.goto X78.here hx rfl (pc0 := 162) (pc' := 166) rfl (hb hby at_162) (by decide) (by decide) q) ?_
            exact own_retN (t := .boolean) X78 hx hrt (hb hby at_166) (by simp) hlk (by decide) (by decide) eq78 (⟨rfl, N78⟩)
          ·
            refine own_d1 134 (fun _ q => XS.ifNo X71.here hx rfl (hb hby at_131) rfl ((if0 _ _).trans (feq c73).1) q) ?_
            refine own_tp (.int (1 : Int32)) 135 (fun _ q => XS.iconst X71.here hx rfl (hb hby at_134) q) ?_
            refine own_d0 139 (fun _ q => XS.goto X71.here hx rfl (pc0 := 135) (pc' := 139) rfl (hb hby at_135) (by decide) (by decide) q) ?_
            obtain ⟨_, _, ⟨T79, L79, k79, n79⟩, -, X79, ⟨Lc79, hQ79, l79, y79, z79⟩, st79⟩ := Jvm.LawKit.callS X71 hx (y := (⟨"com/example/kalends/kalends/LengthRequireMadeUpOfPinLaw", "addBlock", "(Ljava/util/List;Z)I"⟩ : MethodName)) hown (mvT hZ (hw _ (List.mem_of_getElem? (i := 26) rfl))) (mvT hZ (hw _ (List.mem_of_getElem? (i := 27) rfl))) (mvT hZ (hw _ (List.mem_of_getElem? (i := 28) rfl))) (mvT hZ (hw _ (List.mem_of_getElem? (i := 29) rfl))) (by decide) (backOf (W := 1) (rm27 l Z a0 hw [] b51 bq65 kq65 (9 : Int32) (9 : Int32) (10 : Int32) [(.ref am), (.ref am), (.ref am), (.ref am), (.ref am), (.ref am), (.ref am), (.ref am), (.ref am), .null] 9 T71.heap n0 O71 ⟨Ea72, Fe72, Fs72, Fg72, Vb72, Ov72, Eb72, ga72, gb72, nab72⟩ ⟨by decide, by decide, rfl, by simp⟩ am aq ay Sm Sq Sy Hm Hq Hy Fm Fq Fy) hZ (hw _ (List.mem_of_getElem? (i := 29) rfl)) (hw _ (List.mem_of_getElem? (i := 28) rfl)) (by decide) (by decide)) (g := (mkF m 139 #[.val (.int p0), .val (.int p1), .val (.ref b51), .val (.int (9 : Int32))] [(.int (1 : Int32)), (.ref b51), (.int (9 : Int32))])) rfl (by rw [hml]; rfl) (argsL := [(.ref b51), (.int (1 : Int32))]) (rest := [(.int (9 : Int32))]) (lenOf pd0_1 rfl) rfl (by show 2 * 0 + _ ≤ _; exact Nat.le_of_eq rfl) (hb hby at_139) (fun _ _ => ⟨rfl, rfl, (by decide : 2 + 0 ≤ _), (by decide : 13 + 0 ≤ _)⟩)
            dsimp only [Pt.U, Pt.locs, Pt.cells, Pt.slots] at X79 l79 y79 z79 st79 hQ79
            subst l79 y79 z79
            obtain ⟨rfl, Nq79, O79, LL79⟩ := hQ79
            have N79 := Fr.app N71 Nq79
            have LM79 : own_L Z n0 T79.heap b51 bq65 kq65 (10 : Int32) (10 : Int32) (10 : Int32) [(.ref am), (.ref am), (.ref am), (.ref am), (.ref am), (.ref am), (.ref am), (.ref am), (.ref am), (.ref aq)] := LL79
            obtain ⟨Ea80, Fe80, Fs80, Fg80, Vb80, Ov80, Eb80, ga80, gb80, nab80⟩ := LM79
            refine own_t2 (.int (1 : Int32)) 142 st79 ?_
            refine own_t2 (.int (10 : Int32)) 143 (fun _ q => XS.iadd X79.here hx rfl (hb hby at_142) rfl q) ?_
            refine own_ls #[.val (.int p0), .val (.int p1), .val (.ref b51), .val (.int (10 : Int32))] 144 (fun _ q => XS.istoreN X79.here hx rfl (hb hby at_143) rfl (l' := #[.val (.int p0), .val (.int p1), .val (.ref b51), .val (.int (10 : Int32))]) rfl q) ?_
            obtain ⟨T81, X81, e81, st81⟩ := getS2 X79 hx hZ hown (host := "") (Or.inl (hw _ (List.mem_of_getElem? (i := 110) rfl))) Via.refl rfl (Sy.ext O79.2) (g := (mkF m 144 #[.val (.int p0), .val (.int p1), .val (.ref b51), .val (.int (10 : Int32))] [])) rfl (hb hby at_144)
            refine own_tp (.ref ay) 147 st81 ?_
            refine own_tp (.ref b51) 148 (fun _ q => XS.aloadN X81.here hx rfl (hb hby at_147) rfl rfl q) ?_
            obtain ⟨cq82, kq82, q82a, q82b, q82c⟩ := isOf hZ e81 (Hy.ext O79.2)
            obtain ⟨_, _, ⟨T82, L82, k82, n82⟩, -, X82, ⟨Lc82, hQ82, l82, y82, z82⟩, st82⟩ := X81.virtualBack hx (y := (⟨"com/example/kalends/kalends/ContractPeriod$Length", "requireMadeUpOf", "(Ljava/util/List;)V"⟩ : MethodName)) (z := (⟨"com/example/kalends/kalends/ContractPeriod$Length", "requireMadeUpOf", "(Ljava/util/List;)V"⟩ : MethodName)) hown (mvT hZ (hw _ (List.mem_of_getElem? (i := 70) rfl))) (mvT hZ (hw _ (List.mem_of_getElem? (i := 71) rfl))) (notFace_of_selects (args := #[]) (mvT hZ (hw _ (List.mem_of_getElem? (i := 73) rfl)))) (mvT hZ (hw _ (List.mem_of_getElem? (i := 73) rfl))) (mvT hZ (hw _ (List.mem_of_getElem? (i := 72) rfl))) (by decide) (backOf (W := 0) (rm24 l Z a0 hw [] ay b51 bq65 kq65 (10 : Int32) (10 : Int32) (10 : Int32) (12 : Int32) [(.ref am), (.ref am), (.ref am), (.ref am), (.ref am), (.ref am), (.ref am), (.ref am), (.ref am), (.ref aq)] [] [false, false, false, false, false, false, false, false, false, true] T79.heap n0 O79 ⟨Ea80, Fe80, Fs80, Fg80, Vb80, Ov80, Eb80, ga80, gb80, nab80⟩ am aq ay Sm Sq Sy Hm Hq Hy Fm Fq Fy Hy Fy rfl (by decide) (by decide) (by decide +kernel)) hZ (hw _ (List.mem_of_getElem? (i := 74) rfl)) (hw _ (List.mem_of_getElem? (i := 31) rfl)) (by decide) (by decide)) q82a q82c (g := (mkF m 148 #[.val (.int p0), .val (.int p1), .val (.ref b51), .val (.int (10 : Int32))] [(.ref b51), (.ref ay)])) rfl (by rw [hml]; rfl) (Steps.refl _) (argsL := [(.ref b51)]) (rest := []) (lenOf pd0_2 rfl) rfl (by show 2 * 0 + _ ≤ _; exact Nat.le_of_eq rfl) (hb hby at_148) (fun _ _ => ⟨rfl, e81, (by decide : 2 + 0 ≤ _), (by decide : 13 + 0 ≤ _)⟩)
            dsimp only [Pt.U, Pt.locs, Pt.cells, Pt.slots] at X82 l82 y82 z82 st82 hQ82
            subst l82 y82 z82
            obtain ⟨rfl, Nq82, eq82⟩ := hQ82
            have N82 := Fr.app N79 Nq82
            refine own_csR [] 151 st82 ?_
            refine own_tp (.ref b51) 152 (fun _ q => XS.aloadN X82.here hx rfl (hb hby at_151) rfl rfl q) ?_
            obtain ⟨cq83, kq83, q83a, q83b, q83c⟩ := isOf hZ eq82 Ea80
            obtain ⟨_, _, ⟨T83, L83, k83, n83⟩, -, X83, ⟨Lc83, hQ83, l83, y83, z83⟩, st83⟩ := X82.interfaceBack hx (xi := (⟨"java/util/List", "size", "()I"⟩ : MethodName)) (y := (⟨"java/util/ArrayList", "size", "()I"⟩ : MethodName)) hown (mvT hZ (hw _ (List.mem_of_getElem? (i := 108) rfl))) (mvT hZ (hw _ (List.mem_of_getElem? (i := 76) rfl))) (mvT hZ (hw _ (List.mem_of_getElem? (i := 77) rfl))) (mvT hZ (hw _ (List.mem_of_getElem? (i := 78) rfl))) (mvT hZ (hw _ (List.mem_of_getElem? (i := 79) rfl))) (mvT hZ (hw _ (List.mem_of_getElem? (i := 80) rfl))) (mvT hZ (hw _ (List.mem_of_getElem? (i := 81) rfl))) (mvT hZ (hw _ (List.mem_of_getElem? (i := 40) rfl))) (by decide) (backOf (W := 0) (rm19 l Z a0 hw [] b51 (10 : Int32) T79.heap n0 Ea80 Fs80) hZ (hw _ (List.mem_of_getElem? (i := 82) rfl)) (hw _ (List.mem_of_getElem? (i := 2) rfl)) (by decide) (by decide)) q83a q83b q83c (g := (mkF m 152 #[.val (.int p0), .val (.int p1), .val (.ref b51), .val (.int (10 : Int32))] [(.ref b51)])) rfl (by rw [hml]; rfl) (Steps.refl _) (argsL := []) (rest := []) (lenOf pd0_3 rfl) rfl (by show 2 * 0 + _ ≤ _; exact Nat.le_of_eq rfl) (hb hby at_152) (fun _ _ => ⟨rfl, eq82, (by decide : 2 + 0 ≤ _), (by decide : 13 + 0 ≤ _)⟩)
            dsimp only [Pt.U, Pt.locs, Pt.cells, Pt.slots] at X83 l83 y83 z83 st83 hQ83
            subst l83 y83 z83
            obtain ⟨rfl, Nq83, eq83⟩ := hQ83
            have N83 := Fr.app N82 Nq83
            refine own_csR [(.int (10 : Int32))] 157 st83 ?_
            refine own_tp (.int (10 : Int32)) 158 (fun _ q => XS.iloadN X83.here hx rfl (hb hby at_157) rfl q) ?_
            refine own_d2 161 (fun _ q => XS.icmpNo X83.here hx rfl (hb hby at_158) rfl (teq (by decide : (10 : Int32) = (10 : Int32))).2 q) ?_
            refine own_tp (.int (1 : Int32)) 162 (fun _ q => XS.iconst X83.here hx rfl (hb hby at_161) q) ?_
            refine own_d0 166 (fun _ q => XS.goto X83.here hx rfl (pc0 := 162) (pc' := 166) rfl (hb hby at_162) (by decide) (by decide) q) ?_
            exact own_retN (t := .boolean) X83 hx hrt (hb hby at_166) (by simp) hlk (by decide) (by decide) eq83 (⟨rfl, N83⟩)
        ·
          refine own_d1 115 (fun _ q => XS.ifNo X68.here hx rfl (hb hby at_112) rfl ((if0 _ _).trans (feq c70).1) q) ?_
          refine own_tp (.int (1 : Int32)) 116 (fun _ q => XS.iconst X68.here hx rfl (hb hby at_115) q) ?_
          refine own_d0 120 (fun _ q => XS.goto X68.here hx rfl (pc0 := 116) (pc' := 120) rfl (hb hby at_116) (by decide) (by decide) q) ?_
          obtain ⟨_, _, ⟨T84, L84, k84, n84⟩, -, X84, ⟨Lc84, hQ84, l84, y84, z84⟩, st84⟩ := Jvm.LawKit.callS X68 hx (y := (⟨"com/example/kalends/kalends/LengthRequireMadeUpOfPinLaw", "addBlock", "(Ljava/util/List;Z)I"⟩ : MethodName)) hown (mvT hZ (hw _ (List.mem_of_getElem? (i := 26) rfl))) (mvT hZ (hw _ (List.mem_of_getElem? (i := 27) rfl))) (mvT hZ (hw _ (List.mem_of_getElem? (i := 28) rfl))) (mvT hZ (hw _ (List.mem_of_getElem? (i := 29) rfl))) (by decide) (backOf (W := 1) (rm27 l Z a0 hw [] b51 bq65 kq65 (6 : Int32) (6 : Int32) (10 : Int32) [(.ref am), (.ref am), (.ref am), (.ref am), (.ref am), (.ref am), .null, .null, .null, .null] 6 T68.heap n0 O68 ⟨Ea69, Fe69, Fs69, Fg69, Vb69, Ov69, Eb69, ga69, gb69, nab69⟩ ⟨by decide, by decide, rfl, by simp⟩ am aq ay Sm Sq Sy Hm Hq Hy Fm Fq Fy) hZ (hw _ (List.mem_of_getElem? (i := 29) rfl)) (hw _ (List.mem_of_getElem? (i := 28) rfl)) (by decide) (by decide)) (g := (mkF m 120 #[.val (.int p0), .val (.int p1), .val (.ref b51), .val (.int (6 : Int32))] [(.int (1 : Int32)), (.ref b51), (.int (6 : Int32))])) rfl (by rw [hml]; rfl) (argsL := [(.ref b51), (.int (1 : Int32))]) (rest := [(.int (6 : Int32))]) (lenOf pd0_1 rfl) rfl (by show 2 * 0 + _ ≤ _; exact Nat.le_of_eq rfl) (hb hby at_120) (fun _ _ => ⟨rfl, rfl, (by decide : 2 + 0 ≤ _), (by decide : 13 + 0 ≤ _)⟩)
          dsimp only [Pt.U, Pt.locs, Pt.cells, Pt.slots] at X84 l84 y84 z84 st84 hQ84
          subst l84 y84 z84
          obtain ⟨rfl, Nq84, O84, LL84⟩ := hQ84
          have N84 := Fr.app N68 Nq84
          have LM84 : own_L Z n0 T84.heap b51 bq65 kq65 (7 : Int32) (7 : Int32) (10 : Int32) [(.ref am), (.ref am), (.ref am), (.ref am), (.ref am), (.ref am), (.ref aq), .null, .null, .null] := LL84
          obtain ⟨Ea85, Fe85, Fs85, Fg85, Vb85, Ov85, Eb85, ga85, gb85, nab85⟩ := LM84
          refine own_t2 (.int (1 : Int32)) 123 st84 ?_
          refine own_t2 (.int (7 : Int32)) 124 (fun _ q => XS.iadd X84.here hx rfl (hb hby at_123) rfl q) ?_
          refine own_ls #[.val (.int p0), .val (.int p1), .val (.ref b51), .val (.int (7 : Int32))] 125 (fun _ q => XS.istoreN X84.here hx rfl (hb hby at_124) rfl (l' := #[.val (.int p0), .val (.int p1), .val (.ref b51), .val (.int (7 : Int32))]) rfl q) ?_
          refine own_tp (.int (7 : Int32)) 126 (fun _ q => XS.iloadN X84.here hx rfl (hb hby at_125) rfl q) ?_
          refine own_tp (.ref b51) 127 (fun _ q => XS.aloadN X84.here hx rfl (hb hby at_126) rfl rfl q) ?_
          refine own_tp (.int p1) 128 (fun _ q => XS.iloadN X84.here hx rfl (hb hby at_127) rfl q) ?_
          refine own_tp (.int (8 : Int32)) 130 (fun _ q => XS.bipush X84.here hx rfl (hb hby at_128) q) ?_
          refine own_t2 (.int (p1 &&& (8 : Int32))) 131 (fun _ q => XS.iand X84.here hx rfl (hb hby at_130) rfl q) ?_
          by_cases c86 : (p1 &&& (8 : Int32)) = (0 : Int32)
          ·
            refine own_d1 138 (fun _ q => XS.ifYes X84.here hx rfl (pc0 := 131) (pc' := 138) rfl (hb hby at_131) rfl ((if0 _ _).trans (teq c86).1) (by decide) (by decide) q) ?_
            refine own_tp (.int (0 : Int32)) 139 (fun _ q => XS.iconst X84.here hx rfl (hb hby at_138) q) ?_
            obtain ⟨_, _, ⟨T87, L87, k87, n87⟩, -, X87, ⟨Lc87, hQ87, l87, y87, z87⟩, st87⟩ := Jvm.LawKit.callS X84 hx (y := (⟨"com/example/kalends/kalends/LengthRequireMadeUpOfPinLaw", "addBlock", "(Ljava/util/List;Z)I"⟩ : MethodName)) hown (mvT hZ (hw _ (List.mem_of_getElem? (i := 26) rfl))) (mvT hZ (hw _ (List.mem_of_getElem? (i := 27) rfl))) (mvT hZ (hw _ (List.mem_of_getElem? (i := 28) rfl))) (mvT hZ (hw _ (List.mem_of_getElem? (i := 29) rfl))) (by decide) (backOf (W := 1) (rm28 l Z a0 hw [] b51 bq65 kq65 (7 : Int32) (7 : Int32) (10 : Int32) [(.ref am), (.ref am), (.ref am), (.ref am), (.ref am), (.ref am), (.ref aq), .null, .null, .null] 7 T84.heap n0 O84 ⟨Ea85, Fe85, Fs85, Fg85, Vb85, Ov85, Eb85, ga85, gb85, nab85⟩ ⟨by decide, by decide, rfl, by simp⟩ ⟨by decide, by decide, rfl, by simp⟩ ⟨by decide, by decide, rfl, by simp⟩ am aq ay Sm Sq Sy Hm Hq Hy Fm Fq Fy) hZ (hw _ (List.mem_of_getElem? (i := 29) rfl)) (hw _ (List.mem_of_getElem? (i := 28) rfl)) (by decide) (by decide)) (g := (mkF m 139 #[.val (.int p0), .val (.int p1), .val (.ref b51), .val (.int (7 : Int32))] [(.int (0 : Int32)), (.ref b51), (.int (7 : Int32))])) rfl (by rw [hml]; rfl) (argsL := [(.ref b51), (.int (0 : Int32))]) (rest := [(.int (7 : Int32))]) (lenOf pd0_1 rfl) rfl (by show 2 * 0 + _ ≤ _; exact Nat.le_of_eq rfl) (hb hby at_139) (fun _ _ => ⟨rfl, rfl, (by decide : 2 + 0 ≤ _), (by decide : 13 + 0 ≤ _)⟩)
            dsimp only [Pt.U, Pt.locs, Pt.cells, Pt.slots] at X87 l87 y87 z87 st87 hQ87
            subst l87 y87 z87
            obtain ⟨rfl, Nq87, O87, LL87⟩ := hQ87
            have N87 := Fr.app N84 Nq87
            have LM87 : own_L Z n0 T87.heap b51 bq65 kq65 (10 : Int32) (10 : Int32) (10 : Int32) [(.ref am), (.ref am), (.ref am), (.ref am), (.ref am), (.ref am), (.ref aq), (.ref am), (.ref am), (.ref am)] := LL87
            obtain ⟨Ea88, Fe88, Fs88, Fg88, Vb88, Ov88, Eb88, ga88, gb88, nab88⟩ := LM87
            refine own_t2 (.int (3 : Int32)) 142 st87 ?_
            refine own_t2 (.int (10 : Int32)) 143 (fun _ q => XS.iadd X87.here hx rfl (hb hby at_142) rfl q) ?_
            refine own_ls #[.val (.int p0), .val (.int p1), .val (.ref b51), .val (.int (10 : Int32))] 144 (fun _ q => XS.istoreN X87.here hx rfl (hb hby at_143) rfl (l' := #[.val (.int p0), .val (.int p1), .val (.ref b51), .val (.int (10 : Int32))]) rfl q) ?_
            obtain ⟨T89, X89, e89, st89⟩ := getS2 X87 hx hZ hown (host := "") (Or.inl (hw _ (List.mem_of_getElem? (i := 110) rfl))) Via.refl rfl (Sy.ext O87.2) (g := (mkF m 144 #[.val (.int p0), .val (.int p1), .val (.ref b51), .val (.int (10 : Int32))] [])) rfl (hb hby at_144)
            refine own_tp (.ref ay) 147 st89 ?_
            refine own_tp (.ref b51) 148 (fun _ q => XS.aloadN X89.here hx rfl (hb hby at_147) rfl rfl q) ?_
            obtain ⟨cq90, kq90, q90a, q90b, q90c⟩ := isOf hZ e89 (Hy.ext O87.2)
            obtain ⟨_, _, ⟨T90, L90, k90, n90⟩, -, X90, ⟨Lc90, hQ90, l90, y90, z90⟩, st90⟩ := X89.virtualBack hx (y := (⟨"com/example/kalends/kalends/ContractPeriod$Length", "requireMadeUpOf", "(Ljava/util/List;)V"⟩ : MethodName)) (z := (⟨"com/example/kalends/kalends/ContractPeriod$Length", "requireMadeUpOf", "(Ljava/util/List;)V"⟩ : MethodName)) hown (mvT hZ (hw _ (List.mem_of_getElem? (i := 70) rfl))) (mvT hZ (hw _ (List.mem_of_getElem? (i := 71) rfl))) (notFace_of_selects (args := #[]) (mvT hZ (hw _ (List.mem_of_getElem? (i := 73) rfl)))) (mvT hZ (hw _ (List.mem_of_getElem? (i := 73) rfl))) (mvT hZ (hw _ (List.mem_of_getElem? (i := 72) rfl))) (by decide) (backOf (W := 0) (rm24 l Z a0 hw [] ay b51 bq65 kq65 (10 : Int32) (10 : Int32) (10 : Int32) (12 : Int32) [(.ref am), (.ref am), (.ref am), (.ref am), (.ref am), (.ref am), (.ref aq), (.ref am), (.ref am), (.ref am)] [] [false, false, false, false, false, false, true, false, false, false] T87.heap n0 O87 ⟨Ea88, Fe88, Fs88, Fg88, Vb88, Ov88, Eb88, ga88, gb88, nab88⟩ am aq ay Sm Sq Sy Hm Hq Hy Fm Fq Fy Hy Fy rfl (by decide) (by decide) (by decide +kernel)) hZ (hw _ (List.mem_of_getElem? (i := 74) rfl)) (hw _ (List.mem_of_getElem? (i := 31) rfl)) (by decide) (by decide)) q90a q90c (g := (mkF m 148 #[.val (.int p0), .val (.int p1), .val (.ref b51), .val (.int (10 : Int32))] [(.ref b51), (.ref ay)])) rfl (by rw [hml]; rfl) (Steps.refl _) (argsL := [(.ref b51)]) (rest := []) (lenOf pd0_2 rfl) rfl (by show 2 * 0 + _ ≤ _; exact Nat.le_of_eq rfl) (hb hby at_148) (fun _ _ => ⟨rfl, e89, (by decide : 2 + 0 ≤ _), (by decide : 13 + 0 ≤ _)⟩)
            dsimp only [Pt.U, Pt.locs, Pt.cells, Pt.slots] at X90 l90 y90 z90 st90 hQ90
            subst l90 y90 z90
            obtain ⟨rfl, Nq90, eq90⟩ := hQ90
            have N90 := Fr.app N87 Nq90
            refine own_csR [] 151 st90 ?_
            refine own_tp (.ref b51) 152 (fun _ q => XS.aloadN X90.here hx rfl (hb hby at_151) rfl rfl q) ?_
            obtain ⟨cq91, kq91, q91a, q91b, q91c⟩ := isOf hZ eq90 Ea88
            obtain ⟨_, _, ⟨T91, L91, k91, n91⟩, -, X91, ⟨Lc91, hQ91, l91, y91, z91⟩, st91⟩ := X90.interfaceBack hx (xi := (⟨"java/util/List", "size", "()I"⟩ : MethodName)) (y := (⟨"java/util/ArrayList", "size", "()I"⟩ : MethodName)) hown (mvT hZ (hw _ (List.mem_of_getElem? (i := 108) rfl))) (mvT hZ (hw _ (List.mem_of_getElem? (i := 76) rfl))) (mvT hZ (hw _ (List.mem_of_getElem? (i := 77) rfl))) (mvT hZ (hw _ (List.mem_of_getElem? (i := 78) rfl))) (mvT hZ (hw _ (List.mem_of_getElem? (i := 79) rfl))) (mvT hZ (hw _ (List.mem_of_getElem? (i := 80) rfl))) (mvT hZ (hw _ (List.mem_of_getElem? (i := 81) rfl))) (mvT hZ (hw _ (List.mem_of_getElem? (i := 40) rfl))) (by decide) (backOf (W := 0) (rm19 l Z a0 hw [] b51 (10 : Int32) T87.heap n0 Ea88 Fs88) hZ (hw _ (List.mem_of_getElem? (i := 82) rfl)) (hw _ (List.mem_of_getElem? (i := 2) rfl)) (by decide) (by decide)) q91a q91b q91c (g := (mkF m 152 #[.val (.int p0), .val (.int p1), .val (.ref b51), .val (.int (10 : Int32))] [(.ref b51)])) rfl (by rw [hml]; rfl) (Steps.refl _) (argsL := []) (rest := []) (lenOf pd0_3 rfl) rfl (by show 2 * 0 + _ ≤ _; exact Nat.le_of_eq rfl) (hb hby at_152) (fun _ _ => ⟨rfl, eq90, (by decide : 2 + 0 ≤ _), (by decide : 13 + 0 ≤ _)⟩)
            dsimp only [Pt.U, Pt.locs, Pt.cells, Pt.slots] at X91 l91 y91 z91 st91 hQ91
            subst l91 y91 z91
            obtain ⟨rfl, Nq91, eq91⟩ := hQ91
            have N91 := Fr.app N90 Nq91
            refine own_csR [(.int (10 : Int32))] 157 st91 ?_
            refine own_tp (.int (10 : Int32)) 158 (fun _ q => XS.iloadN X91.here hx rfl (hb hby at_157) rfl q) ?_
            refine own_d2 161 (fun _ q => XS.icmpNo X91.here hx rfl (hb hby at_158) rfl (teq (by decide : (10 : Int32) = (10 : Int32))).2 q) ?_
            refine own_tp (.int (1 : Int32)) 162 (fun _ q => XS.iconst X91.here hx rfl (hb hby at_161) q) ?_
            refine own_d0 166 (fun _ q => XS.goto X91.here hx rfl (pc0 := 162) (pc' := 166) rfl (hb hby at_162) (by decide) (by decide) q) ?_
            exact own_retN (t := .boolean) X91 hx hrt (hb hby at_166) (by simp) hlk (by decide) (by decide) eq91 (⟨rfl, N91⟩)
          ·
            refine own_d1 134 (fun _ q => XS.ifNo X84.here hx rfl (hb hby at_131) rfl ((if0 _ _).trans (feq c86).1) q) ?_
            refine own_tp (.int (1 : Int32)) 135 (fun _ q => XS.iconst X84.here hx rfl (hb hby at_134) q) ?_
            refine own_d0 139 (fun _ q => XS.goto X84.here hx rfl (pc0 := 135) (pc' := 139) rfl (hb hby at_135) (by decide) (by decide) q) ?_
            obtain ⟨_, _, ⟨T92, L92, k92, n92⟩, -, X92, ⟨Lc92, hQ92, l92, y92, z92⟩, st92⟩ := Jvm.LawKit.callS X84 hx (y := (⟨"com/example/kalends/kalends/LengthRequireMadeUpOfPinLaw", "addBlock", "(Ljava/util/List;Z)I"⟩ : MethodName)) hown (mvT hZ (hw _ (List.mem_of_getElem? (i := 26) rfl))) (mvT hZ (hw _ (List.mem_of_getElem? (i := 27) rfl))) (mvT hZ (hw _ (List.mem_of_getElem? (i := 28) rfl))) (mvT hZ (hw _ (List.mem_of_getElem? (i := 29) rfl))) (by decide) (backOf (W := 1) (rm27 l Z a0 hw [] b51 bq65 kq65 (7 : Int32) (7 : Int32) (10 : Int32) [(.ref am), (.ref am), (.ref am), (.ref am), (.ref am), (.ref am), (.ref aq), .null, .null, .null] 7 T84.heap n0 O84 ⟨Ea85, Fe85, Fs85, Fg85, Vb85, Ov85, Eb85, ga85, gb85, nab85⟩ ⟨by decide, by decide, rfl, by simp⟩ am aq ay Sm Sq Sy Hm Hq Hy Fm Fq Fy) hZ (hw _ (List.mem_of_getElem? (i := 29) rfl)) (hw _ (List.mem_of_getElem? (i := 28) rfl)) (by decide) (by decide)) (g := (mkF m 139 #[.val (.int p0), .val (.int p1), .val (.ref b51), .val (.int (7 : Int32))] [(.int (1 : Int32)), (.ref b51), (.int (7 : Int32))])) rfl (by rw [hml]; rfl) (argsL := [(.ref b51), (.int (1 : Int32))]) (rest := [(.int (7 : Int32))]) (lenOf pd0_1 rfl) rfl (by show 2 * 0 + _ ≤ _; exact Nat.le_of_eq rfl) (hb hby at_139) (fun _ _ => ⟨rfl, rfl, (by decide : 2 + 0 ≤ _), (by decide : 13 + 0 ≤ _)⟩)
            dsimp only [Pt.U, Pt.locs, Pt.cells, Pt.slots] at X92 l92 y92 z92 st92 hQ92
            subst l92 y92 z92
            obtain ⟨rfl, Nq92, O92, LL92⟩ := hQ92
            have N92 := Fr.app N84 Nq92
            have LM92 : own_L Z n0 T92.heap b51 bq65 kq65 (8 : Int32) (8 : Int32) (10 : Int32) [(.ref am), (.ref am), (.ref am), (.ref am), (.ref am), (.ref am), (.ref aq), (.ref aq), .null, .null] := LL92
            obtain ⟨Ea93, Fe93, Fs93, Fg93, Vb93, Ov93, Eb93, ga93, gb93, nab93⟩ := LM92
            refine own_t2 (.int (1 : Int32)) 142 st92 ?_
            refine own_t2 (.int (8 : Int32)) 143 (fun _ q => XS.iadd X92.here hx rfl (hb hby at_142) rfl q) ?_
            refine own_ls #[.val (.int p0), .val (.int p1), .val (.ref b51), .val (.int (8 : Int32))] 144 (fun _ q => XS.istoreN X92.here hx rfl (hb hby at_143) rfl (l' := #[.val (.int p0), .val (.int p1), .val (.ref b51), .val (.int (8 : Int32))]) rfl q) ?_
            obtain ⟨T94, X94, e94, st94⟩ := getS2 X92 hx hZ hown (host := "") (Or.inl (hw _ (List.mem_of_getElem? (i := 110) rfl))) Via.refl rfl (Sy.ext O92.2) (g := (mkF m 144 #[.val (.int p0), .val (.int p1), .val (.ref b51), .val (.int (8 : Int32))] [])) rfl (hb hby at_144)
            refine own_tp (.ref ay) 147 st94 ?_
            refine own_tp (.ref b51) 148 (fun _ q => XS.aloadN X94.here hx rfl (hb hby at_147) rfl rfl q) ?_
            obtain ⟨cq95, kq95, q95a, q95b, q95c⟩ := isOf hZ e94 (Hy.ext O92.2)
            obtain ⟨_, _, ⟨T95, L95, k95, n95⟩, -, X95, ⟨Lc95, hQ95, l95, y95, z95⟩, st95⟩ := X94.virtualBack hx (y := (⟨"com/example/kalends/kalends/ContractPeriod$Length", "requireMadeUpOf", "(Ljava/util/List;)V"⟩ : MethodName)) (z := (⟨"com/example/kalends/kalends/ContractPeriod$Length", "requireMadeUpOf", "(Ljava/util/List;)V"⟩ : MethodName)) hown (mvT hZ (hw _ (List.mem_of_getElem? (i := 70) rfl))) (mvT hZ (hw _ (List.mem_of_getElem? (i := 71) rfl))) (notFace_of_selects (args := #[]) (mvT hZ (hw _ (List.mem_of_getElem? (i := 73) rfl)))) (mvT hZ (hw _ (List.mem_of_getElem? (i := 73) rfl))) (mvT hZ (hw _ (List.mem_of_getElem? (i := 72) rfl))) (by decide) (backOf (W := 0) (rm24 l Z a0 hw [] ay b51 bq65 kq65 (8 : Int32) (8 : Int32) (10 : Int32) (12 : Int32) [(.ref am), (.ref am), (.ref am), (.ref am), (.ref am), (.ref am), (.ref aq), (.ref aq), .null, .null] [.null, .null] [false, false, false, false, false, false, true, true] T92.heap n0 O92 ⟨Ea93, Fe93, Fs93, Fg93, Vb93, Ov93, Eb93, ga93, gb93, nab93⟩ am aq ay Sm Sq Sy Hm Hq Hy Fm Fq Fy Hy Fy rfl (by decide) (by decide) (by decide +kernel)) hZ (hw _ (List.mem_of_getElem? (i := 74) rfl)) (hw _ (List.mem_of_getElem? (i := 31) rfl)) (by decide) (by decide)) q95a q95c (g := (mkF m 148 #[.val (.int p0), .val (.int p1), .val (.ref b51), .val (.int (8 : Int32))] [(.ref b51), (.ref ay)])) rfl (by rw [hml]; rfl) (Steps.refl _) (argsL := [(.ref b51)]) (rest := []) (lenOf pd0_2 rfl) rfl (by show 2 * 0 + _ ≤ _; exact Nat.le_of_eq rfl) (hb hby at_148) (fun _ _ => ⟨rfl, e94, (by decide : 2 + 0 ≤ _), (by decide : 13 + 0 ≤ _)⟩)
            dsimp only [Pt.U, Pt.locs, Pt.cells, Pt.slots] at X95 l95 y95 z95 st95 hQ95
            subst l95 y95 z95
            obtain ⟨rfl, Nq95, eq95⟩ := hQ95
            have N95 := Fr.app N92 Nq95
            refine own_csR [] 151 st95 ?_
            refine own_tp (.ref b51) 152 (fun _ q => XS.aloadN X95.here hx rfl (hb hby at_151) rfl rfl q) ?_
            obtain ⟨cq96, kq96, q96a, q96b, q96c⟩ := isOf hZ eq95 Ea93
            obtain ⟨_, _, ⟨T96, L96, k96, n96⟩, -, X96, ⟨Lc96, hQ96, l96, y96, z96⟩, st96⟩ := X95.interfaceBack hx (xi := (⟨"java/util/List", "size", "()I"⟩ : MethodName)) (y := (⟨"java/util/ArrayList", "size", "()I"⟩ : MethodName)) hown (mvT hZ (hw _ (List.mem_of_getElem? (i := 108) rfl))) (mvT hZ (hw _ (List.mem_of_getElem? (i := 76) rfl))) (mvT hZ (hw _ (List.mem_of_getElem? (i := 77) rfl))) (mvT hZ (hw _ (List.mem_of_getElem? (i := 78) rfl))) (mvT hZ (hw _ (List.mem_of_getElem? (i := 79) rfl))) (mvT hZ (hw _ (List.mem_of_getElem? (i := 80) rfl))) (mvT hZ (hw _ (List.mem_of_getElem? (i := 81) rfl))) (mvT hZ (hw _ (List.mem_of_getElem? (i := 40) rfl))) (by decide) (backOf (W := 0) (rm19 l Z a0 hw [] b51 (8 : Int32) T92.heap n0 Ea93 Fs93) hZ (hw _ (List.mem_of_getElem? (i := 82) rfl)) (hw _ (List.mem_of_getElem? (i := 2) rfl)) (by decide) (by decide)) q96a q96b q96c (g := (mkF m 152 #[.val (.int p0), .val (.int p1), .val (.ref b51), .val (.int (8 : Int32))] [(.ref b51)])) rfl (by rw [hml]; rfl) (Steps.refl _) (argsL := []) (rest := []) (lenOf pd0_3 rfl) rfl (by show 2 * 0 + _ ≤ _; exact Nat.le_of_eq rfl) (hb hby at_152) (fun _ _ => ⟨rfl, eq95, (by decide : 2 + 0 ≤ _), (by decide : 13 + 0 ≤ _)⟩)
            dsimp only [Pt.U, Pt.locs, Pt.cells, Pt.slots] at X96 l96 y96 z96 st96 hQ96
            subst l96 y96 z96
            obtain ⟨rfl, Nq96, eq96⟩ := hQ96
            have N96 := Fr.app N95 Nq96
            refine own_csR [(.int (8 : Int32))] 157 st96 ?_
            refine own_tp (.int (8 : Int32)) 158 (fun _ q => XS.iloadN X96.here hx rfl (hb hby at_157) rfl q) ?_
            refine own_d2 161 (fun _ q => XS.icmpNo X96.here hx rfl (hb hby at_158) rfl (teq (by decide : (8 : Int32) = (8 : Int32))).2 q) ?_
            refine own_tp (.int (1 : Int32)) 162 (fun _ q => XS.iconst X96.here hx rfl (hb hby at_161) q) ?_
            refine own_d0 166 (fun _ q => XS.goto X96.here hx rfl (pc0 := 162) (pc' := 166) rfl (hb hby at_162) (by decide) (by decide) q) ?_
            exact own_retN (t := .boolean) X96 hx hrt (hb hby at_166) (by simp) hlk (by decide) (by decide) eq96 (⟨rfl, N96⟩)
      ·
        refine own_d1 97 (fun _ q => XS.ifNo X65.here hx rfl (hb hby at_94) rfl ((if0 _ _).trans (feq c67).1) q) ?_
        refine own_tp (.int (1 : Int32)) 98 (fun _ q => XS.iconst X65.here hx rfl (hb hby at_97) q) ?_
        refine own_d0 102 (fun _ q => XS.goto X65.here hx rfl (pc0 := 98) (pc' := 102) rfl (hb hby at_98) (by decide) (by decide) q) ?_
        obtain ⟨_, _, ⟨T97, L97, k97, n97⟩, -, X97, ⟨Lc97, hQ97, l97, y97, z97⟩, st97⟩ := Jvm.LawKit.callS X65 hx (y := (⟨"com/example/kalends/kalends/LengthRequireMadeUpOfPinLaw", "addBlock", "(Ljava/util/List;Z)I"⟩ : MethodName)) hown (mvT hZ (hw _ (List.mem_of_getElem? (i := 26) rfl))) (mvT hZ (hw _ (List.mem_of_getElem? (i := 27) rfl))) (mvT hZ (hw _ (List.mem_of_getElem? (i := 28) rfl))) (mvT hZ (hw _ (List.mem_of_getElem? (i := 29) rfl))) (by decide) (backOf (W := 1) (rm27 l Z a0 hw [] b51 bq65 kq65 (3 : Int32) (3 : Int32) (10 : Int32) [(.ref am), (.ref am), (.ref am), .null, .null, .null, .null, .null, .null, .null] 3 T65.heap n0 O65 ⟨Ea66, Fe66, Fs66, Fg66, Vb66, Ov66, Eb66, ga66, gb66, nab66⟩ ⟨by decide, by decide, rfl, by simp⟩ am aq ay Sm Sq Sy Hm Hq Hy Fm Fq Fy) hZ (hw _ (List.mem_of_getElem? (i := 29) rfl)) (hw _ (List.mem_of_getElem? (i := 28) rfl)) (by decide) (by decide)) (g := (mkF m 102 #[.val (.int p0), .val (.int p1), .val (.ref b51), .val (.int (3 : Int32))] [(.int (1 : Int32)), (.ref b51), (.int (3 : Int32))])) rfl (by rw [hml]; rfl) (argsL := [(.ref b51), (.int (1 : Int32))]) (rest := [(.int (3 : Int32))]) (lenOf pd0_1 rfl) rfl (by show 2 * 0 + _ ≤ _; exact Nat.le_of_eq rfl) (hb hby at_102) (fun _ _ => ⟨rfl, rfl, (by decide : 2 + 0 ≤ _), (by decide : 13 + 0 ≤ _)⟩)
        dsimp only [Pt.U, Pt.locs, Pt.cells, Pt.slots] at X97 l97 y97 z97 st97 hQ97
        subst l97 y97 z97
        obtain ⟨rfl, Nq97, O97, LL97⟩ := hQ97
        have N97 := Fr.app N65 Nq97
        have LM97 : own_L Z n0 T97.heap b51 bq65 kq65 (4 : Int32) (4 : Int32) (10 : Int32) [(.ref am), (.ref am), (.ref am), (.ref aq), .null, .null, .null, .null, .null, .null] := LL97
        obtain ⟨Ea98, Fe98, Fs98, Fg98, Vb98, Ov98, Eb98, ga98, gb98, nab98⟩ := LM97
        refine own_t2 (.int (1 : Int32)) 105 st97 ?_
        refine own_t2 (.int (4 : Int32)) 106 (fun _ q => XS.iadd X97.here hx rfl (hb hby at_105) rfl q) ?_
        refine own_ls #[.val (.int p0), .val (.int p1), .val (.ref b51), .val (.int (4 : Int32))] 107 (fun _ q => XS.istoreN X97.here hx rfl (hb hby at_106) rfl (l' := #[.val (.int p0), .val (.int p1), .val (.ref b51), .val (.int (4 : Int32))]) rfl q) ?_
        refine own_tp (.int (4 : Int32)) 108 (fun _ q => XS.iloadN X97.here hx rfl (hb hby at_107) rfl q) ?_
        refine own_tp (.ref b51) 109 (fun _ q => XS.aloadN X97.here hx rfl (hb hby at_108) rfl rfl q) ?_
        refine own_tp (.int p1) 110 (fun _ q => XS.iloadN X97.here hx rfl (hb hby at_109) rfl q) ?_
        refine own_tp (.int (4 : Int32)) 111 (fun _ q => XS.iconst X97.here hx rfl (hb hby at_110) q) ?_
        refine own_t2 (.int (p1 &&& (4 : Int32))) 112 (fun _ q => XS.iand X97.here hx rfl (hb hby at_111) rfl q) ?_
        by_cases c99 : (p1 &&& (4 : Int32)) = (0 : Int32)
        ·
          refine own_d1 119 (fun _ q => XS.ifYes X97.here hx rfl (pc0 := 112) (pc' := 119) rfl (hb hby at_112) rfl ((if0 _ _).trans (teq c99).1) (by decide) (by decide) q) ?_
          refine own_tp (.int (0 : Int32)) 120 (fun _ q => XS.iconst X97.here hx rfl (hb hby at_119) q) ?_
          obtain ⟨_, _, ⟨T100, L100, k100, n100⟩, -, X100, ⟨Lc100, hQ100, l100, y100, z100⟩, st100⟩ := Jvm.LawKit.callS X97 hx (y := (⟨"com/example/kalends/kalends/LengthRequireMadeUpOfPinLaw", "addBlock", "(Ljava/util/List;Z)I"⟩ : MethodName)) hown (mvT hZ (hw _ (List.mem_of_getElem? (i := 26) rfl))) (mvT hZ (hw _ (List.mem_of_getElem? (i := 27) rfl))) (mvT hZ (hw _ (List.mem_of_getElem? (i := 28) rfl))) (mvT hZ (hw _ (List.mem_of_getElem? (i := 29) rfl))) (by decide) (backOf (W := 1) (rm28 l Z a0 hw [] b51 bq65 kq65 (4 : Int32) (4 : Int32) (10 : Int32) [(.ref am), (.ref am), (.ref am), (.ref aq), .null, .null, .null, .null, .null, .null] 4 T97.heap n0 O97 ⟨Ea98, Fe98, Fs98, Fg98, Vb98, Ov98, Eb98, ga98, gb98, nab98⟩ ⟨by decide, by decide, rfl, by simp⟩ ⟨by decide, by decide, rfl, by simp⟩ ⟨by decide, by decide, rfl, by simp⟩ am aq ay Sm Sq Sy Hm Hq Hy Fm Fq Fy) hZ (hw _ (List.mem_of_getElem? (i := 29) rfl)) (hw _ (List.mem_of_getElem? (i := 28) rfl)) (by decide) (by decide)) (g := (mkF m 120 #[.val (.int p0), .val (.int p1), .val (.ref b51), .val (.int (4 : Int32))] [(.int (0 : Int32)), (.ref b51), (.int (4 : Int32))])) rfl (by rw [hml]; rfl) (argsL := [(.ref b51), (.int (0 : Int32))]) (rest := [(.int (4 : Int32))]) (lenOf pd0_1 rfl) rfl (by show 2 * 0 + _ ≤ _; exact Nat.le_of_eq rfl) (hb hby at_120) (fun _ _ => ⟨rfl, rfl, (by decide : 2 + 0 ≤ _), (by decide : 13 + 0 ≤ _)⟩)
          dsimp only [Pt.U, Pt.locs, Pt.cells, Pt.slots] at X100 l100 y100 z100 st100 hQ100
          subst l100 y100 z100
          obtain ⟨rfl, Nq100, O100, LL100⟩ := hQ100
          have N100 := Fr.app N97 Nq100
          have LM100 : own_L Z n0 T100.heap b51 bq65 kq65 (7 : Int32) (7 : Int32) (10 : Int32) [(.ref am), (.ref am), (.ref am), (.ref aq), (.ref am), (.ref am), (.ref am), .null, .null, .null] := LL100
          obtain ⟨Ea101, Fe101, Fs101, Fg101, Vb101, Ov101, Eb101, ga101, gb101, nab101⟩ := LM100
          refine own_t2 (.int (3 : Int32)) 123 st100 ?_
          refine own_t2 (.int (7 : Int32)) 124 (fun _ q => XS.iadd X100.here hx rfl (hb hby at_123) rfl q) ?_
          refine own_ls #[.val (.int p0), .val (.int p1), .val (.ref b51), .val (.int (7 : Int32))] 125 (fun _ q => XS.istoreN X100.here hx rfl (hb hby at_124) rfl (l' := #[.val (.int p0), .val (.int p1), .val (.ref b51), .val (.int (7 : Int32))]) rfl q) ?_
          refine own_tp (.int (7 : Int32)) 126 (fun _ q => XS.iloadN X100.here hx rfl (hb hby at_125) rfl q) ?_
          refine own_tp (.ref b51) 127 (fun _ q => XS.aloadN X100.here hx rfl (hb hby at_126) rfl rfl q) ?_
          refine own_tp (.int p1) 128 (fun _ q => XS.iloadN X100.here hx rfl (hb hby at_127) rfl q) ?_
          refine own_tp (.int (8 : Int32)) 130 (fun _ q => XS.bipush X100.here hx rfl (hb hby at_128) q) ?_
          refine own_t2 (.int (p1 &&& (8 : Int32))) 131 (fun _ q => XS.iand X100.here hx rfl (hb hby at_130) rfl q) ?_
          by_cases c102 : (p1 &&& (8 : Int32)) = (0 : Int32)
          ·
            refine own_d1 138 (fun _ q => XS.ifYes X100.here hx rfl (pc0 := 131) (pc' := 138) rfl (hb hby at_131) rfl ((if0 _ _).trans (teq c102).1) (by decide) (by decide) q) ?_
            refine own_tp (.int (0 : Int32)) 139 (fun _ q => XS.iconst X100.here hx rfl (hb hby at_138) q) ?_
            obtain ⟨_, _, ⟨T103, L103, k103, n103⟩, -, X103, ⟨Lc103, hQ103, l103, y103, z103⟩, st103⟩ := Jvm.LawKit.callS X100 hx (y := (⟨"com/example/kalends/kalends/LengthRequireMadeUpOfPinLaw", "addBlock", "(Ljava/util/List;Z)I"⟩ : MethodName)) hown (mvT hZ (hw _ (List.mem_of_getElem? (i := 26) rfl))) (mvT hZ (hw _ (List.mem_of_getElem? (i := 27) rfl))) (mvT hZ (hw _ (List.mem_of_getElem? (i := 28) rfl))) (mvT hZ (hw _ (List.mem_of_getElem? (i := 29) rfl))) (by decide) (backOf (W := 1) (rm28 l Z a0 hw [] b51 bq65 kq65 (7 : Int32) (7 : Int32) (10 : Int32) [(.ref am), (.ref am), (.ref am), (.ref aq), (.ref am), (.ref am), (.ref am), .null, .null, .null] 7 T100.heap n0 O100 ⟨Ea101, Fe101, Fs101, Fg101, Vb101, Ov101, Eb101, ga101, gb101, nab101⟩ ⟨by decide, by decide, rfl, by simp⟩ ⟨by decide, by decide, rfl, by simp⟩ ⟨by decide, by decide, rfl, by simp⟩ am aq ay Sm Sq Sy Hm Hq Hy Fm Fq Fy) hZ (hw _ (List.mem_of_getElem? (i := 29) rfl)) (hw _ (List.mem_of_getElem? (i := 28) rfl)) (by decide) (by decide)) (g := (mkF m 139 #[.val (.int p0), .val (.int p1), .val (.ref b51), .val (.int (7 : Int32))] [(.int (0 : Int32)), (.ref b51), (.int (7 : Int32))])) rfl (by rw [hml]; rfl) (argsL := [(.ref b51), (.int (0 : Int32))]) (rest := [(.int (7 : Int32))]) (lenOf pd0_1 rfl) rfl (by show 2 * 0 + _ ≤ _; exact Nat.le_of_eq rfl) (hb hby at_139) (fun _ _ => ⟨rfl, rfl, (by decide : 2 + 0 ≤ _), (by decide : 13 + 0 ≤ _)⟩)
            dsimp only [Pt.U, Pt.locs, Pt.cells, Pt.slots] at X103 l103 y103 z103 st103 hQ103
            subst l103 y103 z103
            obtain ⟨rfl, Nq103, O103, LL103⟩ := hQ103
            have N103 := Fr.app N100 Nq103
            have LM103 : own_L Z n0 T103.heap b51 bq65 kq65 (10 : Int32) (10 : Int32) (10 : Int32) [(.ref am), (.ref am), (.ref am), (.ref aq), (.ref am), (.ref am), (.ref am), (.ref am), (.ref am), (.ref am)] := LL103
            obtain ⟨Ea104, Fe104, Fs104, Fg104, Vb104, Ov104, Eb104, ga104, gb104, nab104⟩ := LM103
            refine own_t2 (.int (3 : Int32)) 142 st103 ?_
            refine own_t2 (.int (10 : Int32)) 143 (fun _ q => XS.iadd X103.here hx rfl (hb hby at_142) rfl q) ?_
            refine own_ls #[.val (.int p0), .val (.int p1), .val (.ref b51), .val (.int (10 : Int32))] 144 (fun _ q => XS.istoreN X103.here hx rfl (hb hby at_143) rfl (l' := #[.val (.int p0), .val (.int p1), .val (.ref b51), .val (.int (10 : Int32))]) rfl q) ?_
            obtain ⟨T105, X105, e105, st105⟩ := getS2 X103 hx hZ hown (host := "") (Or.inl (hw _ (List.mem_of_getElem? (i := 110) rfl))) Via.refl rfl (Sy.ext O103.2) (g := (mkF m 144 #[.val (.int p0), .val (.int p1), .val (.ref b51), .val (.int (10 : Int32))] [])) rfl (hb hby at_144)
            refine own_tp (.ref ay) 147 st105 ?_
            refine own_tp (.ref b51) 148 (fun _ q => XS.aloadN X105.here hx rfl (hb hby at_147) rfl rfl q) ?_
            obtain ⟨cq106, kq106, q106a, q106b, q106c⟩ := isOf hZ e105 (Hy.ext O103.2)
            obtain ⟨_, _, ⟨T106, L106, k106, n106⟩, -, X106, ⟨Lc106, hQ106, l106, y106, z106⟩, st106⟩ := X105.virtualBack hx (y := (⟨"com/example/kalends/kalends/ContractPeriod$Length", "requireMadeUpOf", "(Ljava/util/List;)V"⟩ : MethodName)) (z := (⟨"com/example/kalends/kalends/ContractPeriod$Length", "requireMadeUpOf", "(Ljava/util/List;)V"⟩ : MethodName)) hown (mvT hZ (hw _ (List.mem_of_getElem? (i := 70) rfl))) (mvT hZ (hw _ (List.mem_of_getElem? (i := 71) rfl))) (notFace_of_selects (args := #[]) (mvT hZ (hw _ (List.mem_of_getElem? (i := 73) rfl)))) (mvT hZ (hw _ (List.mem_of_getElem? (i := 73) rfl))) (mvT hZ (hw _ (List.mem_of_getElem? (i := 72) rfl))) (by decide) (backOf (W := 0) (rm24 l Z a0 hw [] ay b51 bq65 kq65 (10 : Int32) (10 : Int32) (10 : Int32) (12 : Int32) [(.ref am), (.ref am), (.ref am), (.ref aq), (.ref am), (.ref am), (.ref am), (.ref am), (.ref am), (.ref am)] [] [false, false, false, true, false, false, false, false, false, false] T103.heap n0 O103 ⟨Ea104, Fe104, Fs104, Fg104, Vb104, Ov104, Eb104, ga104, gb104, nab104⟩ am aq ay Sm Sq Sy Hm Hq Hy Fm Fq Fy Hy Fy rfl (by decide) (by decide) (by decide +kernel)) hZ (hw _ (List.mem_of_getElem? (i := 74) rfl)) (hw _ (List.mem_of_getElem? (i := 31) rfl)) (by decide) (by decide)) q106a q106c (g := (mkF m 148 #[.val (.int p0), .val (.int p1), .val (.ref b51), .val (.int (10 : Int32))] [(.ref b51), (.ref ay)])) rfl (by rw [hml]; rfl) (Steps.refl _) (argsL := [(.ref b51)]) (rest := []) (lenOf pd0_2 rfl) rfl (by show 2 * 0 + _ ≤ _; exact Nat.le_of_eq rfl) (hb hby at_148) (fun _ _ => ⟨rfl, e105, (by decide : 2 + 0 ≤ _), (by decide : 13 + 0 ≤ _)⟩)
            dsimp only [Pt.U, Pt.locs, Pt.cells, Pt.slots] at X106 l106 y106 z106 st106 hQ106
            subst l106 y106 z106
            obtain ⟨rfl, Nq106, eq106⟩ := hQ106
            have N106 := Fr.app N103 Nq106
            refine own_csR [] 151 st106 ?_
            refine own_tp (.ref b51) 152 (fun _ q => XS.aloadN X106.here hx rfl (hb hby at_151) rfl rfl q) ?_
            obtain ⟨cq107, kq107, q107a, q107b, q107c⟩ := isOf hZ eq106 Ea104
            obtain ⟨_, _, ⟨T107, L107, k107, n107⟩, -, X107, ⟨Lc107, hQ107, l107, y107, z107⟩, st107⟩ := X106.interfaceBack hx (xi := (⟨"java/util/List", "size", "()I"⟩ : MethodName)) (y := (⟨"java/util/ArrayList", "size", "()I"⟩ : MethodName)) hown (mvT hZ (hw _ (List.mem_of_getElem? (i := 108) rfl))) (mvT hZ (hw _ (List.mem_of_getElem? (i := 76) rfl))) (mvT hZ (hw _ (List.mem_of_getElem? (i := 77) rfl))) (mvT hZ (hw _ (List.mem_of_getElem? (i := 78) rfl))) (mvT hZ (hw _ (List.mem_of_getElem? (i := 79) rfl))) (mvT hZ (hw _ (List.mem_of_getElem? (i := 80) rfl))) (mvT hZ (hw _ (List.mem_of_getElem? (i := 81) rfl))) (mvT hZ (hw _ (List.mem_of_getElem? (i := 40) rfl))) (by decide) (backOf (W := 0) (rm19 l Z a0 hw [] b51 (10 : Int32) T103.heap n0 Ea104 Fs104) hZ (hw _ (List.mem_of_getElem? (i := 82) rfl)) (hw _ (List.mem_of_getElem? (i := 2) rfl)) (by decide) (by decide)) q107a q107b q107c (g := (mkF m 152 #[.val (.int p0), .val (.int p1), .val (.ref b51), .val (.int (10 : Int32))] [(.ref b51)])) rfl (by rw [hml]; rfl) (Steps.refl _) (argsL := []) (rest := []) (lenOf pd0_3 rfl) rfl (by show 2 * 0 + _ ≤ _; exact Nat.le_of_eq rfl) (hb hby at_152) (fun _ _ => ⟨rfl, eq106, (by decide : 2 + 0 ≤ _), (by decide : 13 + 0 ≤ _)⟩)
            dsimp only [Pt.U, Pt.locs, Pt.cells, Pt.slots] at X107 l107 y107 z107 st107 hQ107
            subst l107 y107 z107
            obtain ⟨rfl, Nq107, eq107⟩ := hQ107
            have N107 := Fr.app N106 Nq107
            refine own_csR [(.int (10 : Int32))] 157 st107 ?_
            refine own_tp (.int (10 : Int32)) 158 (fun _ q => XS.iloadN X107.here hx rfl (hb hby at_157) rfl q) ?_
            refine own_d2 161 (fun _ q => XS.icmpNo X107.here hx rfl (hb hby at_158) rfl (teq (by decide : (10 : Int32) = (10 : Int32))).2 q) ?_
            refine own_tp (.int (1 : Int32)) 162 (fun _ q => XS.iconst X107.here hx rfl (hb hby at_161) q) ?_
            refine own_d0 166 (fun _ q => XS.goto X107.here hx rfl (pc0 := 162) (pc' := 166) rfl (hb hby at_162) (by decide) (by decide) q) ?_
            exact own_retN (t := .boolean) X107 hx hrt (hb hby at_166) (by simp) hlk (by decide) (by decide) eq107 (⟨rfl, N107⟩)
          ·
            refine own_d1 134 (fun _ q => XS.ifNo X100.here hx rfl (hb hby at_131) rfl ((if0 _ _).trans (feq c102).1) q) ?_
            refine own_tp (.int (1 : Int32)) 135 (fun _ q => XS.iconst X100.here hx rfl (hb hby at_134) q) ?_
            refine own_d0 139 (fun _ q => XS.goto X100.here hx rfl (pc0 := 135) (pc' := 139) rfl (hb hby at_135) (by decide) (by decide) q) ?_
            obtain ⟨_, _, ⟨T108, L108, k108, n108⟩, -, X108, ⟨Lc108, hQ108, l108, y108, z108⟩, st108⟩ := Jvm.LawKit.callS X100 hx (y := (⟨"com/example/kalends/kalends/LengthRequireMadeUpOfPinLaw", "addBlock", "(Ljava/util/List;Z)I"⟩ : MethodName)) hown (mvT hZ (hw _ (List.mem_of_getElem? (i := 26) rfl))) (mvT hZ (hw _ (List.mem_of_getElem? (i := 27) rfl))) (mvT hZ (hw _ (List.mem_of_getElem? (i := 28) rfl))) (mvT hZ (hw _ (List.mem_of_getElem? (i := 29) rfl))) (by decide) (backOf (W := 1) (rm27 l Z a0 hw [] b51 bq65 kq65 (7 : Int32) (7 : Int32) (10 : Int32) [(.ref am), (.ref am), (.ref am), (.ref aq), (.ref am), (.ref am), (.ref am), .null, .null, .null] 7 T100.heap n0 O100 ⟨Ea101, Fe101, Fs101, Fg101, Vb101, Ov101, Eb101, ga101, gb101, nab101⟩ ⟨by decide, by decide, rfl, by simp⟩ am aq ay Sm Sq Sy Hm Hq Hy Fm Fq Fy) hZ (hw _ (List.mem_of_getElem? (i := 29) rfl)) (hw _ (List.mem_of_getElem? (i := 28) rfl)) (by decide) (by decide)) (g := (mkF m 139 #[.val (.int p0), .val (.int p1), .val (.ref b51), .val (.int (7 : Int32))] [(.int (1 : Int32)), (.ref b51), (.int (7 : Int32))])) rfl (by rw [hml]; rfl) (argsL := [(.ref b51), (.int (1 : Int32))]) (rest := [(.int (7 : Int32))]) (lenOf pd0_1 rfl) rfl (by show 2 * 0 + _ ≤ _; exact Nat.le_of_eq rfl) (hb hby at_139) (fun _ _ => ⟨rfl, rfl, (by decide : 2 + 0 ≤ _), (by decide : 13 + 0 ≤ _)⟩)
            dsimp only [Pt.U, Pt.locs, Pt.cells, Pt.slots] at X108 l108 y108 z108 st108 hQ108
            subst l108 y108 z108
            obtain ⟨rfl, Nq108, O108, LL108⟩ := hQ108
            have N108 := Fr.app N100 Nq108
            have LM108 : own_L Z n0 T108.heap b51 bq65 kq65 (8 : Int32) (8 : Int32) (10 : Int32) [(.ref am), (.ref am), (.ref am), (.ref aq), (.ref am), (.ref am), (.ref am), (.ref aq), .null, .null] := LL108
            obtain ⟨Ea109, Fe109, Fs109, Fg109, Vb109, Ov109, Eb109, ga109, gb109, nab109⟩ := LM108
            refine own_t2 (.int (1 : Int32)) 142 st108 ?_
            refine own_t2 (.int (8 : Int32)) 143 (fun _ q => XS.iadd X108.here hx rfl (hb hby at_142) rfl q) ?_
            refine own_ls #[.val (.int p0), .val (.int p1), .val (.ref b51), .val (.int (8 : Int32))] 144 (fun _ q => XS.istoreN X108.here hx rfl (hb hby at_143) rfl (l' := #[.val (.int p0), .val (.int p1), .val (.ref b51), .val (.int (8 : Int32))]) rfl q) ?_
            obtain ⟨T110, X110, e110, st110⟩ := getS2 X108 hx hZ hown (host := "") (Or.inl (hw _ (List.mem_of_getElem? (i := 110) rfl))) Via.refl rfl (Sy.ext O108.2) (g := (mkF m 144 #[.val (.int p0), .val (.int p1), .val (.ref b51), .val (.int (8 : Int32))] [])) rfl (hb hby at_144)
            refine own_tp (.ref ay) 147 st110 ?_
            refine own_tp (.ref b51) 148 (fun _ q => XS.aloadN X110.here hx rfl (hb hby at_147) rfl rfl q) ?_
            obtain ⟨cq111, kq111, q111a, q111b, q111c⟩ := isOf hZ e110 (Hy.ext O108.2)
            obtain ⟨_, _, ⟨T111, L111, k111, n111⟩, -, X111, ⟨Lc111, hQ111, l111, y111, z111⟩, st111⟩ := X110.virtualBack hx (y := (⟨"com/example/kalends/kalends/ContractPeriod$Length", "requireMadeUpOf", "(Ljava/util/List;)V"⟩ : MethodName)) (z := (⟨"com/example/kalends/kalends/ContractPeriod$Length", "requireMadeUpOf", "(Ljava/util/List;)V"⟩ : MethodName)) hown (mvT hZ (hw _ (List.mem_of_getElem? (i := 70) rfl))) (mvT hZ (hw _ (List.mem_of_getElem? (i := 71) rfl))) (notFace_of_selects (args := #[]) (mvT hZ (hw _ (List.mem_of_getElem? (i := 73) rfl)))) (mvT hZ (hw _ (List.mem_of_getElem? (i := 73) rfl))) (mvT hZ (hw _ (List.mem_of_getElem? (i := 72) rfl))) (by decide) (backOf (W := 0) (rm24 l Z a0 hw [] ay b51 bq65 kq65 (8 : Int32) (8 : Int32) (10 : Int32) (12 : Int32) [(.ref am), (.ref am), (.ref am), (.ref aq), (.ref am), (.ref am), (.ref am), (.ref aq), .null, .null] [.null, .null] [false, false, false, true, false, false, false, true] T108.heap n0 O108 ⟨Ea109, Fe109, Fs109, Fg109, Vb109, Ov109, Eb109, ga109, gb109, nab109⟩ am aq ay Sm Sq Sy Hm Hq Hy Fm Fq Fy Hy Fy rfl (by decide) (by decide) (by decide +kernel)) hZ (hw _ (List.mem_of_getElem? (i := 74) rfl)) (hw _ (List.mem_of_getElem? (i := 31) rfl)) (by decide) (by decide)) q111a q111c (g := (mkF m 148 #[.val (.int p0), .val (.int p1), .val (.ref b51), .val (.int (8 : Int32))] [(.ref b51), (.ref ay)])) rfl (by rw [hml]; rfl) (Steps.refl _) (argsL := [(.ref b51)]) (rest := []) (lenOf pd0_2 rfl) rfl (by show 2 * 0 + _ ≤ _; exact Nat.le_of_eq rfl) (hb hby at_148) (fun _ _ => ⟨rfl, e110, (by decide : 2 + 0 ≤ _), (by decide : 13 + 0 ≤ _)⟩)
            dsimp only [Pt.U, Pt.locs, Pt.cells, Pt.slots] at X111 l111 y111 z111 st111 hQ111
            subst l111 y111 z111
            obtain ⟨rfl, Nq111, eq111⟩ := hQ111
            have N111 := Fr.app N108 Nq111
            refine own_csR [] 151 st111 ?_
            refine own_tp (.ref b51) 152 (fun _ q => XS.aloadN X111.here hx rfl (hb hby at_151) rfl rfl q) ?_
            obtain ⟨cq112, kq112, q112a, q112b, q112c⟩ := isOf hZ eq111 Ea109
            obtain ⟨_, _, ⟨T112, L112, k112, n112⟩, -, X112, ⟨Lc112, hQ112, l112, y112, z112⟩, st112⟩ := X111.interfaceBack hx (xi := (⟨"java/util/List", "size", "()I"⟩ : MethodName)) (y := (⟨"java/util/ArrayList", "size", "()I"⟩ : MethodName)) hown (mvT hZ (hw _ (List.mem_of_getElem? (i := 108) rfl))) (mvT hZ (hw _ (List.mem_of_getElem? (i := 76) rfl))) (mvT hZ (hw _ (List.mem_of_getElem? (i := 77) rfl))) (mvT hZ (hw _ (List.mem_of_getElem? (i := 78) rfl))) (mvT hZ (hw _ (List.mem_of_getElem? (i := 79) rfl))) (mvT hZ (hw _ (List.mem_of_getElem? (i := 80) rfl))) (mvT hZ (hw _ (List.mem_of_getElem? (i := 81) rfl))) (mvT hZ (hw _ (List.mem_of_getElem? (i := 40) rfl))) (by decide) (backOf (W := 0) (rm19 l Z a0 hw [] b51 (8 : Int32) T108.heap n0 Ea109 Fs109) hZ (hw _ (List.mem_of_getElem? (i := 82) rfl)) (hw _ (List.mem_of_getElem? (i := 2) rfl)) (by decide) (by decide)) q112a q112b q112c (g := (mkF m 152 #[.val (.int p0), .val (.int p1), .val (.ref b51), .val (.int (8 : Int32))] [(.ref b51)])) rfl (by rw [hml]; rfl) (Steps.refl _) (argsL := []) (rest := []) (lenOf pd0_3 rfl) rfl (by show 2 * 0 + _ ≤ _; exact Nat.le_of_eq rfl) (hb hby at_152) (fun _ _ => ⟨rfl, eq111, (by decide : 2 + 0 ≤ _), (by decide : 13 + 0 ≤ _)⟩)
            dsimp only [Pt.U, Pt.locs, Pt.cells, Pt.slots] at X112 l112 y112 z112 st112 hQ112
            subst l112 y112 z112
            obtain ⟨rfl, Nq112, eq112⟩ := hQ112
            have N112 := Fr.app N111 Nq112
            refine own_csR [(.int (8 : Int32))] 157 st112 ?_
            refine own_tp (.int (8 : Int32)) 158 (fun _ q => XS.iloadN X112.here hx rfl (hb hby at_157) rfl q) ?_
            refine own_d2 161 (fun _ q => XS.icmpNo X112.here hx rfl (hb hby at_158) rfl (teq (by decide : (8 : Int32) = (8 : Int32))).2 q) ?_
            refine own_tp (.int (1 : Int32)) 162 (fun _ q => XS.iconst X112.here hx rfl (hb hby at_161) q) ?_
            refine own_d0 166 (fun _ q => XS.goto X112.here hx rfl (pc0 := 162) (pc' := 166) rfl (hb hby at_162) (by decide) (by decide) q) ?_
            exact own_retN (t := .boolean) X112 hx hrt (hb hby at_166) (by simp) hlk (by decide) (by decide) eq112 (⟨rfl, N112⟩)
        ·
          refine own_d1 115 (fun _ q => XS.ifNo X97.here hx rfl (hb hby at_112) rfl ((if0 _ _).trans (feq c99).1) q) ?_
          refine own_tp (.int (1 : Int32)) 116 (fun _ q => XS.iconst X97.here hx rfl (hb hby at_115) q) ?_
          refine own_d0 120 (fun _ q => XS.goto X97.here hx rfl (pc0 := 116) (pc' := 120) rfl (hb hby at_116) (by decide) (by decide) q) ?_
          obtain ⟨_, _, ⟨T113, L113, k113, n113⟩, -, X113, ⟨Lc113, hQ113, l113, y113, z113⟩, st113⟩ := Jvm.LawKit.callS X97 hx (y := (⟨"com/example/kalends/kalends/LengthRequireMadeUpOfPinLaw", "addBlock", "(Ljava/util/List;Z)I"⟩ : MethodName)) hown (mvT hZ (hw _ (List.mem_of_getElem? (i := 26) rfl))) (mvT hZ (hw _ (List.mem_of_getElem? (i := 27) rfl))) (mvT hZ (hw _ (List.mem_of_getElem? (i := 28) rfl))) (mvT hZ (hw _ (List.mem_of_getElem? (i := 29) rfl))) (by decide) (backOf (W := 1) (rm27 l Z a0 hw [] b51 bq65 kq65 (4 : Int32) (4 : Int32) (10 : Int32) [(.ref am), (.ref am), (.ref am), (.ref aq), .null, .null, .null, .null, .null, .null] 4 T97.heap n0 O97 ⟨Ea98, Fe98, Fs98, Fg98, Vb98, Ov98, Eb98, ga98, gb98, nab98⟩ ⟨by decide, by decide, rfl, by simp⟩ am aq ay Sm Sq Sy Hm Hq Hy Fm Fq Fy) hZ (hw _ (List.mem_of_getElem? (i := 29) rfl)) (hw _ (List.mem_of_getElem? (i := 28) rfl)) (by decide) (by decide)) (g := (mkF m 120 #[.val (.int p0), .val (.int p1), .val (.ref b51), .val (.int (4 : Int32))] [(.int (1 : Int32)), (.ref b51), (.int (4 : Int32))])) rfl (by rw [hml]; rfl) (argsL := [(.ref b51), (.int (1 : Int32))]) (rest := [(.int (4 : Int32))]) (lenOf pd0_1 rfl) rfl (by show 2 * 0 + _ ≤ _; exact Nat.le_of_eq rfl) (hb hby at_120) (fun _ _ => ⟨rfl, rfl, (by decide : 2 + 0 ≤ _), (by decide : 13 + 0 ≤ _)⟩)
          dsimp only [Pt.U, Pt.locs, Pt.cells, Pt.slots] at X113 l113 y113 z113 st113 hQ113
          subst l113 y113 z113
          obtain ⟨rfl, Nq113, O113, LL113⟩ := hQ113
          have N113 := Fr.app N97 Nq113
          have LM113 : own_L Z n0 T113.heap b51 bq65 kq65 (5 : Int32) (5 : Int32) (10 : Int32) [(.ref am), (.ref am), (.ref am), (.ref aq), (.ref aq), .null, .null, .null, .null, .null] := LL113
          obtain ⟨Ea114, Fe114, Fs114, Fg114, Vb114, Ov114, Eb114, ga114, gb114, nab114⟩ := LM113
          refine own_t2 (.int (1 : Int32)) 123 st113 ?_
          refine own_t2 (.int (5 : Int32)) 124 (fun _ q => XS.iadd X113.here hx rfl (hb hby at_123) rfl q) ?_
          refine own_ls #[.val (.int p0), .val (.int p1), .val (.ref b51), .val (.int (5 : Int32))] 125 (fun _ q => XS.istoreN X113.here hx rfl (hb hby at_124) rfl (l' := #[.val (.int p0), .val (.int p1), .val (.ref b51), .val (.int (5 : Int32))]) rfl q) ?_
          refine own_tp (.int (5 : Int32)) 126 (fun _ q => XS.iloadN X113.here hx rfl (hb hby at_125) rfl q) ?_
          refine own_tp (.ref b51) 127 (fun _ q => XS.aloadN X113.here hx rfl (hb hby at_126) rfl rfl q) ?_
          refine own_tp (.int p1) 128 (fun _ q => XS.iloadN X113.here hx rfl (hb hby at_127) rfl q) ?_
          refine own_tp (.int (8 : Int32)) 130 (fun _ q => XS.bipush X113.here hx rfl (hb hby at_128) q) ?_
          refine own_t2 (.int (p1 &&& (8 : Int32))) 131 (fun _ q => XS.iand X113.here hx rfl (hb hby at_130) rfl q) ?_
          by_cases c115 : (p1 &&& (8 : Int32)) = (0 : Int32)
          ·
            refine own_d1 138 (fun _ q => XS.ifYes X113.here hx rfl (pc0 := 131) (pc' := 138) rfl (hb hby at_131) rfl ((if0 _ _).trans (teq c115).1) (by decide) (by decide) q) ?_
            refine own_tp (.int (0 : Int32)) 139 (fun _ q => XS.iconst X113.here hx rfl (hb hby at_138) q) ?_
            obtain ⟨_, _, ⟨T116, L116, k116, n116⟩, -, X116, ⟨Lc116, hQ116, l116, y116, z116⟩, st116⟩ := Jvm.LawKit.callS X113 hx (y := (⟨"com/example/kalends/kalends/LengthRequireMadeUpOfPinLaw", "addBlock", "(Ljava/util/List;Z)I"⟩ : MethodName)) hown (mvT hZ (hw _ (List.mem_of_getElem? (i := 26) rfl))) (mvT hZ (hw _ (List.mem_of_getElem? (i := 27) rfl))) (mvT hZ (hw _ (List.mem_of_getElem? (i := 28) rfl))) (mvT hZ (hw _ (List.mem_of_getElem? (i := 29) rfl))) (by decide) (backOf (W := 1) (rm28 l Z a0 hw [] b51 bq65 kq65 (5 : Int32) (5 : Int32) (10 : Int32) [(.ref am), (.ref am), (.ref am), (.ref aq), (.ref aq), .null, .null, .null, .null, .null] 5 T113.heap n0 O113 ⟨Ea114, Fe114, Fs114, Fg114, Vb114, Ov114, Eb114, ga114, gb114, nab114⟩ ⟨by decide, by decide, rfl, by simp⟩ ⟨by decide, by decide, rfl, by simp⟩ ⟨by decide, by decide, rfl, by simp⟩ am aq ay Sm Sq Sy Hm Hq Hy Fm Fq Fy) hZ (hw _ (List.mem_of_getElem? (i := 29) rfl)) (hw _ (List.mem_of_getElem? (i := 28) rfl)) (by decide) (by decide)) (g := (mkF m 139 #[.val (.int p0), .val (.int p1), .val (.ref b51), .val (.int (5 : Int32))] [(.int (0 : Int32)), (.ref b51), (.int (5 : Int32))])) rfl (by rw [hml]; rfl) (argsL := [(.ref b51), (.int (0 : Int32))]) (rest := [(.int (5 : Int32))]) (lenOf pd0_1 rfl) rfl (by show 2 * 0 + _ ≤ _; exact Nat.le_of_eq rfl) (hb hby at_139) (fun _ _ => ⟨rfl, rfl, (by decide : 2 + 0 ≤ _), (by decide : 13 + 0 ≤ _)⟩)
            dsimp only [Pt.U, Pt.locs, Pt.cells, Pt.slots] at X116 l116 y116 z116 st116 hQ116
            subst l116 y116 z116
            obtain ⟨rfl, Nq116, O116, LL116⟩ := hQ116
            have N116 := Fr.app N113 Nq116
            have LM116 : own_L Z n0 T116.heap b51 bq65 kq65 (8 : Int32) (8 : Int32) (10 : Int32) [(.ref am), (.ref am), (.ref am), (.ref aq), (.ref aq), (.ref am), (.ref am), (.ref am), .null, .null] := LL116
            obtain ⟨Ea117, Fe117, Fs117, Fg117, Vb117, Ov117, Eb117, ga117, gb117, nab117⟩ := LM116
            refine own_t2 (.int (3 : Int32)) 142 st116 ?_
            refine own_t2 (.int (8 : Int32)) 143 (fun _ q => XS.iadd X116.here hx rfl (hb hby at_142) rfl q) ?_
            refine own_ls #[.val (.int p0), .val (.int p1), .val (.ref b51), .val (.int (8 : Int32))] 144 (fun _ q => XS.istoreN X116.here hx rfl (hb hby at_143) rfl (l' := #[.val (.int p0), .val (.int p1), .val (.ref b51), .val (.int (8 : Int32))]) rfl q) ?_
            obtain ⟨T118, X118, e118, st118⟩ := getS2 X116 hx hZ hown (host := "") (Or.inl (hw _ (List.mem_of_getElem? (i := 110) rfl))) Via.refl rfl (Sy.ext O116.2) (g := (mkF m 144 #[.val (.int p0), .val (.int p1), .val (.ref b51), .val (.int (8 : Int32))] [])) rfl (hb hby at_144)
            refine own_tp (.ref ay) 147 st118 ?_
            refine own_tp (.ref b51) 148 (fun _ q => XS.aloadN X118.here hx rfl (hb hby at_147) rfl rfl q) ?_
            obtain ⟨cq119, kq119, q119a, q119b, q119c⟩ := isOf hZ e118 (Hy.ext O116.2)
            obtain ⟨_, _, ⟨T119, L119, k119, n119⟩, -, X119, ⟨Lc119, hQ119, l119, y119, z119⟩, st119⟩ := X118.virtualBack hx (y := (⟨"com/example/kalends/kalends/ContractPeriod$Length", "requireMadeUpOf", "(Ljava/util/List;)V"⟩ : MethodName)) (z := (⟨"com/example/kalends/kalends/ContractPeriod$Length", "requireMadeUpOf", "(Ljava/util/List;)V"⟩ : MethodName)) hown (mvT hZ (hw _ (List.mem_of_getElem? (i := 70) rfl))) (mvT hZ (hw _ (List.mem_of_getElem? (i := 71) rfl))) (notFace_of_selects (args := #[]) (mvT hZ (hw _ (List.mem_of_getElem? (i := 73) rfl)))) (mvT hZ (hw _ (List.mem_of_getElem? (i := 73) rfl))) (mvT hZ (hw _ (List.mem_of_getElem? (i := 72) rfl))) (by decide) (backOf (W := 0) (rm24 l Z a0 hw [] ay b51 bq65 kq65 (8 : Int32) (8 : Int32) (10 : Int32) (12 : Int32) [(.ref am), (.ref am), (.ref am), (.ref aq), (.ref aq), (.ref am), (.ref am), (.ref am), .null, .null] [.null, .null] [false, false, false, true, true, false, false, false] T116.heap n0 O116 ⟨Ea117, Fe117, Fs117, Fg117, Vb117, Ov117, Eb117, ga117, gb117, nab117⟩ am aq ay Sm Sq Sy Hm Hq Hy Fm Fq Fy Hy Fy rfl (by decide) (by decide) (by decide +kernel)) hZ (hw _ (List.mem_of_getElem? (i := 74) rfl)) (hw _ (List.mem_of_getElem? (i := 31) rfl)) (by decide) (by decide)) q119a q119c (g := (mkF m 148 #[.val (.int p0), .val (.int p1), .val (.ref b51), .val (.int (8 : Int32))] [(.ref b51), (.ref ay)])) rfl (by rw [hml]; rfl) (Steps.refl _) (argsL := [(.ref b51)]) (rest := []) (lenOf pd0_2 rfl) rfl (by show 2 * 0 + _ ≤ _; exact Nat.le_of_eq rfl) (hb hby at_148) (fun _ _ => ⟨rfl, e118, (by decide : 2 + 0 ≤ _), (by decide : 13 + 0 ≤ _)⟩)
            dsimp only [Pt.U, Pt.locs, Pt.cells, Pt.slots] at X119 l119 y119 z119 st119 hQ119
            subst l119 y119 z119
            obtain ⟨rfl, Nq119, eq119⟩ := hQ119
            have N119 := Fr.app N116 Nq119
            refine own_csR [] 151 st119 ?_
            refine own_tp (.ref b51) 152 (fun _ q => XS.aloadN X119.here hx rfl (hb hby at_151) rfl rfl q) ?_
            obtain ⟨cq120, kq120, q120a, q120b, q120c⟩ := isOf hZ eq119 Ea117
            obtain ⟨_, _, ⟨T120, L120, k120, n120⟩, -, X120, ⟨Lc120, hQ120, l120, y120, z120⟩, st120⟩ := X119.interfaceBack hx (xi := (⟨"java/util/List", "size", "()I"⟩ : MethodName)) (y := (⟨"java/util/ArrayList", "size", "()I"⟩ : MethodName)) hown (mvT hZ (hw _ (List.mem_of_getElem? (i := 108) rfl))) (mvT hZ (hw _ (List.mem_of_getElem? (i := 76) rfl))) (mvT hZ (hw _ (List.mem_of_getElem? (i := 77) rfl))) (mvT hZ (hw _ (List.mem_of_getElem? (i := 78) rfl))) (mvT hZ (hw _ (List.mem_of_getElem? (i := 79) rfl))) (mvT hZ (hw _ (List.mem_of_getElem? (i := 80) rfl))) (mvT hZ (hw _ (List.mem_of_getElem? (i := 81) rfl))) (mvT hZ (hw _ (List.mem_of_getElem? (i := 40) rfl))) (by decide) (backOf (W := 0) (rm19 l Z a0 hw [] b51 (8 : Int32) T116.heap n0 Ea117 Fs117) hZ (hw _ (List.mem_of_getElem? (i := 82) rfl)) (hw _ (List.mem_of_getElem? (i := 2) rfl)) (by decide) (by decide)) q120a q120b q120c (g := (mkF m 152 #[.val (.int p0), .val (.int p1), .val (.ref b51), .val (.int (8 : Int32))] [(.ref b51)])) rfl (by rw [hml]; rfl) (Steps.refl _) (argsL := []) (rest := []) (lenOf pd0_3 rfl) rfl (by show 2 * 0 + _ ≤ _; exact Nat.le_of_eq rfl) (hb hby at_152) (fun _ _ => ⟨rfl, eq119, (by decide : 2 + 0 ≤ _), (by decide : 13 + 0 ≤ _)⟩)
            dsimp only [Pt.U, Pt.locs, Pt.cells, Pt.slots] at X120 l120 y120 z120 st120 hQ120
            subst l120 y120 z120
            obtain ⟨rfl, Nq120, eq120⟩ := hQ120
            have N120 := Fr.app N119 Nq120
            refine own_csR [(.int (8 : Int32))] 157 st120 ?_
            refine own_tp (.int (8 : Int32)) 158 (fun _ q => XS.iloadN X120.here hx rfl (hb hby at_157) rfl q) ?_
            refine own_d2 161 (fun _ q => XS.icmpNo X120.here hx rfl (hb hby at_158) rfl (teq (by decide : (8 : Int32) = (8 : Int32))).2 q) ?_
            refine own_tp (.int (1 : Int32)) 162 (fun _ q => XS.iconst X120.here hx rfl (hb hby at_161) q) ?_
            refine own_d0 166 (fun _ q => XS.goto X120.here hx rfl (pc0 := 162) (pc' := 166) rfl (hb hby at_162) (by decide) (by decide) q) ?_
            exact own_retN (t := .boolean) X120 hx hrt (hb hby at_166) (by simp) hlk (by decide) (by decide) eq120 (⟨rfl, N120⟩)
          ·
            refine own_d1 134 (fun _ q => XS.ifNo X113.here hx rfl (hb hby at_131) rfl ((if0 _ _).trans (feq c115).1) q) ?_
            refine own_tp (.int (1 : Int32)) 135 (fun _ q => XS.iconst X113.here hx rfl (hb hby at_134) q) ?_
            refine own_d0 139 (fun _ q => XS.goto X113.here hx rfl (pc0 := 135) (pc' := 139) rfl (hb hby at_135) (by decide) (by decide) q) ?_
            obtain ⟨_, _, ⟨T121, L121, k121, n121⟩, -, X121, ⟨Lc121, hQ121, l121, y121, z121⟩, st121⟩ := Jvm.LawKit.callS X113 hx (y := (⟨"com/example/kalends/kalends/LengthRequireMadeUpOfPinLaw", "addBlock", "(Ljava/util/List;Z)I"⟩ : MethodName)) hown (mvT hZ (hw _ (List.mem_of_getElem? (i := 26) rfl))) (mvT hZ (hw _ (List.mem_of_getElem? (i := 27) rfl))) (mvT hZ (hw _ (List.mem_of_getElem? (i := 28) rfl))) (mvT hZ (hw _ (List.mem_of_getElem? (i := 29) rfl))) (by decide) (backOf (W := 1) (rm27 l Z a0 hw [] b51 bq65 kq65 (5 : Int32) (5 : Int32) (10 : Int32) [(.ref am), (.ref am), (.ref am), (.ref aq), (.ref aq), .null, .null, .null, .null, .null] 5 T113.heap n0 O113 ⟨Ea114, Fe114, Fs114, Fg114, Vb114, Ov114, Eb114, ga114, gb114, nab114⟩ ⟨by decide, by decide, rfl, by simp⟩ am aq ay Sm Sq Sy Hm Hq Hy Fm Fq Fy) hZ (hw _ (List.mem_of_getElem? (i := 29) rfl)) (hw _ (List.mem_of_getElem? (i := 28) rfl)) (by decide) (by decide)) (g := (mkF m 139 #[.val (.int p0), .val (.int p1), .val (.ref b51), .val (.int (5 : Int32))] [(.int (1 : Int32)), (.ref b51), (.int (5 : Int32))])) rfl (by rw [hml]; rfl) (argsL := [(.ref b51), (.int (1 : Int32))]) (rest := [(.int (5 : Int32))]) (lenOf pd0_1 rfl) rfl (by show 2 * 0 + _ ≤ _; exact Nat.le_of_eq rfl) (hb hby at_139) (fun _ _ => ⟨rfl, rfl, (by decide : 2 + 0 ≤ _), (by decide : 13 + 0 ≤ _)⟩)
            dsimp only [Pt.U, Pt.locs, Pt.cells, Pt.slots] at X121 l121 y121 z121 st121 hQ121
            subst l121 y121 z121
            obtain ⟨rfl, Nq121, O121, LL121⟩ := hQ121
            have N121 := Fr.app N113 Nq121
            have LM121 : own_L Z n0 T121.heap b51 bq65 kq65 (6 : Int32) (6 : Int32) (10 : Int32) [(.ref am), (.ref am), (.ref am), (.ref aq), (.ref aq), (.ref aq), .null, .null, .null, .null] := LL121
            obtain ⟨Ea122, Fe122, Fs122, Fg122, Vb122, Ov122, Eb122, ga122, gb122, nab122⟩ := LM121
            refine own_t2 (.int (1 : Int32)) 142 st121 ?_
            refine own_t2 (.int (6 : Int32)) 143 (fun _ q => XS.iadd X121.here hx rfl (hb hby at_142) rfl q) ?_
            refine own_ls #[.val (.int p0), .val (.int p1), .val (.ref b51), .val (.int (6 : Int32))] 144 (fun _ q => XS.istoreN X121.here hx rfl (hb hby at_143) rfl (l' := #[.val (.int p0), .val (.int p1), .val (.ref b51), .val (.int (6 : Int32))]) rfl q) ?_
            obtain ⟨T123, X123, e123, st123⟩ := getS2 X121 hx hZ hown (host := "") (Or.inl (hw _ (List.mem_of_getElem? (i := 110) rfl))) Via.refl rfl (Sy.ext O121.2) (g := (mkF m 144 #[.val (.int p0), .val (.int p1), .val (.ref b51), .val (.int (6 : Int32))] [])) rfl (hb hby at_144)
            refine own_tp (.ref ay) 147 st123 ?_
            refine own_tp (.ref b51) 148 (fun _ q => XS.aloadN X123.here hx rfl (hb hby at_147) rfl rfl q) ?_
            obtain ⟨cq124, kq124, q124a, q124b, q124c⟩ := isOf hZ e123 (Hy.ext O121.2)
            obtain ⟨_, _, ⟨T124, L124, k124, n124⟩, -, X124, ⟨Lc124, hQ124, l124, y124, z124⟩, st124⟩ := X123.virtualBack hx (y := (⟨"com/example/kalends/kalends/ContractPeriod$Length", "requireMadeUpOf", "(Ljava/util/List;)V"⟩ : MethodName)) (z := (⟨"com/example/kalends/kalends/ContractPeriod$Length", "requireMadeUpOf", "(Ljava/util/List;)V"⟩ : MethodName)) hown (mvT hZ (hw _ (List.mem_of_getElem? (i := 70) rfl))) (mvT hZ (hw _ (List.mem_of_getElem? (i := 71) rfl))) (notFace_of_selects (args := #[]) (mvT hZ (hw _ (List.mem_of_getElem? (i := 73) rfl)))) (mvT hZ (hw _ (List.mem_of_getElem? (i := 73) rfl))) (mvT hZ (hw _ (List.mem_of_getElem? (i := 72) rfl))) (by decide) (backOf (W := 0) (rm24 l Z a0 hw [] ay b51 bq65 kq65 (6 : Int32) (6 : Int32) (10 : Int32) (12 : Int32) [(.ref am), (.ref am), (.ref am), (.ref aq), (.ref aq), (.ref aq), .null, .null, .null, .null] [.null, .null, .null, .null] [false, false, false, true, true, true] T121.heap n0 O121 ⟨Ea122, Fe122, Fs122, Fg122, Vb122, Ov122, Eb122, ga122, gb122, nab122⟩ am aq ay Sm Sq Sy Hm Hq Hy Fm Fq Fy Hy Fy rfl (by decide) (by decide) (by decide +kernel)) hZ (hw _ (List.mem_of_getElem? (i := 74) rfl)) (hw _ (List.mem_of_getElem? (i := 31) rfl)) (by decide) (by decide)) q124a q124c (g := (mkF m 148 #[.val (.int p0), .val (.int p1), .val (.ref b51), .val (.int (6 : Int32))] [(.ref b51), (.ref ay)])) rfl (by rw [hml]; rfl) (Steps.refl _) (argsL := [(.ref b51)]) (rest := []) (lenOf pd0_2 rfl) rfl (by show 2 * 0 + _ ≤ _; exact Nat.le_of_eq rfl) (hb hby at_148) (fun _ _ => ⟨rfl, e123, (by decide : 2 + 0 ≤ _), (by decide : 13 + 0 ≤ _)⟩)
            dsimp only [Pt.U, Pt.locs, Pt.cells, Pt.slots] at X124 l124 y124 z124 st124 hQ124
            subst l124 y124 z124
            obtain ⟨rfl, Nq124, eq124⟩ := hQ124
            have N124 := Fr.app N121 Nq124
            refine own_csR [] 151 st124 ?_
            refine own_tp (.ref b51) 152 (fun _ q => XS.aloadN X124.here hx rfl (hb hby at_151) rfl rfl q) ?_
            obtain ⟨cq125, kq125, q125a, q125b, q125c⟩ := isOf hZ eq124 Ea122
            obtain ⟨_, _, ⟨T125, L125, k125, n125⟩, -, X125, ⟨Lc125, hQ125, l125, y125, z125⟩, st125⟩ := X124.interfaceBack hx (xi := (⟨"java/util/List", "size", "()I"⟩ : MethodName)) (y := (⟨"java/util/ArrayList", "size", "()I"⟩ : MethodName)) hown (mvT hZ (hw _ (List.mem_of_getElem? (i := 108) rfl))) (mvT hZ (hw _ (List.mem_of_getElem? (i := 76) rfl))) (mvT hZ (hw _ (List.mem_of_getElem? (i := 77) rfl))) (mvT hZ (hw _ (List.mem_of_getElem? (i := 78) rfl))) (mvT hZ (hw _ (List.mem_of_getElem? (i := 79) rfl))) (mvT hZ (hw _ (List.mem_of_getElem? (i := 80) rfl))) (mvT hZ (hw _ (List.mem_of_getElem? (i := 81) rfl))) (mvT hZ (hw _ (List.mem_of_getElem? (i := 40) rfl))) (by decide) (backOf (W := 0) (rm19 l Z a0 hw [] b51 (6 : Int32) T121.heap n0 Ea122 Fs122) hZ (hw _ (List.mem_of_getElem? (i := 82) rfl)) (hw _ (List.mem_of_getElem? (i := 2) rfl)) (by decide) (by decide)) q125a q125b q125c (g := (mkF m 152 #[.val (.int p0), .val (.int p1), .val (.ref b51), .val (.int (6 : Int32))] [(.ref b51)])) rfl (by rw [hml]; rfl) (Steps.refl _) (argsL := []) (rest := []) (lenOf pd0_3 rfl) rfl (by show 2 * 0 + _ ≤ _; exact Nat.le_of_eq rfl) (hb hby at_152) (fun _ _ => ⟨rfl, eq124, (by decide : 2 + 0 ≤ _), (by decide : 13 + 0 ≤ _)⟩)
            dsimp only [Pt.U, Pt.locs, Pt.cells, Pt.slots] at X125 l125 y125 z125 st125 hQ125
            subst l125 y125 z125
            obtain ⟨rfl, Nq125, eq125⟩ := hQ125
            have N125 := Fr.app N124 Nq125
            refine own_csR [(.int (6 : Int32))] 157 st125 ?_
            refine own_tp (.int (6 : Int32)) 158 (fun _ q => XS.iloadN X125.here hx rfl (hb hby at_157) rfl q) ?_
            refine own_d2 161 (fun _ q => XS.icmpNo X125.here hx rfl (hb hby at_158) rfl (teq (by decide : (6 : Int32) = (6 : Int32))).2 q) ?_
            refine own_tp (.int (1 : Int32)) 162 (fun _ q => XS.iconst X125.here hx rfl (hb hby at_161) q) ?_
            refine own_d0 166 (fun _ q => XS.goto X125.here hx rfl (pc0 := 162) (pc' := 166) rfl (hb hby at_162) (by decide) (by decide) q) ?_
            exact own_retN (t := .boolean) X125 hx hrt (hb hby at_166) (by simp) hlk (by decide) (by decide) eq125 (⟨rfl, N125⟩)
    ·
      refine own_d1 79 (fun _ q => XS.ifNo X52.here hx rfl (hb hby at_76) rfl ((if0 _ _).trans (feq c64).1) q) ?_
      refine own_tp (.int (1 : Int32)) 80 (fun _ q => XS.iconst X52.here hx rfl (hb hby at_79) q) ?_
      refine own_d0 84 (fun _ q => XS.goto X52.here hx rfl (pc0 := 80) (pc' := 84) rfl (hb hby at_80) (by decide) (by decide) q) ?_
      obtain ⟨_, _, ⟨T126, L126, k126, n126⟩, -, X126, ⟨Lc126, hQ126, l126, y126, z126⟩, st126⟩ := Jvm.LawKit.callS X52 hx (y := (⟨"com/example/kalends/kalends/LengthRequireMadeUpOfPinLaw", "addBlock", "(Ljava/util/List;Z)I"⟩ : MethodName)) hown (mvT hZ (hw _ (List.mem_of_getElem? (i := 26) rfl))) (mvT hZ (hw _ (List.mem_of_getElem? (i := 27) rfl))) (mvT hZ (hw _ (List.mem_of_getElem? (i := 28) rfl))) (mvT hZ (hw _ (List.mem_of_getElem? (i := 29) rfl))) (by decide) (backOf (W := 1) (rm25 l Z a0 hw [] b51 ad (0 : Int32) T52.heap n0 O52 ⟨Ea53, Fe53, Fs53, Fg53, ga53⟩ kd Sd Vd am aq ay Sm Sq Sy Hm Hq Hy Fm Fq Fy) hZ (hw _ (List.mem_of_getElem? (i := 29) rfl)) (hw _ (List.mem_of_getElem? (i := 28) rfl)) (by decide) (by decide)) (g := (mkF m 84 #[.val (.int p0), .val (.int p1), .val (.ref b51), .val (.int (0 : Int32))] [(.int (1 : Int32)), (.ref b51), (.int (0 : Int32))])) rfl (by rw [hml]; rfl) (argsL := [(.ref b51), (.int (1 : Int32))]) (rest := [(.int (0 : Int32))]) (lenOf pd0_1 rfl) rfl (by show 2 * 0 + _ ≤ _; exact Nat.le_of_eq rfl) (hb hby at_84) (fun _ _ => ⟨rfl, rfl, (by decide : 1 + 1 ≤ _), (by decide : 3 + 10 ≤ _)⟩)
      dsimp only [Pt.U, Pt.locs, Pt.cells, Pt.slots] at X126 l126 y126 z126 st126 hQ126
      subst l126 y126 z126
      obtain ⟨bq126, kq126, rfl, Nq126, O126, LL126⟩ := hQ126
      have N126 := Fr.app N52 Nq126
      have LM126 : own_L Z n0 T126.heap b51 bq126 kq126 (1 : Int32) (1 : Int32) (10 : Int32) [(.ref aq), .null, .null, .null, .null, .null, .null, .null, .null, .null] := LL126
      obtain ⟨Ea127, Fe127, Fs127, Fg127, Vb127, Ov127, Eb127, ga127, gb127, nab127⟩ := LM126
      refine own_t2 (.int (1 : Int32)) 87 st126 ?_
      refine own_t2 (.int (1 : Int32)) 88 (fun _ q => XS.iadd X126.here hx rfl (hb hby at_87) rfl q) ?_
      refine own_ls #[.val (.int p0), .val (.int p1), .val (.ref b51), .val (.int (1 : Int32))] 89 (fun _ q => XS.istoreN X126.here hx rfl (hb hby at_88) rfl (l' := #[.val (.int p0), .val (.int p1), .val (.ref b51), .val (.int (1 : Int32))]) rfl q) ?_
      refine own_tp (.int (1 : Int32)) 90 (fun _ q => XS.iloadN X126.here hx rfl (hb hby at_89) rfl q) ?_
      refine own_tp (.ref b51) 91 (fun _ q => XS.aloadN X126.here hx rfl (hb hby at_90) rfl rfl q) ?_
      refine own_tp (.int p1) 92 (fun _ q => XS.iloadN X126.here hx rfl (hb hby at_91) rfl q) ?_
      refine own_tp (.int (2 : Int32)) 93 (fun _ q => XS.iconst X126.here hx rfl (hb hby at_92) q) ?_
      refine own_t2 (.int (p1 &&& (2 : Int32))) 94 (fun _ q => XS.iand X126.here hx rfl (hb hby at_93) rfl q) ?_
      by_cases c128 : (p1 &&& (2 : Int32)) = (0 : Int32)
      ·
        refine own_d1 101 (fun _ q => XS.ifYes X126.here hx rfl (pc0 := 94) (pc' := 101) rfl (hb hby at_94) rfl ((if0 _ _).trans (teq c128).1) (by decide) (by decide) q) ?_
        refine own_tp (.int (0 : Int32)) 102 (fun _ q => XS.iconst X126.here hx rfl (hb hby at_101) q) ?_
        obtain ⟨_, _, ⟨T129, L129, k129, n129⟩, -, X129, ⟨Lc129, hQ129, l129, y129, z129⟩, st129⟩ := Jvm.LawKit.callS X126 hx (y := (⟨"com/example/kalends/kalends/LengthRequireMadeUpOfPinLaw", "addBlock", "(Ljava/util/List;Z)I"⟩ : MethodName)) hown (mvT hZ (hw _ (List.mem_of_getElem? (i := 26) rfl))) (mvT hZ (hw _ (List.mem_of_getElem? (i := 27) rfl))) (mvT hZ (hw _ (List.mem_of_getElem? (i := 28) rfl))) (mvT hZ (hw _ (List.mem_of_getElem? (i := 29) rfl))) (by decide) (backOf (W := 1) (rm28 l Z a0 hw [] b51 bq126 kq126 (1 : Int32) (1 : Int32) (10 : Int32) [(.ref aq), .null, .null, .null, .null, .null, .null, .null, .null, .null] 1 T126.heap n0 O126 ⟨Ea127, Fe127, Fs127, Fg127, Vb127, Ov127, Eb127, ga127, gb127, nab127⟩ ⟨by decide, by decide, rfl, by simp⟩ ⟨by decide, by decide, rfl, by simp⟩ ⟨by decide, by decide, rfl, by simp⟩ am aq ay Sm Sq Sy Hm Hq Hy Fm Fq Fy) hZ (hw _ (List.mem_of_getElem? (i := 29) rfl)) (hw _ (List.mem_of_getElem? (i := 28) rfl)) (by decide) (by decide)) (g := (mkF m 102 #[.val (.int p0), .val (.int p1), .val (.ref b51), .val (.int (1 : Int32))] [(.int (0 : Int32)), (.ref b51), (.int (1 : Int32))])) rfl (by rw [hml]; rfl) (argsL := [(.ref b51), (.int (0 : Int32))]) (rest := [(.int (1 : Int32))]) (lenOf pd0_1 rfl) rfl (by show 2 * 0 + _ ≤ _; exact Nat.le_of_eq rfl) (hb hby at_102) (fun _ _ => ⟨rfl, rfl, (by decide : 2 + 0 ≤ _), (by decide : 13 + 0 ≤ _)⟩)
        dsimp only [Pt.U, Pt.locs, Pt.cells, Pt.slots] at X129 l129 y129 z129 st129 hQ129
        subst l129 y129 z129
        obtain ⟨rfl, Nq129, O129, LL129⟩ := hQ129
        have N129 := Fr.app N126 Nq129
        have LM129 : own_L Z n0 T129.heap b51 bq126 kq126 (4 : Int32) (4 : Int32) (10 : Int32) [(.ref aq), (.ref am), (.ref am), (.ref am), .null, .null, .null, .null, .null, .null] := LL129
        obtain ⟨Ea130, Fe130, Fs130, Fg130, Vb130, Ov130, Eb130, ga130, gb130, nab130⟩ := LM129
        refine own_t2 (.int (3 : Int32)) 105 st129 ?_
        refine own_t2 (.int (4 : Int32)) 106 (fun _ q => XS.iadd X129.here hx rfl (hb hby at_105) rfl q) ?_
        refine own_ls #[.val (.int p0), .val (.int p1), .val (.ref b51), .val (.int (4 : Int32))] 107 (fun _ q => XS.istoreN X129.here hx rfl (hb hby at_106) rfl (l' := #[.val (.int p0), .val (.int p1), .val (.ref b51), .val (.int (4 : Int32))]) rfl q) ?_
        refine own_tp (.int (4 : Int32)) 108 (fun _ q => XS.iloadN X129.here hx rfl (hb hby at_107) rfl q) ?_
        refine own_tp (.ref b51) 109 (fun _ q => XS.aloadN X129.here hx rfl (hb hby at_108) rfl rfl q) ?_
        refine own_tp (.int p1) 110 (fun _ q => XS.iloadN X129.here hx rfl (hb hby at_109) rfl q) ?_
        refine own_tp (.int (4 : Int32)) 111 (fun _ q => XS.iconst X129.here hx rfl (hb hby at_110) q) ?_
        refine own_t2 (.int (p1 &&& (4 : Int32))) 112 (fun _ q => XS.iand X129.here hx rfl (hb hby at_111) rfl q) ?_
        by_cases c131 : (p1 &&& (4 : Int32)) = (0 : Int32)
        ·
          refine own_d1 119 (fun _ q => XS.ifYes X129.here hx rfl (pc0 := 112) (pc' := 119) rfl (hb hby at_112) rfl ((if0 _ _).trans (teq c131).1) (by decide) (by decide) q) ?_
          refine own_tp (.int (0 : Int32)) 120 (fun _ q => XS.iconst X129.here hx rfl (hb hby at_119) q) ?_
          obtain ⟨_, _, ⟨T132, L132, k132, n132⟩, -, X132, ⟨Lc132, hQ132, l132, y132, z132⟩, st132⟩ := Jvm.LawKit.callS X129 hx (y := (⟨"com/example/kalends/kalends/LengthRequireMadeUpOfPinLaw", "addBlock", "(Ljava/util/List;Z)I"⟩ : MethodName)) hown (mvT hZ (hw _ (List.mem_of_getElem? (i := 26) rfl))) (mvT hZ (hw _ (List.mem_of_getElem? (i := 27) rfl))) (mvT hZ (hw _ (List.mem_of_getElem? (i := 28) rfl))) (mvT hZ (hw _ (List.mem_of_getElem? (i := 29) rfl))) (by decide) (backOf (W := 1) (rm28 l Z a0 hw [] b51 bq126 kq126 (4 : Int32) (4 : Int32) (10 : Int32) [(.ref aq), (.ref am), (.ref am), (.ref am), .null, .null, .null, .null, .null, .null] 4 T129.heap n0 O129 ⟨Ea130, Fe130, Fs130, Fg130, Vb130, Ov130, Eb130, ga130, gb130, nab130⟩ ⟨by decide, by decide, rfl, by simp⟩ ⟨by decide, by decide, rfl, by simp⟩ ⟨by decide, by decide, rfl, by simp⟩ am aq ay Sm Sq Sy Hm Hq Hy Fm Fq Fy) hZ (hw _ (List.mem_of_getElem? (i := 29) rfl)) (hw _ (List.mem_of_getElem? (i := 28) rfl)) (by decide) (by decide)) (g := (mkF m 120 #[.val (.int p0), .val (.int p1), .val (.ref b51), .val (.int (4 : Int32))] [(.int (0 : Int32)), (.ref b51), (.int (4 : Int32))])) rfl (by rw [hml]; rfl) (argsL := [(.ref b51), (.int (0 : Int32))]) (rest := [(.int (4 : Int32))]) (lenOf pd0_1 rfl) rfl (by show 2 * 0 + _ ≤ _; exact Nat.le_of_eq rfl) (hb hby at_120) (fun _ _ => ⟨rfl, rfl, (by decide : 2 + 0 ≤ _), (by decide : 13 + 0 ≤ _)⟩)
          dsimp only [Pt.U, Pt.locs, Pt.cells, Pt.slots] at X132 l132 y132 z132 st132 hQ132
          subst l132 y132 z132
          obtain ⟨rfl, Nq132, O132, LL132⟩ := hQ132
          have N132 := Fr.app N129 Nq132
          have LM132 : own_L Z n0 T132.heap b51 bq126 kq126 (7 : Int32) (7 : Int32) (10 : Int32) [(.ref aq), (.ref am), (.ref am), (.ref am), (.ref am), (.ref am), (.ref am), .null, .null, .null] := LL132
          obtain ⟨Ea133, Fe133, Fs133, Fg133, Vb133, Ov133, Eb133, ga133, gb133, nab133⟩ := LM132
          refine own_t2 (.int (3 : Int32)) 123 st132 ?_
          refine own_t2 (.int (7 : Int32)) 124 (fun _ q => XS.iadd X132.here hx rfl (hb hby at_123) rfl q) ?_
          refine own_ls #[.val (.int p0), .val (.int p1), .val (.ref b51), .val (.int (7 : Int32))] 125 (fun _ q => XS.istoreN X132.here hx rfl (hb hby at_124) rfl (l' := #[.val (.int p0), .val (.int p1), .val (.ref b51), .val (.int (7 : Int32))]) rfl q) ?_
          refine own_tp (.int (7 : Int32)) 126 (fun _ q => XS.iloadN X132.here hx rfl (hb hby at_125) rfl q) ?_
          refine own_tp (.ref b51) 127 (fun _ q => XS.aloadN X132.here hx rfl (hb hby at_126) rfl rfl q) ?_
          refine own_tp (.int p1) 128 (fun _ q => XS.iloadN X132.here hx rfl (hb hby at_127) rfl q) ?_
          refine own_tp (.int (8 : Int32)) 130 (fun _ q => XS.bipush X132.here hx rfl (hb hby at_128) q) ?_
          refine own_t2 (.int (p1 &&& (8 : Int32))) 131 (fun _ q => XS.iand X132.here hx rfl (hb hby at_130) rfl q) ?_
          by_cases c134 : (p1 &&& (8 : Int32)) = (0 : Int32)
          ·
            refine own_d1 138 (fun _ q => XS.ifYes X132.here hx rfl (pc0 := 131) (pc' := 138) rfl (hb hby at_131) rfl ((if0 _ _).trans (teq c134).1) (by decide) (by decide) q) ?_
            refine own_tp (.int (0 : Int32)) 139 (fun _ q => XS.iconst X132.here hx rfl (hb hby at_138) q) ?_
            obtain ⟨_, _, ⟨T135, L135, k135, n135⟩, -, X135, ⟨Lc135, hQ135, l135, y135, z135⟩, st135⟩ := Jvm.LawKit.callS X132 hx (y := (⟨"com/example/kalends/kalends/LengthRequireMadeUpOfPinLaw", "addBlock", "(Ljava/util/List;Z)I"⟩ : MethodName)) hown (mvT hZ (hw _ (List.mem_of_getElem? (i := 26) rfl))) (mvT hZ (hw _ (List.mem_of_getElem? (i := 27) rfl))) (mvT hZ (hw _ (List.mem_of_getElem? (i := 28) rfl))) (mvT hZ (hw _ (List.mem_of_getElem? (i := 29) rfl))) (by decide) (backOf (W := 1) (rm28 l Z a0 hw [] b51 bq126 kq126 (7 : Int32) (7 : Int32) (10 : Int32) [(.ref aq), (.ref am), (.ref am), (.ref am), (.ref am), (.ref am), (.ref am), .null, .null, .null] 7 T132.heap n0 O132 ⟨Ea133, Fe133, Fs133, Fg133, Vb133, Ov133, Eb133, ga133, gb133, nab133⟩ ⟨by decide, by decide, rfl, by simp⟩ ⟨by decide, by decide, rfl, by simp⟩ ⟨by decide, by decide, rfl, by simp⟩ am aq ay Sm Sq Sy Hm Hq Hy Fm Fq Fy) hZ (hw _ (List.mem_of_getElem? (i := 29) rfl)) (hw _ (List.mem_of_getElem? (i := 28) rfl)) (by decide) (by decide)) (g := (mkF m 139 #[.val (.int p0), .val (.int p1), .val (.ref b51), .val (.int (7 : Int32))] [(.int (0 : Int32)), (.ref b51), (.int (7 : Int32))])) rfl (by rw [hml]; rfl) (argsL := [(.ref b51), (.int (0 : Int32))]) (rest := [(.int (7 : Int32))]) (lenOf pd0_1 rfl) rfl (by show 2 * 0 + _ ≤ _; exact Nat.le_of_eq rfl) (hb hby at_139) (fun _ _ => ⟨rfl, rfl, (by decide : 2 + 0 ≤ _), (by decide : 13 + 0 ≤ _)⟩)
            dsimp only [Pt.U, Pt.locs, Pt.cells, Pt.slots] at X135 l135 y135 z135 st135 hQ135
            subst l135 y135 z135
            obtain ⟨rfl, Nq135, O135, LL135⟩ := hQ135
            have N135 := Fr.app N132 Nq135
            have LM135 : own_L Z n0 T135.heap b51 bq126 kq126 (10 : Int32) (10 : Int32) (10 : Int32) [(.ref aq), (.ref am), (.ref am), (.ref am), (.ref am), (.ref am), (.ref am), (.ref am), (.ref am), (.ref am)] := LL135
            obtain ⟨Ea136, Fe136, Fs136, Fg136, Vb136, Ov136, Eb136, ga136, gb136, nab136⟩ := LM135
            refine own_t2 (.int (3 : Int32)) 142 st135 ?_
            refine own_t2 (.int (10 : Int32)) 143 (fun _ q => XS.iadd X135.here hx rfl (hb hby at_142) rfl q) ?_
            refine own_ls #[.val (.int p0), .val (.int p1), .val (.ref b51), .val (.int (10 : Int32))] 144 (fun _ q => XS.istoreN X135.here hx rfl (hb hby at_143) rfl (l' := #[.val (.int p0), .val (.int p1), .val (.ref b51), .val (.int (10 : Int32))]) rfl q) ?_
            obtain ⟨T137, X137, e137, st137⟩ := getS2 X135 hx hZ hown (host := "") (Or.inl (hw _ (List.mem_of_getElem? (i := 110) rfl))) Via.refl rfl (Sy.ext O135.2) (g := (mkF m 144 #[.val (.int p0), .val (.int p1), .val (.ref b51), .val (.int (10 : Int32))] [])) rfl (hb hby at_144)
            refine own_tp (.ref ay) 147 st137 ?_
            refine own_tp (.ref b51) 148 (fun _ q => XS.aloadN X137.here hx rfl (hb hby at_147) rfl rfl q) ?_
            obtain ⟨cq138, kq138, q138a, q138b, q138c⟩ := isOf hZ e137 (Hy.ext O135.2)
            obtain ⟨_, _, ⟨T138, L138, k138, n138⟩, -, X138, ⟨Lc138, hQ138, l138, y138, z138⟩, st138⟩ := X137.virtualBack hx (y := (⟨"com/example/kalends/kalends/ContractPeriod$Length", "requireMadeUpOf", "(Ljava/util/List;)V"⟩ : MethodName)) (z := (⟨"com/example/kalends/kalends/ContractPeriod$Length", "requireMadeUpOf", "(Ljava/util/List;)V"⟩ : MethodName)) hown (mvT hZ (hw _ (List.mem_of_getElem? (i := 70) rfl))) (mvT hZ (hw _ (List.mem_of_getElem? (i := 71) rfl))) (notFace_of_selects (args := #[]) (mvT hZ (hw _ (List.mem_of_getElem? (i := 73) rfl)))) (mvT hZ (hw _ (List.mem_of_getElem? (i := 73) rfl))) (mvT hZ (hw _ (List.mem_of_getElem? (i := 72) rfl))) (by decide) (backOf (W := 0) (rm24 l Z a0 hw [] ay b51 bq126 kq126 (10 : Int32) (10 : Int32) (10 : Int32) (12 : Int32) [(.ref aq), (.ref am), (.ref am), (.ref am), (.ref am), (.ref am), (.ref am), (.ref am), (.ref am), (.ref am)] [] [true, false, false, false, false, false, false, false, false, false] T135.heap n0 O135 ⟨Ea136, Fe136, Fs136, Fg136, Vb136, Ov136, Eb136, ga136, gb136, nab136⟩ am aq ay Sm Sq Sy Hm Hq Hy Fm Fq Fy Hy Fy rfl (by decide) (by decide) (by decide +kernel)) hZ (hw _ (List.mem_of_getElem? (i := 74) rfl)) (hw _ (List.mem_of_getElem? (i := 31) rfl)) (by decide) (by decide)) q138a q138c (g := (mkF m 148 #[.val (.int p0), .val (.int p1), .val (.ref b51), .val (.int (10 : Int32))] [(.ref b51), (.ref ay)])) rfl (by rw [hml]; rfl) (Steps.refl _) (argsL := [(.ref b51)]) (rest := []) (lenOf pd0_2 rfl) rfl (by show 2 * 0 + _ ≤ _; exact Nat.le_of_eq rfl) (hb hby at_148) (fun _ _ => ⟨rfl, e137, (by decide : 2 + 0 ≤ _), (by decide : 13 + 0 ≤ _)⟩)
            dsimp only [Pt.U, Pt.locs, Pt.cells, Pt.slots] at X138 l138 y138 z138 st138 hQ138
            subst l138 y138 z138
            obtain ⟨rfl, Nq138, eq138⟩ := hQ138
            have N138 := Fr.app N135 Nq138
            refine own_csR [] 151 st138 ?_
            refine own_tp (.ref b51) 152 (fun _ q => XS.aloadN X138.here hx rfl (hb hby at_151) rfl rfl q) ?_
            obtain ⟨cq139, kq139, q139a, q139b, q139c⟩ := isOf hZ eq138 Ea136
            obtain ⟨_, _, ⟨T139, L139, k139, n139⟩, -, X139, ⟨Lc139, hQ139, l139, y139, z139⟩, st139⟩ := X138.interfaceBack hx (xi := (⟨"java/util/List", "size", "()I"⟩ : MethodName)) (y := (⟨"java/util/ArrayList", "size", "()I"⟩ : MethodName)) hown (mvT hZ (hw _ (List.mem_of_getElem? (i := 108) rfl))) (mvT hZ (hw _ (List.mem_of_getElem? (i := 76) rfl))) (mvT hZ (hw _ (List.mem_of_getElem? (i := 77) rfl))) (mvT hZ (hw _ (List.mem_of_getElem? (i := 78) rfl))) (mvT hZ (hw _ (List.mem_of_getElem? (i := 79) rfl))) (mvT hZ (hw _ (List.mem_of_getElem? (i := 80) rfl))) (mvT hZ (hw _ (List.mem_of_getElem? (i := 81) rfl))) (mvT hZ (hw _ (List.mem_of_getElem? (i := 40) rfl))) (by decide) (backOf (W := 0) (rm19 l Z a0 hw [] b51 (10 : Int32) T135.heap n0 Ea136 Fs136) hZ (hw _ (List.mem_of_getElem? (i := 82) rfl)) (hw _ (List.mem_of_getElem? (i := 2) rfl)) (by decide) (by decide)) q139a q139b q139c (g := (mkF m 152 #[.val (.int p0), .val (.int p1), .val (.ref b51), .val (.int (10 : Int32))] [(.ref b51)])) rfl (by rw [hml]; rfl) (Steps.refl _) (argsL := []) (rest := []) (lenOf pd0_3 rfl) rfl (by show 2 * 0 + _ ≤ _; exact Nat.le_of_eq rfl) (hb hby at_152) (fun _ _ => ⟨rfl, eq138, (by decide : 2 + 0 ≤ _), (by decide : 13 + 0 ≤ _)⟩)
            dsimp only [Pt.U, Pt.locs, Pt.cells, Pt.slots] at X139 l139 y139 z139 st139 hQ139
            subst l139 y139 z139
            obtain ⟨rfl, Nq139, eq139⟩ := hQ139
            have N139 := Fr.app N138 Nq139
            refine own_csR [(.int (10 : Int32))] 157 st139 ?_
            refine own_tp (.int (10 : Int32)) 158 (fun _ q => XS.iloadN X139.here hx rfl (hb hby at_157) rfl q) ?_
            refine own_d2 161 (fun _ q => XS.icmpNo X139.here hx rfl (hb hby at_158) rfl (teq (by decide : (10 : Int32) = (10 : Int32))).2 q) ?_
            refine own_tp (.int (1 : Int32)) 162 (fun _ q => XS.iconst X139.here hx rfl (hb hby at_161) q) ?_
            refine own_d0 166 (fun _ q => XS.goto X139.here hx rfl (pc0 := 162) (pc' := 166) rfl (hb hby at_162) (by decide) (by decide) q) ?_
            exact own_retN (t := .boolean) X139 hx hrt (hb hby at_166) (by simp) hlk (by decide) (by decide) eq139 (⟨rfl, N139⟩)
          ·
            refine own_d1 134 (fun _ q => XS.ifNo X132.here hx rfl (hb hby at_131) rfl ((if0 _ _).trans (feq c134).1) q) ?_
            refine own_tp (.int (1 : Int32)) 135 (fun _ q => XS.iconst X132.here hx rfl (hb hby at_134) q) ?_
            refine own_d0 139 (fun _ q => XS.goto X132.here hx rfl (pc0 := 135) (pc' := 139) rfl (hb hby at_135) (by decide) (by decide) q) ?_
            obtain ⟨_, _, ⟨T140, L140, k140, n140⟩, -, X140, ⟨Lc140, hQ140, l140, y140, z140⟩, st140⟩ := Jvm.LawKit.callS X132 hx (y := (⟨"com/example/kalends/kalends/LengthRequireMadeUpOfPinLaw", "addBlock", "(Ljava/util/List;Z)I"⟩ : MethodName)) hown (mvT hZ (hw _ (List.mem_of_getElem? (i := 26) rfl))) (mvT hZ (hw _ (List.mem_of_getElem? (i := 27) rfl))) (mvT hZ (hw _ (List.mem_of_getElem? (i := 28) rfl))) (mvT hZ (hw _ (List.mem_of_getElem? (i := 29) rfl))) (by decide) (backOf (W := 1) (rm27 l Z a0 hw [] b51 bq126 kq126 (7 : Int32) (7 : Int32) (10 : Int32) [(.ref aq), (.ref am), (.ref am), (.ref am), (.ref am), (.ref am), (.ref am), .null, .null, .null] 7 T132.heap n0 O132 ⟨Ea133, Fe133, Fs133, Fg133, Vb133, Ov133, Eb133, ga133, gb133, nab133⟩ ⟨by decide, by decide, rfl, by simp⟩ am aq ay Sm Sq Sy Hm Hq Hy Fm Fq Fy) hZ (hw _ (List.mem_of_getElem? (i := 29) rfl)) (hw _ (List.mem_of_getElem? (i := 28) rfl)) (by decide) (by decide)) (g := (mkF m 139 #[.val (.int p0), .val (.int p1), .val (.ref b51), .val (.int (7 : Int32))] [(.int (1 : Int32)), (.ref b51), (.int (7 : Int32))])) rfl (by rw [hml]; rfl) (argsL := [(.ref b51), (.int (1 : Int32))]) (rest := [(.int (7 : Int32))]) (lenOf pd0_1 rfl) rfl (by show 2 * 0 + _ ≤ _; exact Nat.le_of_eq rfl) (hb hby at_139) (fun _ _ => ⟨rfl, rfl, (by decide : 2 + 0 ≤ _), (by decide : 13 + 0 ≤ _)⟩)
            dsimp only [Pt.U, Pt.locs, Pt.cells, Pt.slots] at X140 l140 y140 z140 st140 hQ140
            subst l140 y140 z140
            obtain ⟨rfl, Nq140, O140, LL140⟩ := hQ140
            have N140 := Fr.app N132 Nq140
            have LM140 : own_L Z n0 T140.heap b51 bq126 kq126 (8 : Int32) (8 : Int32) (10 : Int32) [(.ref aq), (.ref am), (.ref am), (.ref am), (.ref am), (.ref am), (.ref am), (.ref aq), .null, .null] := LL140
            obtain ⟨Ea141, Fe141, Fs141, Fg141, Vb141, Ov141, Eb141, ga141, gb141, nab141⟩ := LM140
            refine own_t2 (.int (1 : Int32)) 142 st140 ?_
            refine own_t2 (.int (8 : Int32)) 143 (fun _ q => XS.iadd X140.here hx rfl (hb hby at_142) rfl q) ?_
            refine own_ls #[.val (.int p0), .val (.int p1), .val (.ref b51), .val (.int (8 : Int32))] 144 (fun _ q => XS.istoreN X140.here hx rfl (hb hby at_143) rfl (l' := #[.val (.int p0), .val (.int p1), .val (.ref b51), .val (.int (8 : Int32))]) rfl q) ?_
            obtain ⟨T142, X142, e142, st142⟩ := getS2 X140 hx hZ hown (host := "") (Or.inl (hw _ (List.mem_of_getElem? (i := 110) rfl))) Via.refl rfl (Sy.ext O140.2) (g := (mkF m 144 #[.val (.int p0), .val (.int p1), .val (.ref b51), .val (.int (8 : Int32))] [])) rfl (hb hby at_144)
            refine own_tp (.ref ay) 147 st142 ?_
            refine own_tp (.ref b51) 148 (fun _ q => XS.aloadN X142.here hx rfl (hb hby at_147) rfl rfl q) ?_
            obtain ⟨cq143, kq143, q143a, q143b, q143c⟩ := isOf hZ e142 (Hy.ext O140.2)
            obtain ⟨_, _, ⟨T143, L143, k143, n143⟩, -, X143, ⟨Lc143, hQ143, l143, y143, z143⟩, st143⟩ := X142.virtualBack hx (y := (⟨"com/example/kalends/kalends/ContractPeriod$Length", "requireMadeUpOf", "(Ljava/util/List;)V"⟩ : MethodName)) (z := (⟨"com/example/kalends/kalends/ContractPeriod$Length", "requireMadeUpOf", "(Ljava/util/List;)V"⟩ : MethodName)) hown (mvT hZ (hw _ (List.mem_of_getElem? (i := 70) rfl))) (mvT hZ (hw _ (List.mem_of_getElem? (i := 71) rfl))) (notFace_of_selects (args := #[]) (mvT hZ (hw _ (List.mem_of_getElem? (i := 73) rfl)))) (mvT hZ (hw _ (List.mem_of_getElem? (i := 73) rfl))) (mvT hZ (hw _ (List.mem_of_getElem? (i := 72) rfl))) (by decide) (backOf (W := 0) (rm24 l Z a0 hw [] ay b51 bq126 kq126 (8 : Int32) (8 : Int32) (10 : Int32) (12 : Int32) [(.ref aq), (.ref am), (.ref am), (.ref am), (.ref am), (.ref am), (.ref am), (.ref aq), .null, .null] [.null, .null] [true, false, false, false, false, false, false, true] T140.heap n0 O140 ⟨Ea141, Fe141, Fs141, Fg141, Vb141, Ov141, Eb141, ga141, gb141, nab141⟩ am aq ay Sm Sq Sy Hm Hq Hy Fm Fq Fy Hy Fy rfl (by decide) (by decide) (by decide +kernel)) hZ (hw _ (List.mem_of_getElem? (i := 74) rfl)) (hw _ (List.mem_of_getElem? (i := 31) rfl)) (by decide) (by decide)) q143a q143c (g := (mkF m 148 #[.val (.int p0), .val (.int p1), .val (.ref b51), .val (.int (8 : Int32))] [(.ref b51), (.ref ay)])) rfl (by rw [hml]; rfl) (Steps.refl _) (argsL := [(.ref b51)]) (rest := []) (lenOf pd0_2 rfl) rfl (by show 2 * 0 + _ ≤ _; exact Nat.le_of_eq rfl) (hb hby at_148) (fun _ _ => ⟨rfl, e142, (by decide : 2 + 0 ≤ _), (by decide : 13 + 0 ≤ _)⟩)
            dsimp only [Pt.U, Pt.locs, Pt.cells, Pt.slots] at X143 l143 y143 z143 st143 hQ143
            subst l143 y143 z143
            obtain ⟨rfl, Nq143, eq143⟩ := hQ143
            have N143 := Fr.app N140 Nq143
            refine own_csR [] 151 st143 ?_
            refine own_tp (.ref b51) 152 (fun _ q => XS.aloadN X143.here hx rfl (hb hby at_151) rfl rfl q) ?_
            obtain ⟨cq144, kq144, q144a, q144b, q144c⟩ := isOf hZ eq143 Ea141
            obtain ⟨_, _, ⟨T144, L144, k144, n144⟩, -, X144, ⟨Lc144, hQ144, l144, y144, z144⟩, st144⟩ := X143.interfaceBack hx (xi := (⟨"java/util/List", "size", "()I"⟩ : MethodName)) (y := (⟨"java/util/ArrayList", "size", "()I"⟩ : MethodName)) hown (mvT hZ (hw _ (List.mem_of_getElem? (i := 108) rfl))) (mvT hZ (hw _ (List.mem_of_getElem? (i := 76) rfl))) (mvT hZ (hw _ (List.mem_of_getElem? (i := 77) rfl))) (mvT hZ (hw _ (List.mem_of_getElem? (i := 78) rfl))) (mvT hZ (hw _ (List.mem_of_getElem? (i := 79) rfl))) (mvT hZ (hw _ (List.mem_of_getElem? (i := 80) rfl))) (mvT hZ (hw _ (List.mem_of_getElem? (i := 81) rfl))) (mvT hZ (hw _ (List.mem_of_getElem? (i := 40) rfl))) (by decide) (backOf (W := 0) (rm19 l Z a0 hw [] b51 (8 : Int32) T140.heap n0 Ea141 Fs141) hZ (hw _ (List.mem_of_getElem? (i := 82) rfl)) (hw _ (List.mem_of_getElem? (i := 2) rfl)) (by decide) (by decide)) q144a q144b q144c (g := (mkF m 152 #[.val (.int p0), .val (.int p1), .val (.ref b51), .val (.int (8 : Int32))] [(.ref b51)])) rfl (by rw [hml]; rfl) (Steps.refl _) (argsL := []) (rest := []) (lenOf pd0_3 rfl) rfl (by show 2 * 0 + _ ≤ _; exact Nat.le_of_eq rfl) (hb hby at_152) (fun _ _ => ⟨rfl, eq143, (by decide : 2 + 0 ≤ _), (by decide : 13 + 0 ≤ _)⟩)
            dsimp only [Pt.U, Pt.locs, Pt.cells, Pt.slots] at X144 l144 y144 z144 st144 hQ144
            subst l144 y144 z144
            obtain ⟨rfl, Nq144, eq144⟩ := hQ144
            have N144 := Fr.app N143 Nq144
            refine own_csR [(.int (8 : Int32))] 157 st144 ?_
            refine own_tp (.int (8 : Int32)) 158 (fun _ q => XS.iloadN X144.here hx rfl (hb hby at_157) rfl q) ?_
            refine own_d2 161 (fun _ q => XS.icmpNo X144.here hx rfl (hb hby at_158) rfl (teq (by decide : (8 : Int32) = (8 : Int32))).2 q) ?_
            refine own_tp (.int (1 : Int32)) 162 (fun _ q => XS.iconst X144.here hx rfl (hb hby at_161) q) ?_
            refine own_d0 166 (fun _ q => XS.goto X144.here hx rfl (pc0 := 162) (pc' := 166) rfl (hb hby at_162) (by decide) (by decide) q) ?_
            exact own_retN (t := .boolean) X144 hx hrt (hb hby at_166) (by simp) hlk (by decide) (by decide) eq144 (⟨rfl, N144⟩)
        ·
          refine own_d1 115 (fun _ q => XS.ifNo X129.here hx rfl (hb hby at_112) rfl ((if0 _ _).trans (feq c131).1) q) ?_
          refine own_tp (.int (1 : Int32)) 116 (fun _ q => XS.iconst X129.here hx rfl (hb hby at_115) q) ?_
          refine own_d0 120 (fun _ q => XS.goto X129.here hx rfl (pc0 := 116) (pc' := 120) rfl (hb hby at_116) (by decide) (by decide) q) ?_
          obtain ⟨_, _, ⟨T145, L145, k145, n145⟩, -, X145, ⟨Lc145, hQ145, l145, y145, z145⟩, st145⟩ := Jvm.LawKit.callS X129 hx (y := (⟨"com/example/kalends/kalends/LengthRequireMadeUpOfPinLaw", "addBlock", "(Ljava/util/List;Z)I"⟩ : MethodName)) hown (mvT hZ (hw _ (List.mem_of_getElem? (i := 26) rfl))) (mvT hZ (hw _ (List.mem_of_getElem? (i := 27) rfl))) (mvT hZ (hw _ (List.mem_of_getElem? (i := 28) rfl))) (mvT hZ (hw _ (List.mem_of_getElem? (i := 29) rfl))) (by decide) (backOf (W := 1) (rm27 l Z a0 hw [] b51 bq126 kq126 (4 : Int32) (4 : Int32) (10 : Int32) [(.ref aq), (.ref am), (.ref am), (.ref am), .null, .null, .null, .null, .null, .null] 4 T129.heap n0 O129 ⟨Ea130, Fe130, Fs130, Fg130, Vb130, Ov130, Eb130, ga130, gb130, nab130⟩ ⟨by decide, by decide, rfl, by simp⟩ am aq ay Sm Sq Sy Hm Hq Hy Fm Fq Fy) hZ (hw _ (List.mem_of_getElem? (i := 29) rfl)) (hw _ (List.mem_of_getElem? (i := 28) rfl)) (by decide) (by decide)) (g := (mkF m 120 #[.val (.int p0), .val (.int p1), .val (.ref b51), .val (.int (4 : Int32))] [(.int (1 : Int32)), (.ref b51), (.int (4 : Int32))])) rfl (by rw [hml]; rfl) (argsL := [(.ref b51), (.int (1 : Int32))]) (rest := [(.int (4 : Int32))]) (lenOf pd0_1 rfl) rfl (by show 2 * 0 + _ ≤ _; exact Nat.le_of_eq rfl) (hb hby at_120) (fun _ _ => ⟨rfl, rfl, (by decide : 2 + 0 ≤ _), (by decide : 13 + 0 ≤ _)⟩)
          dsimp only [Pt.U, Pt.locs, Pt.cells, Pt.slots] at X145 l145 y145 z145 st145 hQ145
          subst l145 y145 z145
          obtain ⟨rfl, Nq145, O145, LL145⟩ := hQ145
          have N145 := Fr.app N129 Nq145
          have LM145 : own_L Z n0 T145.heap b51 bq126 kq126 (5 : Int32) (5 : Int32) (10 : Int32) [(.ref aq), (.ref am), (.ref am), (.ref am), (.ref aq), .null, .null, .null, .null, .null] := LL145
          obtain ⟨Ea146, Fe146, Fs146, Fg146, Vb146, Ov146, Eb146, ga146, gb146, nab146⟩ := LM145
          refine own_t2 (.int (1 : Int32)) 123 st145 ?_
          refine own_t2 (.int (5 : Int32)) 124 (fun _ q => XS.iadd X145.here hx rfl (hb hby at_123) rfl q) ?_
          refine own_ls #[.val (.int p0), .val (.int p1), .val (.ref b51), .val (.int (5 : Int32))] 125 (fun _ q => XS.istoreN X145.here hx rfl (hb hby at_124) rfl (l' := #[.val (.int p0), .val (.int p1), .val (.ref b51), .val (.int (5 : Int32))]) rfl q) ?_
          refine own_tp (.int (5 : Int32)) 126 (fun _ q => XS.iloadN X145.here hx rfl (hb hby at_125) rfl q) ?_
          refine own_tp (.ref b51) 127 (fun _ q => XS.aloadN X145.here hx rfl (hb hby at_126) rfl rfl q) ?_
          refine own_tp (.int p1) 128 (fun _ q => XS.iloadN X145.here hx rfl (hb hby at_127) rfl q) ?_
          refine own_tp (.int (8 : Int32)) 130 (fun _ q => XS.bipush X145.here hx rfl (hb hby at_128) q) ?_
          refine own_t2 (.int (p1 &&& (8 : Int32))) 131 (fun _ q => XS.iand X145.here hx rfl (hb hby at_130) rfl q) ?_
          by_cases c147 : (p1 &&& (8 : Int32)) = (0 : Int32)
          ·
            refine own_d1 138 (fun _ q => XS.ifYes X145.here hx rfl (pc0 := 131) (pc' := 138) rfl (hb hby at_131) rfl ((if0 _ _).trans (teq c147).1) (by decide) (by decide) q) ?_
            refine own_tp (.int (0 : Int32)) 139 (fun _ q => XS.iconst X145.here hx rfl (hb hby at_138) q) ?_
            obtain ⟨_, _, ⟨T148, L148, k148, n148⟩, -, X148, ⟨Lc148, hQ148, l148, y148, z148⟩, st148⟩ := Jvm.LawKit.callS X145 hx (y := (⟨"com/example/kalends/kalends/LengthRequireMadeUpOfPinLaw", "addBlock", "(Ljava/util/List;Z)I"⟩ : MethodName)) hown (mvT hZ (hw _ (List.mem_of_getElem? (i := 26) rfl))) (mvT hZ (hw _ (List.mem_of_getElem? (i := 27) rfl))) (mvT hZ (hw _ (List.mem_of_getElem? (i := 28) rfl))) (mvT hZ (hw _ (List.mem_of_getElem? (i := 29) rfl))) (by decide) (backOf (W := 1) (rm28 l Z a0 hw [] b51 bq126 kq126 (5 : Int32) (5 : Int32) (10 : Int32) [(.ref aq), (.ref am), (.ref am), (.ref am), (.ref aq), .null, .null, .null, .null, .null] 5 T145.heap n0 O145 ⟨Ea146, Fe146, Fs146, Fg146, Vb146, Ov146, Eb146, ga146, gb146, nab146⟩ ⟨by decide, by decide, rfl, by simp⟩ ⟨by decide, by decide, rfl, by simp⟩ ⟨by decide, by decide, rfl, by simp⟩ am aq ay Sm Sq Sy Hm Hq Hy Fm Fq Fy) hZ (hw _ (List.mem_of_getElem? (i := 29) rfl)) (hw _ (List.mem_of_getElem? (i := 28) rfl)) (by decide) (by decide)) (g := (mkF m 139 #[.val (.int p0), .val (.int p1), .val (.ref b51), .val (.int (5 : Int32))] [(.int (0 : Int32)), (.ref b51), (.int (5 : Int32))])) rfl (by rw [hml]; rfl) (argsL := [(.ref b51), (.int (0 : Int32))]) (rest := [(.int (5 : Int32))]) (lenOf pd0_1 rfl) rfl (by show 2 * 0 + _ ≤ _; exact Nat.le_of_eq rfl) (hb hby at_139) (fun _ _ => ⟨rfl, rfl, (by decide : 2 + 0 ≤ _), (by decide : 13 + 0 ≤ _)⟩)
            dsimp only [Pt.U, Pt.locs, Pt.cells, Pt.slots] at X148 l148 y148 z148 st148 hQ148
            subst l148 y148 z148
            obtain ⟨rfl, Nq148, O148, LL148⟩ := hQ148
            have N148 := Fr.app N145 Nq148
            have LM148 : own_L Z n0 T148.heap b51 bq126 kq126 (8 : Int32) (8 : Int32) (10 : Int32) [(.ref aq), (.ref am), (.ref am), (.ref am), (.ref aq), (.ref am), (.ref am), (.ref am), .null, .null] := LL148
            obtain ⟨Ea149, Fe149, Fs149, Fg149, Vb149, Ov149, Eb149, ga149, gb149, nab149⟩ := LM148
            refine own_t2 (.int (3 : Int32)) 142 st148 ?_
            refine own_t2 (.int (8 : Int32)) 143 (fun _ q => XS.iadd X148.here hx rfl (hb hby at_142) rfl q) ?_
            refine own_ls #[.val (.int p0), .val (.int p1), .val (.ref b51), .val (.int (8 : Int32))] 144 (fun _ q => XS.istoreN X148.here hx rfl (hb hby at_143) rfl (l' := #[.val (.int p0), .val (.int p1), .val (.ref b51), .val (.int (8 : Int32))]) rfl q) ?_
            obtain ⟨T150, X150, e150, st150⟩ := getS2 X148 hx hZ hown (host := "") (Or.inl (hw _ (List.mem_of_getElem? (i := 110) rfl))) Via.refl rfl (Sy.ext O148.2) (g := (mkF m 144 #[.val (.int p0), .val (.int p1), .val (.ref b51), .val (.int (8 : Int32))] [])) rfl (hb hby at_144)
            refine own_tp (.ref ay) 147 st150 ?_
            refine own_tp (.ref b51) 148 (fun _ q => XS.aloadN X150.here hx rfl (hb hby at_147) rfl rfl q) ?_
            obtain ⟨cq151, kq151, q151a, q151b, q151c⟩ := isOf hZ e150 (Hy.ext O148.2)
            obtain ⟨_, _, ⟨T151, L151, k151, n151⟩, -, X151, ⟨Lc151, hQ151, l151, y151, z151⟩, st151⟩ := X150.virtualBack hx (y := (⟨"com/example/kalends/kalends/ContractPeriod$Length", "requireMadeUpOf", "(Ljava/util/List;)V"⟩ : MethodName)) (z := (⟨"com/example/kalends/kalends/ContractPeriod$Length", "requireMadeUpOf", "(Ljava/util/List;)V"⟩ : MethodName)) hown (mvT hZ (hw _ (List.mem_of_getElem? (i := 70) rfl))) (mvT hZ (hw _ (List.mem_of_getElem? (i := 71) rfl))) (notFace_of_selects (args := #[]) (mvT hZ (hw _ (List.mem_of_getElem? (i := 73) rfl)))) (mvT hZ (hw _ (List.mem_of_getElem? (i := 73) rfl))) (mvT hZ (hw _ (List.mem_of_getElem? (i := 72) rfl))) (by decide) (backOf (W := 0) (rm24 l Z a0 hw [] ay b51 bq126 kq126 (8 : Int32) (8 : Int32) (10 : Int32) (12 : Int32) [(.ref aq), (.ref am), (.ref am), (.ref am), (.ref aq), (.ref am), (.ref am), (.ref am), .null, .null] [.null, .null] [true, false, false, false, true, false, false, false] T148.heap n0 O148 ⟨Ea149, Fe149, Fs149, Fg149, Vb149, Ov149, Eb149, ga149, gb149, nab149⟩ am aq ay Sm Sq Sy Hm Hq Hy Fm Fq Fy Hy Fy rfl (by decide) (by decide) (by decide +kernel)) hZ (hw _ (List.mem_of_getElem? (i := 74) rfl)) (hw _ (List.mem_of_getElem? (i := 31) rfl)) (by decide) (by decide)) q151a q151c (g := (mkF m 148 #[.val (.int p0), .val (.int p1), .val (.ref b51), .val (.int (8 : Int32))] [(.ref b51), (.ref ay)])) rfl (by rw [hml]; rfl) (Steps.refl _) (argsL := [(.ref b51)]) (rest := []) (lenOf pd0_2 rfl) rfl (by show 2 * 0 + _ ≤ _; exact Nat.le_of_eq rfl) (hb hby at_148) (fun _ _ => ⟨rfl, e150, (by decide : 2 + 0 ≤ _), (by decide : 13 + 0 ≤ _)⟩)
            dsimp only [Pt.U, Pt.locs, Pt.cells, Pt.slots] at X151 l151 y151 z151 st151 hQ151
            subst l151 y151 z151
            obtain ⟨rfl, Nq151, eq151⟩ := hQ151
            have N151 := Fr.app N148 Nq151
            refine own_csR [] 151 st151 ?_
            refine own_tp (.ref b51) 152 (fun _ q => XS.aloadN X151.here hx rfl (hb hby at_151) rfl rfl q) ?_
            obtain ⟨cq152, kq152, q152a, q152b, q152c⟩ := isOf hZ eq151 Ea149
            obtain ⟨_, _, ⟨T152, L152, k152, n152⟩, -, X152, ⟨Lc152, hQ152, l152, y152, z152⟩, st152⟩ := X151.interfaceBack hx (xi := (⟨"java/util/List", "size", "()I"⟩ : MethodName)) (y := (⟨"java/util/ArrayList", "size", "()I"⟩ : MethodName)) hown (mvT hZ (hw _ (List.mem_of_getElem? (i := 108) rfl))) (mvT hZ (hw _ (List.mem_of_getElem? (i := 76) rfl))) (mvT hZ (hw _ (List.mem_of_getElem? (i := 77) rfl))) (mvT hZ (hw _ (List.mem_of_getElem? (i := 78) rfl))) (mvT hZ (hw _ (List.mem_of_getElem? (i := 79) rfl))) (mvT hZ (hw _ (List.mem_of_getElem? (i := 80) rfl))) (mvT hZ (hw _ (List.mem_of_getElem? (i := 81) rfl))) (mvT hZ (hw _ (List.mem_of_getElem? (i := 40) rfl))) (by decide) (backOf (W := 0) (rm19 l Z a0 hw [] b51 (8 : Int32) T148.heap n0 Ea149 Fs149) hZ (hw _ (List.mem_of_getElem? (i := 82) rfl)) (hw _ (List.mem_of_getElem? (i := 2) rfl)) (by decide) (by decide)) q152a q152b q152c (g := (mkF m 152 #[.val (.int p0), .val (.int p1), .val (.ref b51), .val (.int (8 : Int32))] [(.ref b51)])) rfl (by rw [hml]; rfl) (Steps.refl _) (argsL := []) (rest := []) (lenOf pd0_3 rfl) rfl (by show 2 * 0 + _ ≤ _; exact Nat.le_of_eq rfl) (hb hby at_152) (fun _ _ => ⟨rfl, eq151, (by decide : 2 + 0 ≤ _), (by decide : 13 + 0 ≤ _)⟩)
            dsimp only [Pt.U, Pt.locs, Pt.cells, Pt.slots] at X152 l152 y152 z152 st152 hQ152
            subst l152 y152 z152
            obtain ⟨rfl, Nq152, eq152⟩ := hQ152
            have N152 := Fr.app N151 Nq152
            refine own_csR [(.int (8 : Int32))] 157 st152 ?_
            refine own_tp (.int (8 : Int32)) 158 (fun _ q => XS.iloadN X152.here hx rfl (hb hby at_157) rfl q) ?_
            refine own_d2 161 (fun _ q => XS.icmpNo X152.here hx rfl (hb hby at_158) rfl (teq (by decide : (8 : Int32) = (8 : Int32))).2 q) ?_
            refine own_tp (.int (1 : Int32)) 162 (fun _ q => XS.iconst X152.here hx rfl (hb hby at_161) q) ?_
            refine own_d0 166 (fun _ q => XS.goto X152.here hx rfl (pc0 := 162) (pc' := 166) rfl (hb hby at_162) (by decide) (by decide) q) ?_
            exact own_retN (t := .boolean) X152 hx hrt (hb hby at_166) (by simp) hlk (by decide) (by decide) eq152 (⟨rfl, N152⟩)
          ·
            refine own_d1 134 (fun _ q => XS.ifNo X145.here hx rfl (hb hby at_131) rfl ((if0 _ _).trans (feq c147).1) q) ?_
            refine own_tp (.int (1 : Int32)) 135 (fun _ q => XS.iconst X145.here hx rfl (hb hby at_134) q) ?_
            refine own_d0 139 (fun _ q => XS.goto X145.here hx rfl (pc0 := 135) (pc' := 139) rfl (hb hby at_135) (by decide) (by decide) q) ?_
            obtain ⟨_, _, ⟨T153, L153, k153, n153⟩, -, X153, ⟨Lc153, hQ153, l153, y153, z153⟩, st153⟩ := Jvm.LawKit.callS X145 hx (y := (⟨"com/example/kalends/kalends/LengthRequireMadeUpOfPinLaw", "addBlock", "(Ljava/util/List;Z)I"⟩ : MethodName)) hown (mvT hZ (hw _ (List.mem_of_getElem? (i := 26) rfl))) (mvT hZ (hw _ (List.mem_of_getElem? (i := 27) rfl))) (mvT hZ (hw _ (List.mem_of_getElem? (i := 28) rfl))) (mvT hZ (hw _ (List.mem_of_getElem? (i := 29) rfl))) (by decide) (backOf (W := 1) (rm27 l Z a0 hw [] b51 bq126 kq126 (5 : Int32) (5 : Int32) (10 : Int32) [(.ref aq), (.ref am), (.ref am), (.ref am), (.ref aq), .null, .null, .null, .null, .null] 5 T145.heap n0 O145 ⟨Ea146, Fe146, Fs146, Fg146, Vb146, Ov146, Eb146, ga146, gb146, nab146⟩ ⟨by decide, by decide, rfl, by simp⟩ am aq ay Sm Sq Sy Hm Hq Hy Fm Fq Fy) hZ (hw _ (List.mem_of_getElem? (i := 29) rfl)) (hw _ (List.mem_of_getElem? (i := 28) rfl)) (by decide) (by decide)) (g := (mkF m 139 #[.val (.int p0), .val (.int p1), .val (.ref b51), .val (.int (5 : Int32))] [(.int (1 : Int32)), (.ref b51), (.int (5 : Int32))])) rfl (by rw [hml]; rfl) (argsL := [(.ref b51), (.int (1 : Int32))]) (rest := [(.int (5 : Int32))]) (lenOf pd0_1 rfl) rfl (by show 2 * 0 + _ ≤ _; exact Nat.le_of_eq rfl) (hb hby at_139) (fun _ _ => ⟨rfl, rfl, (by decide : 2 + 0 ≤ _), (by decide : 13 + 0 ≤ _)⟩)
            dsimp only [Pt.U, Pt.locs, Pt.cells, Pt.slots] at X153 l153 y153 z153 st153 hQ153
            subst l153 y153 z153
            obtain ⟨rfl, Nq153, O153, LL153⟩ := hQ153
            have N153 := Fr.app N145 Nq153
            have LM153 : own_L Z n0 T153.heap b51 bq126 kq126 (6 : Int32) (6 : Int32) (10 : Int32) [(.ref aq), (.ref am), (.ref am), (.ref am), (.ref aq), (.ref aq), .null, .null, .null, .null] := LL153
            obtain ⟨Ea154, Fe154, Fs154, Fg154, Vb154, Ov154, Eb154, ga154, gb154, nab154⟩ := LM153
            refine own_t2 (.int (1 : Int32)) 142 st153 ?_
            refine own_t2 (.int (6 : Int32)) 143 (fun _ q => XS.iadd X153.here hx rfl (hb hby at_142) rfl q) ?_
            refine own_ls #[.val (.int p0), .val (.int p1), .val (.ref b51), .val (.int (6 : Int32))] 144 (fun _ q => XS.istoreN X153.here hx rfl (hb hby at_143) rfl (l' := #[.val (.int p0), .val (.int p1), .val (.ref b51), .val (.int (6 : Int32))]) rfl q) ?_
            obtain ⟨T155, X155, e155, st155⟩ := getS2 X153 hx hZ hown (host := "") (Or.inl (hw _ (List.mem_of_getElem? (i := 110) rfl))) Via.refl rfl (Sy.ext O153.2) (g := (mkF m 144 #[.val (.int p0), .val (.int p1), .val (.ref b51), .val (.int (6 : Int32))] [])) rfl (hb hby at_144)
            refine own_tp (.ref ay) 147 st155 ?_
            refine own_tp (.ref b51) 148 (fun _ q => XS.aloadN X155.here hx rfl (hb hby at_147) rfl rfl q) ?_
            obtain ⟨cq156, kq156, q156a, q156b, q156c⟩ := isOf hZ e155 (Hy.ext O153.2)
            obtain ⟨_, _, ⟨T156, L156, k156, n156⟩, -, X156, ⟨Lc156, hQ156, l156, y156, z156⟩, st156⟩ := X155.virtualBack hx (y := (⟨"com/example/kalends/kalends/ContractPeriod$Length", "requireMadeUpOf", "(Ljava/util/List;)V"⟩ : MethodName)) (z := (⟨"com/example/kalends/kalends/ContractPeriod$Length", "requireMadeUpOf", "(Ljava/util/List;)V"⟩ : MethodName)) hown (mvT hZ (hw _ (List.mem_of_getElem? (i := 70) rfl))) (mvT hZ (hw _ (List.mem_of_getElem? (i := 71) rfl))) (notFace_of_selects (args := #[]) (mvT hZ (hw _ (List.mem_of_getElem? (i := 73) rfl)))) (mvT hZ (hw _ (List.mem_of_getElem? (i := 73) rfl))) (mvT hZ (hw _ (List.mem_of_getElem? (i := 72) rfl))) (by decide) (backOf (W := 0) (rm24 l Z a0 hw [] ay b51 bq126 kq126 (6 : Int32) (6 : Int32) (10 : Int32) (12 : Int32) [(.ref aq), (.ref am), (.ref am), (.ref am), (.ref aq), (.ref aq), .null, .null, .null, .null] [.null, .null, .null, .null] [true, false, false, false, true, true] T153.heap n0 O153 ⟨Ea154, Fe154, Fs154, Fg154, Vb154, Ov154, Eb154, ga154, gb154, nab154⟩ am aq ay Sm Sq Sy Hm Hq Hy Fm Fq Fy Hy Fy rfl (by decide) (by decide) (by decide +kernel)) hZ (hw _ (List.mem_of_getElem? (i := 74) rfl)) (hw _ (List.mem_of_getElem? (i := 31) rfl)) (by decide) (by decide)) q156a q156c (g := (mkF m 148 #[.val (.int p0), .val (.int p1), .val (.ref b51), .val (.int (6 : Int32))] [(.ref b51), (.ref ay)])) rfl (by rw [hml]; rfl) (Steps.refl _) (argsL := [(.ref b51)]) (rest := []) (lenOf pd0_2 rfl) rfl (by show 2 * 0 + _ ≤ _; exact Nat.le_of_eq rfl) (hb hby at_148) (fun _ _ => ⟨rfl, e155, (by decide : 2 + 0 ≤ _), (by decide : 13 + 0 ≤ _)⟩)
            dsimp only [Pt.U, Pt.locs, Pt.cells, Pt.slots] at X156 l156 y156 z156 st156 hQ156
            subst l156 y156 z156
            obtain ⟨rfl, Nq156, eq156⟩ := hQ156
            have N156 := Fr.app N153 Nq156
            refine own_csR [] 151 st156 ?_
            refine own_tp (.ref b51) 152 (fun _ q => XS.aloadN X156.here hx rfl (hb hby at_151) rfl rfl q) ?_
            obtain ⟨cq157, kq157, q157a, q157b, q157c⟩ := isOf hZ eq156 Ea154
            obtain ⟨_, _, ⟨T157, L157, k157, n157⟩, -, X157, ⟨Lc157, hQ157, l157, y157, z157⟩, st157⟩ := X156.interfaceBack hx (xi := (⟨"java/util/List", "size", "()I"⟩ : MethodName)) (y := (⟨"java/util/ArrayList", "size", "()I"⟩ : MethodName)) hown (mvT hZ (hw _ (List.mem_of_getElem? (i := 108) rfl))) (mvT hZ (hw _ (List.mem_of_getElem? (i := 76) rfl))) (mvT hZ (hw _ (List.mem_of_getElem? (i := 77) rfl))) (mvT hZ (hw _ (List.mem_of_getElem? (i := 78) rfl))) (mvT hZ (hw _ (List.mem_of_getElem? (i := 79) rfl))) (mvT hZ (hw _ (List.mem_of_getElem? (i := 80) rfl))) (mvT hZ (hw _ (List.mem_of_getElem? (i := 81) rfl))) (mvT hZ (hw _ (List.mem_of_getElem? (i := 40) rfl))) (by decide) (backOf (W := 0) (rm19 l Z a0 hw [] b51 (6 : Int32) T153.heap n0 Ea154 Fs154) hZ (hw _ (List.mem_of_getElem? (i := 82) rfl)) (hw _ (List.mem_of_getElem? (i := 2) rfl)) (by decide) (by decide)) q157a q157b q157c (g := (mkF m 152 #[.val (.int p0), .val (.int p1), .val (.ref b51), .val (.int (6 : Int32))] [(.ref b51)])) rfl (by rw [hml]; rfl) (Steps.refl _) (argsL := []) (rest := []) (lenOf pd0_3 rfl) rfl (by show 2 * 0 + _ ≤ _; exact Nat.le_of_eq rfl) (hb hby at_152) (fun _ _ => ⟨rfl, eq156, (by decide : 2 + 0 ≤ _), (by decide : 13 + 0 ≤ _)⟩)
            dsimp only [Pt.U, Pt.locs, Pt.cells, Pt.slots] at X157 l157 y157 z157 st157 hQ157
            subst l157 y157 z157
            obtain ⟨rfl, Nq157, eq157⟩ := hQ157
            have N157 := Fr.app N156 Nq157
            refine own_csR [(.int (6 : Int32))] 157 st157 ?_
            refine own_tp (.int (6 : Int32)) 158 (fun _ q => XS.iloadN X157.here hx rfl (hb hby at_157) rfl q) ?_
            refine own_d2 161 (fun _ q => XS.icmpNo X157.here hx rfl (hb hby at_158) rfl (teq (by decide : (6 : Int32) = (6 : Int32))).2 q) ?_
            refine own_tp (.int (1 : Int32)) 162 (fun _ q => XS.iconst X157.here hx rfl (hb hby at_161) q) ?_
            refine own_d0 166 (fun _ q => XS.goto X157.here hx rfl (pc0 := 162) (pc' := 166) rfl (hb hby at_162) (by decide) (by decide) q) ?_
            exact own_retN (t := .boolean) X157 hx hrt (hb hby at_166) (by simp) hlk (by decide) (by decide) eq157 (⟨rfl, N157⟩)
      ·
        refine own_d1 97 (fun _ q => XS.ifNo X126.here hx rfl (hb hby at_94) rfl ((if0 _ _).trans (feq c128).1) q) ?_
        refine own_tp (.int (1 : Int32)) 98 (fun _ q => XS.iconst X126.here hx rfl (hb hby at_97) q) ?_
        refine own_d0 102 (fun _ q => XS.goto X126.here hx rfl (pc0 := 98) (pc' := 102) rfl (hb hby at_98) (by decide) (by decide) q) ?_
        obtain ⟨_, _, ⟨T158, L158, k158, n158⟩, -, X158, ⟨Lc158, hQ158, l158, y158, z158⟩, st158⟩ := Jvm.LawKit.callS X126 hx (y := (⟨"com/example/kalends/kalends/LengthRequireMadeUpOfPinLaw", "addBlock", "(Ljava/util/List;Z)I"⟩ : MethodName)) hown (mvT hZ (hw _ (List.mem_of_getElem? (i := 26) rfl))) (mvT hZ (hw _ (List.mem_of_getElem? (i := 27) rfl))) (mvT hZ (hw _ (List.mem_of_getElem? (i := 28) rfl))) (mvT hZ (hw _ (List.mem_of_getElem? (i := 29) rfl))) (by decide) (backOf (W := 1) (rm27 l Z a0 hw [] b51 bq126 kq126 (1 : Int32) (1 : Int32) (10 : Int32) [(.ref aq), .null, .null, .null, .null, .null, .null, .null, .null, .null] 1 T126.heap n0 O126 ⟨Ea127, Fe127, Fs127, Fg127, Vb127, Ov127, Eb127, ga127, gb127, nab127⟩ ⟨by decide, by decide, rfl, by simp⟩ am aq ay Sm Sq Sy Hm Hq Hy Fm Fq Fy) hZ (hw _ (List.mem_of_getElem? (i := 29) rfl)) (hw _ (List.mem_of_getElem? (i := 28) rfl)) (by decide) (by decide)) (g := (mkF m 102 #[.val (.int p0), .val (.int p1), .val (.ref b51), .val (.int (1 : Int32))] [(.int (1 : Int32)), (.ref b51), (.int (1 : Int32))])) rfl (by rw [hml]; rfl) (argsL := [(.ref b51), (.int (1 : Int32))]) (rest := [(.int (1 : Int32))]) (lenOf pd0_1 rfl) rfl (by show 2 * 0 + _ ≤ _; exact Nat.le_of_eq rfl) (hb hby at_102) (fun _ _ => ⟨rfl, rfl, (by decide : 2 + 0 ≤ _), (by decide : 13 + 0 ≤ _)⟩)
        dsimp only [Pt.U, Pt.locs, Pt.cells, Pt.slots] at X158 l158 y158 z158 st158 hQ158
        subst l158 y158 z158
        obtain ⟨rfl, Nq158, O158, LL158⟩ := hQ158
        have N158 := Fr.app N126 Nq158
        have LM158 : own_L Z n0 T158.heap b51 bq126 kq126 (2 : Int32) (2 : Int32) (10 : Int32) [(.ref aq), (.ref aq), .null, .null, .null, .null, .null, .null, .null, .null] := LL158
        obtain ⟨Ea159, Fe159, Fs159, Fg159, Vb159, Ov159, Eb159, ga159, gb159, nab159⟩ := LM158
        refine own_t2 (.int (1 : Int32)) 105 st158 ?_
        refine own_t2 (.int (2 : Int32)) 106 (fun _ q => XS.iadd X158.here hx rfl (hb hby at_105) rfl q) ?_
        refine own_ls #[.val (.int p0), .val (.int p1), .val (.ref b51), .val (.int (2 : Int32))] 107 (fun _ q => XS.istoreN X158.here hx rfl (hb hby at_106) rfl (l' := #[.val (.int p0), .val (.int p1), .val (.ref b51), .val (.int (2 : Int32))]) rfl q) ?_
        refine own_tp (.int (2 : Int32)) 108 (fun _ q => XS.iloadN X158.here hx rfl (hb hby at_107) rfl q) ?_
        refine own_tp (.ref b51) 109 (fun _ q => XS.aloadN X158.here hx rfl (hb hby at_108) rfl rfl q) ?_
        refine own_tp (.int p1) 110 (fun _ q => XS.iloadN X158.here hx rfl (hb hby at_109) rfl q) ?_
        refine own_tp (.int (4 : Int32)) 111 (fun _ q => XS.iconst X158.here hx rfl (hb hby at_110) q) ?_
        refine own_t2 (.int (p1 &&& (4 : Int32))) 112 (fun _ q => XS.iand X158.here hx rfl (hb hby at_111) rfl q) ?_
        by_cases c160 : (p1 &&& (4 : Int32)) = (0 : Int32)
        ·
          refine own_d1 119 (fun _ q => XS.ifYes X158.here hx rfl (pc0 := 112) (pc' := 119) rfl (hb hby at_112) rfl ((if0 _ _).trans (teq c160).1) (by decide) (by decide) q) ?_
          refine own_tp (.int (0 : Int32)) 120 (fun _ q => XS.iconst X158.here hx rfl (hb hby at_119) q) ?_
          obtain ⟨_, _, ⟨T161, L161, k161, n161⟩, -, X161, ⟨Lc161, hQ161, l161, y161, z161⟩, st161⟩ := Jvm.LawKit.callS X158 hx (y := (⟨"com/example/kalends/kalends/LengthRequireMadeUpOfPinLaw", "addBlock", "(Ljava/util/List;Z)I"⟩ : MethodName)) hown (mvT hZ (hw _ (List.mem_of_getElem? (i := 26) rfl))) (mvT hZ (hw _ (List.mem_of_getElem? (i := 27) rfl))) (mvT hZ (hw _ (List.mem_of_getElem? (i := 28) rfl))) (mvT hZ (hw _ (List.mem_of_getElem? (i := 29) rfl))) (by decide) (backOf (W := 1) (rm28 l Z a0 hw [] b51 bq126 kq126 (2 : Int32) (2 : Int32) (10 : Int32) [(.ref aq), (.ref aq), .null, .null, .null, .null, .null, .null, .null, .null] 2 T158.heap n0 O158 ⟨Ea159, Fe159, Fs159, Fg159, Vb159, Ov159, Eb159, ga159, gb159, nab159⟩ ⟨by decide, by decide, rfl, by simp⟩ ⟨by decide, by decide, rfl, by simp⟩ ⟨by decide, by decide, rfl, by simp⟩ am aq ay Sm Sq Sy Hm Hq Hy Fm Fq Fy) hZ (hw _ (List.mem_of_getElem? (i := 29) rfl)) (hw _ (List.mem_of_getElem? (i := 28) rfl)) (by decide) (by decide)) (g := (mkF m 120 #[.val (.int p0), .val (.int p1), .val (.ref b51), .val (.int (2 : Int32))] [(.int (0 : Int32)), (.ref b51), (.int (2 : Int32))])) rfl (by rw [hml]; rfl) (argsL := [(.ref b51), (.int (0 : Int32))]) (rest := [(.int (2 : Int32))]) (lenOf pd0_1 rfl) rfl (by show 2 * 0 + _ ≤ _; exact Nat.le_of_eq rfl) (hb hby at_120) (fun _ _ => ⟨rfl, rfl, (by decide : 2 + 0 ≤ _), (by decide : 13 + 0 ≤ _)⟩)
          dsimp only [Pt.U, Pt.locs, Pt.cells, Pt.slots] at X161 l161 y161 z161 st161 hQ161
          subst l161 y161 z161
          obtain ⟨rfl, Nq161, O161, LL161⟩ := hQ161
          have N161 := Fr.app N158 Nq161
          have LM161 : own_L Z n0 T161.heap b51 bq126 kq126 (5 : Int32) (5 : Int32) (10 : Int32) [(.ref aq), (.ref aq), (.ref am), (.ref am), (.ref am), .null, .null, .null, .null, .null] := LL161
          obtain ⟨Ea162, Fe162, Fs162, Fg162, Vb162, Ov162, Eb162, ga162, gb162, nab162⟩ := LM161
          refine own_t2 (.int (3 : Int32)) 123 st161 ?_
          refine own_t2 (.int (5 : Int32)) 124 (fun _ q => XS.iadd X161.here hx rfl (hb hby at_123) rfl q) ?_
          refine own_ls #[.val (.int p0), .val (.int p1), .val (.ref b51), .val (.int (5 : Int32))] 125 (fun _ q => XS.istoreN X161.here hx rfl (hb hby at_124) rfl (l' := #[.val (.int p0), .val (.int p1), .val (.ref b51), .val (.int (5 : Int32))]) rfl q) ?_
          refine own_tp (.int (5 : Int32)) 126 (fun _ q => XS.iloadN X161.here hx rfl (hb hby at_125) rfl q) ?_
          refine own_tp (.ref b51) 127 (fun _ q => XS.aloadN X161.here hx rfl (hb hby at_126) rfl rfl q) ?_
          refine own_tp (.int p1) 128 (fun _ q => XS.iloadN X161.here hx rfl (hb hby at_127) rfl q) ?_
          refine own_tp (.int (8 : Int32)) 130 (fun _ q => XS.bipush X161.here hx rfl (hb hby at_128) q) ?_
          refine own_t2 (.int (p1 &&& (8 : Int32))) 131 (fun _ q => XS.iand X161.here hx rfl (hb hby at_130) rfl q) ?_
          by_cases c163 : (p1 &&& (8 : Int32)) = (0 : Int32)
          ·
            refine own_d1 138 (fun _ q => XS.ifYes X161.here hx rfl (pc0 := 131) (pc' := 138) rfl (hb hby at_131) rfl ((if0 _ _).trans (teq c163).1) (by decide) (by decide) q) ?_
            refine own_tp (.int (0 : Int32)) 139 (fun _ q => XS.iconst X161.here hx rfl (hb hby at_138) q) ?_
            obtain ⟨_, _, ⟨T164, L164, k164, n164⟩, -, X164, ⟨Lc164, hQ164, l164, y164, z164⟩, st164⟩ := Jvm.LawKit.callS X161 hx (y := (⟨"com/example/kalends/kalends/LengthRequireMadeUpOfPinLaw", "addBlock", "(Ljava/util/List;Z)I"⟩ : MethodName)) hown (mvT hZ (hw _ (List.mem_of_getElem? (i := 26) rfl))) (mvT hZ (hw _ (List.mem_of_getElem? (i := 27) rfl))) (mvT hZ (hw _ (List.mem_of_getElem? (i := 28) rfl))) (mvT hZ (hw _ (List.mem_of_getElem? (i := 29) rfl))) (by decide) (backOf (W := 1) (rm28 l Z a0 hw [] b51 bq126 kq126 (5 : Int32) (5 : Int32) (10 : Int32) [(.ref aq), (.ref aq), (.ref am), (.ref am), (.ref am), .null, .null, .null, .null, .null] 5 T161.heap n0 O161 ⟨Ea162, Fe162, Fs162, Fg162, Vb162, Ov162, Eb162, ga162, gb162, nab162⟩ ⟨by decide, by decide, rfl, by simp⟩ ⟨by decide, by decide, rfl, by simp⟩ ⟨by decide, by decide, rfl, by simp⟩ am aq ay Sm Sq Sy Hm Hq Hy Fm Fq Fy) hZ (hw _ (List.mem_of_getElem? (i := 29) rfl)) (hw _ (List.mem_of_getElem? (i := 28) rfl)) (by decide) (by decide)) (g := (mkF m 139 #[.val (.int p0), .val (.int p1), .val (.ref b51), .val (.int (5 : Int32))] [(.int (0 : Int32)), (.ref b51), (.int (5 : Int32))])) rfl (by rw [hml]; rfl) (argsL := [(.ref b51), (.int (0 : Int32))]) (rest := [(.int (5 : Int32))]) (lenOf pd0_1 rfl) rfl (by show 2 * 0 + _ ≤ _; exact Nat.le_of_eq rfl) (hb hby at_139) (fun _ _ => ⟨rfl, rfl, (by decide : 2 + 0 ≤ _), (by decide : 13 + 0 ≤ _)⟩)
            dsimp only [Pt.U, Pt.locs, Pt.cells, Pt.slots] at X164 l164 y164 z164 st164 hQ164
            subst l164 y164 z164
            obtain ⟨rfl, Nq164, O164, LL164⟩ := hQ164
            have N164 := Fr.app N161 Nq164
            have LM164 : own_L Z n0 T164.heap b51 bq126 kq126 (8 : Int32) (8 : Int32) (10 : Int32) [(.ref aq), (.ref aq), (.ref am), (.ref am), (.ref am), (.ref am), (.ref am), (.ref am), .null, .null] := LL164
            obtain ⟨Ea165, Fe165, Fs165, Fg165, Vb165, Ov165, Eb165, ga165, gb165, nab165⟩ := LM164
            refine own_t2 (.int (3 : Int32)) 142 st164 ?_
            refine own_t2 (.int (8 : Int32)) 143 (fun _ q => XS.iadd X164.here hx rfl (hb hby at_142) rfl q) ?_
            refine own_ls #[.val (.int p0), .val (.int p1), .val (.ref b51), .val (.int (8 : Int32))] 144 (fun _ q => XS.istoreN X164.here hx rfl (hb hby at_143) rfl (l' := #[.val (.int p0), .val (.int p1), .val (.ref b51), .val (.int (8 : Int32))]) rfl q) ?_
            obtain ⟨T166, X166, e166, st166⟩ := getS2 X164 hx hZ hown (host := "") (Or.inl (hw _ (List.mem_of_getElem? (i := 110) rfl))) Via.refl rfl (Sy.ext O164.2) (g := (mkF m 144 #[.val (.int p0), .val (.int p1), .val (.ref b51), .val (.int (8 : Int32))] [])) rfl (hb hby at_144)
            refine own_tp (.ref ay) 147 st166 ?_
            refine own_tp (.ref b51) 148 (fun _ q => XS.aloadN X166.here hx rfl (hb hby at_147) rfl rfl q) ?_
            obtain ⟨cq167, kq167, q167a, q167b, q167c⟩ := isOf hZ e166 (Hy.ext O164.2)
            obtain ⟨_, _, ⟨T167, L167, k167, n167⟩, -, X167, ⟨Lc167, hQ167, l167, y167, z167⟩, st167⟩ := X166.virtualBack hx (y := (⟨"com/example/kalends/kalends/ContractPeriod$Length", "requireMadeUpOf", "(Ljava/util/List;)V"⟩ : MethodName)) (z := (⟨"com/example/kalends/kalends/ContractPeriod$Length", "requireMadeUpOf", "(Ljava/util/List;)V"⟩ : MethodName)) hown (mvT hZ (hw _ (List.mem_of_getElem? (i := 70) rfl))) (mvT hZ (hw _ (List.mem_of_getElem? (i := 71) rfl))) (notFace_of_selects (args := #[]) (mvT hZ (hw _ (List.mem_of_getElem? (i := 73) rfl)))) (mvT hZ (hw _ (List.mem_of_getElem? (i := 73) rfl))) (mvT hZ (hw _ (List.mem_of_getElem? (i := 72) rfl))) (by decide) (backOf (W := 0) (rm24 l Z a0 hw [] ay b51 bq126 kq126 (8 : Int32) (8 : Int32) (10 : Int32) (12 : Int32) [(.ref aq), (.ref aq), (.ref am), (.ref am), (.ref am), (.ref am), (.ref am), (.ref am), .null, .null] [.null, .null] [true, true, false, false, false, false, false, false] T164.heap n0 O164 ⟨Ea165, Fe165, Fs165, Fg165, Vb165, Ov165, Eb165, ga165, gb165, nab165⟩ am aq ay Sm Sq Sy Hm Hq Hy Fm Fq Fy Hy Fy rfl (by decide) (by decide) (by decide +kernel)) hZ (hw _ (List.mem_of_getElem? (i := 74) rfl)) (hw _ (List.mem_of_getElem? (i := 31) rfl)) (by decide) (by decide)) q167a q167c (g := (mkF m 148 #[.val (.int p0), .val (.int p1), .val (.ref b51), .val (.int (8 : Int32))] [(.ref b51), (.ref ay)])) rfl (by rw [hml]; rfl) (Steps.refl _) (argsL := [(.ref b51)]) (rest := []) (lenOf pd0_2 rfl) rfl (by show 2 * 0 + _ ≤ _; exact Nat.le_of_eq rfl) (hb hby at_148) (fun _ _ => ⟨rfl, e166, (by decide : 2 + 0 ≤ _), (by decide : 13 + 0 ≤ _)⟩)
            dsimp only [Pt.U, Pt.locs, Pt.cells, Pt.slots] at X167 l167 y167 z167 st167 hQ167
            subst l167 y167 z167
            obtain ⟨rfl, Nq167, eq167⟩ := hQ167
            have N167 := Fr.app N164 Nq167
            refine own_csR [] 151 st167 ?_
            refine own_tp (.ref b51) 152 (fun _ q => XS.aloadN X167.here hx rfl (hb hby at_151) rfl rfl q) ?_
            obtain ⟨cq168, kq168, q168a, q168b, q168c⟩ := isOf hZ eq167 Ea165
            obtain ⟨_, _, ⟨T168, L168, k168, n168⟩, -, X168, ⟨Lc168, hQ168, l168, y168, z168⟩, st168⟩ := X167.interfaceBack hx (xi := (⟨"java/util/List", "size", "()I"⟩ : MethodName)) (y := (⟨"java/util/ArrayList", "size", "()I"⟩ : MethodName)) hown (mvT hZ (hw _ (List.mem_of_getElem? (i := 108) rfl))) (mvT hZ (hw _ (List.mem_of_getElem? (i := 76) rfl))) (mvT hZ (hw _ (List.mem_of_getElem? (i := 77) rfl))) (mvT hZ (hw _ (List.mem_of_getElem? (i := 78) rfl))) (mvT hZ (hw _ (List.mem_of_getElem? (i := 79) rfl))) (mvT hZ (hw _ (List.mem_of_getElem? (i := 80) rfl))) (mvT hZ (hw _ (List.mem_of_getElem? (i := 81) rfl))) (mvT hZ (hw _ (List.mem_of_getElem? (i := 40) rfl))) (by decide) (backOf (W := 0) (rm19 l Z a0 hw [] b51 (8 : Int32) T164.heap n0 Ea165 Fs165) hZ (hw _ (List.mem_of_getElem? (i := 82) rfl)) (hw _ (List.mem_of_getElem? (i := 2) rfl)) (by decide) (by decide)) q168a q168b q168c (g := (mkF m 152 #[.val (.int p0), .val (.int p1), .val (.ref b51), .val (.int (8 : Int32))] [(.ref b51)])) rfl (by rw [hml]; rfl) (Steps.refl _) (argsL := []) (rest := []) (lenOf pd0_3 rfl) rfl (by show 2 * 0 + _ ≤ _; exact Nat.le_of_eq rfl) (hb hby at_152) (fun _ _ => ⟨rfl, eq167, (by decide : 2 + 0 ≤ _), (by decide : 13 + 0 ≤ _)⟩)
            dsimp only [Pt.U, Pt.locs, Pt.cells, Pt.slots] at X168 l168 y168 z168 st168 hQ168
            subst l168 y168 z168
            obtain ⟨rfl, Nq168, eq168⟩ := hQ168
            have N168 := Fr.app N167 Nq168
            refine own_csR [(.int (8 : Int32))] 157 st168 ?_
            refine own_tp (.int (8 : Int32)) 158 (fun _ q => XS.iloadN X168.here hx rfl (hb hby at_157) rfl q) ?_
            refine own_d2 161 (fun _ q => XS.icmpNo X168.here hx rfl (hb hby at_158) rfl (teq (by decide : (8 : Int32) = (8 : Int32))).2 q) ?_
            refine own_tp (.int (1 : Int32)) 162 (fun _ q => XS.iconst X168.here hx rfl (hb hby at_161) q) ?_
            refine own_d0 166 (fun _ q => XS.goto X168.here hx rfl (pc0 := 162) (pc' := 166) rfl (hb hby at_162) (by decide) (by decide) q) ?_
            exact own_retN (t := .boolean) X168 hx hrt (hb hby at_166) (by simp) hlk (by decide) (by decide) eq168 (⟨rfl, N168⟩)
          ·
            refine own_d1 134 (fun _ q => XS.ifNo X161.here hx rfl (hb hby at_131) rfl ((if0 _ _).trans (feq c163).1) q) ?_
            refine own_tp (.int (1 : Int32)) 135 (fun _ q => XS.iconst X161.here hx rfl (hb hby at_134) q) ?_
            refine own_d0 139 (fun _ q => XS.goto X161.here hx rfl (pc0 := 135) (pc' := 139) rfl (hb hby at_135) (by decide) (by decide) q) ?_
            obtain ⟨_, _, ⟨T169, L169, k169, n169⟩, -, X169, ⟨Lc169, hQ169, l169, y169, z169⟩, st169⟩ := Jvm.LawKit.callS X161 hx (y := (⟨"com/example/kalends/kalends/LengthRequireMadeUpOfPinLaw", "addBlock", "(Ljava/util/List;Z)I"⟩ : MethodName)) hown (mvT hZ (hw _ (List.mem_of_getElem? (i := 26) rfl))) (mvT hZ (hw _ (List.mem_of_getElem? (i := 27) rfl))) (mvT hZ (hw _ (List.mem_of_getElem? (i := 28) rfl))) (mvT hZ (hw _ (List.mem_of_getElem? (i := 29) rfl))) (by decide) (backOf (W := 1) (rm27 l Z a0 hw [] b51 bq126 kq126 (5 : Int32) (5 : Int32) (10 : Int32) [(.ref aq), (.ref aq), (.ref am), (.ref am), (.ref am), .null, .null, .null, .null, .null] 5 T161.heap n0 O161 ⟨Ea162, Fe162, Fs162, Fg162, Vb162, Ov162, Eb162, ga162, gb162, nab162⟩ ⟨by decide, by decide, rfl, by simp⟩ am aq ay Sm Sq Sy Hm Hq Hy Fm Fq Fy) hZ (hw _ (List.mem_of_getElem? (i := 29) rfl)) (hw _ (List.mem_of_getElem? (i := 28) rfl)) (by decide) (by decide)) (g := (mkF m 139 #[.val (.int p0), .val (.int p1), .val (.ref b51), .val (.int (5 : Int32))] [(.int (1 : Int32)), (.ref b51), (.int (5 : Int32))])) rfl (by rw [hml]; rfl) (argsL := [(.ref b51), (.int (1 : Int32))]) (rest := [(.int (5 : Int32))]) (lenOf pd0_1 rfl) rfl (by show 2 * 0 + _ ≤ _; exact Nat.le_of_eq rfl) (hb hby at_139) (fun _ _ => ⟨rfl, rfl, (by decide : 2 + 0 ≤ _), (by decide : 13 + 0 ≤ _)⟩)
            dsimp only [Pt.U, Pt.locs, Pt.cells, Pt.slots] at X169 l169 y169 z169 st169 hQ169
            subst l169 y169 z169
            obtain ⟨rfl, Nq169, O169, LL169⟩ := hQ169
            have N169 := Fr.app N161 Nq169
            have LM169 : own_L Z n0 T169.heap b51 bq126 kq126 (6 : Int32) (6 : Int32) (10 : Int32) [(.ref aq), (.ref aq), (.ref am), (.ref am), (.ref am), (.ref aq), .null, .null, .null, .null] := LL169
            obtain ⟨Ea170, Fe170, Fs170, Fg170, Vb170, Ov170, Eb170, ga170, gb170, nab170⟩ := LM169
            refine own_t2 (.int (1 : Int32)) 142 st169 ?_
            refine own_t2 (.int (6 : Int32)) 143 (fun _ q => XS.iadd X169.here hx rfl (hb hby at_142) rfl q) ?_
            refine own_ls #[.val (.int p0), .val (.int p1), .val (.ref b51), .val (.int (6 : Int32))] 144 (fun _ q => XS.istoreN X169.here hx rfl (hb hby at_143) rfl (l' := #[.val (.int p0), .val (.int p1), .val (.ref b51), .val (.int (6 : Int32))]) rfl q) ?_
            obtain ⟨T171, X171, e171, st171⟩ := getS2 X169 hx hZ hown (host := "") (Or.inl (hw _ (List.mem_of_getElem? (i := 110) rfl))) Via.refl rfl (Sy.ext O169.2) (g := (mkF m 144 #[.val (.int p0), .val (.int p1), .val (.ref b51), .val (.int (6 : Int32))] [])) rfl (hb hby at_144)
            refine own_tp (.ref ay) 147 st171 ?_
            refine own_tp (.ref b51) 148 (fun _ q => XS.aloadN X171.here hx rfl (hb hby at_147) rfl rfl q) ?_
            obtain ⟨cq172, kq172, q172a, q172b, q172c⟩ := isOf hZ e171 (Hy.ext O169.2)
            obtain ⟨_, _, ⟨T172, L172, k172, n172⟩, -, X172, ⟨Lc172, hQ172, l172, y172, z172⟩, st172⟩ := X171.virtualBack hx (y := (⟨"com/example/kalends/kalends/ContractPeriod$Length", "requireMadeUpOf", "(Ljava/util/List;)V"⟩ : MethodName)) (z := (⟨"com/example/kalends/kalends/ContractPeriod$Length", "requireMadeUpOf", "(Ljava/util/List;)V"⟩ : MethodName)) hown (mvT hZ (hw _ (List.mem_of_getElem? (i := 70) rfl))) (mvT hZ (hw _ (List.mem_of_getElem? (i := 71) rfl))) (notFace_of_selects (args := #[]) (mvT hZ (hw _ (List.mem_of_getElem? (i := 73) rfl)))) (mvT hZ (hw _ (List.mem_of_getElem? (i := 73) rfl))) (mvT hZ (hw _ (List.mem_of_getElem? (i := 72) rfl))) (by decide) (backOf (W := 0) (rm24 l Z a0 hw [] ay b51 bq126 kq126 (6 : Int32) (6 : Int32) (10 : Int32) (12 : Int32) [(.ref aq), (.ref aq), (.ref am), (.ref am), (.ref am), (.ref aq), .null, .null, .null, .null] [.null, .null, .null, .null] [true, true, false, false, false, true] T169.heap n0 O169 ⟨Ea170, Fe170, Fs170, Fg170, Vb170, Ov170, Eb170, ga170, gb170, nab170⟩ am aq ay Sm Sq Sy Hm Hq Hy Fm Fq Fy Hy Fy rfl (by decide) (by decide) (by decide +kernel)) hZ (hw _ (List.mem_of_getElem? (i := 74) rfl)) (hw _ (List.mem_of_getElem? (i := 31) rfl)) (by decide) (by decide)) q172a q172c (g := (mkF m 148 #[.val (.int p0), .val (.int p1), .val (.ref b51), .val (.int (6 : Int32))] [(.ref b51), (.ref ay)])) rfl (by rw [hml]; rfl) (Steps.refl _) (argsL := [(.ref b51)]) (rest := []) (lenOf pd0_2 rfl) rfl (by show 2 * 0 + _ ≤ _; exact Nat.le_of_eq rfl) (hb hby at_148) (fun _ _ => ⟨rfl, e171, (by decide : 2 + 0 ≤ _), (by decide : 13 + 0 ≤ _)⟩)
            dsimp only [Pt.U, Pt.locs, Pt.cells, Pt.slots] at X172 l172 y172 z172 st172 hQ172
            subst l172 y172 z172
            obtain ⟨rfl, Nq172, eq172⟩ := hQ172
            have N172 := Fr.app N169 Nq172
            refine own_csR [] 151 st172 ?_
            refine own_tp (.ref b51) 152 (fun _ q => XS.aloadN X172.here hx rfl (hb hby at_151) rfl rfl q) ?_
            obtain ⟨cq173, kq173, q173a, q173b, q173c⟩ := isOf hZ eq172 Ea170
            obtain ⟨_, _, ⟨T173, L173, k173, n173⟩, -, X173, ⟨Lc173, hQ173, l173, y173, z173⟩, st173⟩ := X172.interfaceBack hx (xi := (⟨"java/util/List", "size", "()I"⟩ : MethodName)) (y := (⟨"java/util/ArrayList", "size", "()I"⟩ : MethodName)) hown (mvT hZ (hw _ (List.mem_of_getElem? (i := 108) rfl))) (mvT hZ (hw _ (List.mem_of_getElem? (i := 76) rfl))) (mvT hZ (hw _ (List.mem_of_getElem? (i := 77) rfl))) (mvT hZ (hw _ (List.mem_of_getElem? (i := 78) rfl))) (mvT hZ (hw _ (List.mem_of_getElem? (i := 79) rfl))) (mvT hZ (hw _ (List.mem_of_getElem? (i := 80) rfl))) (mvT hZ (hw _ (List.mem_of_getElem? (i := 81) rfl))) (mvT hZ (hw _ (List.mem_of_getElem? (i := 40) rfl))) (by decide) (backOf (W := 0) (rm19 l Z a0 hw [] b51 (6 : Int32) T169.heap n0 Ea170 Fs170) hZ (hw _ (List.mem_of_getElem? (i := 82) rfl)) (hw _ (List.mem_of_getElem? (i := 2) rfl)) (by decide) (by decide)) q173a q173b q173c (g := (mkF m 152 #[.val (.int p0), .val (.int p1), .val (.ref b51), .val (.int (6 : Int32))] [(.ref b51)])) rfl (by rw [hml]; rfl) (Steps.refl _) (argsL := []) (rest := []) (lenOf pd0_3 rfl) rfl (by show 2 * 0 + _ ≤ _; exact Nat.le_of_eq rfl) (hb hby at_152) (fun _ _ => ⟨rfl, eq172, (by decide : 2 + 0 ≤ _), (by decide : 13 + 0 ≤ _)⟩)
            dsimp only [Pt.U, Pt.locs, Pt.cells, Pt.slots] at X173 l173 y173 z173 st173 hQ173
            subst l173 y173 z173
            obtain ⟨rfl, Nq173, eq173⟩ := hQ173
            have N173 := Fr.app N172 Nq173
            refine own_csR [(.int (6 : Int32))] 157 st173 ?_
            refine own_tp (.int (6 : Int32)) 158 (fun _ q => XS.iloadN X173.here hx rfl (hb hby at_157) rfl q) ?_
            refine own_d2 161 (fun _ q => XS.icmpNo X173.here hx rfl (hb hby at_158) rfl (teq (by decide : (6 : Int32) = (6 : Int32))).2 q) ?_
            refine own_tp (.int (1 : Int32)) 162 (fun _ q => XS.iconst X173.here hx rfl (hb hby at_161) q) ?_
            refine own_d0 166 (fun _ q => XS.goto X173.here hx rfl (pc0 := 162) (pc' := 166) rfl (hb hby at_162) (by decide) (by decide) q) ?_
            exact own_retN (t := .boolean) X173 hx hrt (hb hby at_166) (by simp) hlk (by decide) (by decide) eq173 (⟨rfl, N173⟩)
        ·
          refine own_d1 115 (fun _ q => XS.ifNo X158.here hx rfl (hb hby at_112) rfl ((if0 _ _).trans (feq c160).1) q) ?_
          refine own_tp (.int (1 : Int32)) 116 (fun _ q => XS.iconst X158.here hx rfl (hb hby at_115) q) ?_
          refine own_d0 120 (fun _ q => XS.goto X158.here hx rfl (pc0 := 116) (pc' := 120) rfl (hb hby at_116) (by decide) (by decide) q) ?_
          obtain ⟨_, _, ⟨T174, L174, k174, n174⟩, -, X174, ⟨Lc174, hQ174, l174, y174, z174⟩, st174⟩ := Jvm.LawKit.callS X158 hx (y := (⟨"com/example/kalends/kalends/LengthRequireMadeUpOfPinLaw", "addBlock", "(Ljava/util/List;Z)I"⟩ : MethodName)) hown (mvT hZ (hw _ (List.mem_of_getElem? (i := 26) rfl))) (mvT hZ (hw _ (List.mem_of_getElem? (i := 27) rfl))) (mvT hZ (hw _ (List.mem_of_getElem? (i := 28) rfl))) (mvT hZ (hw _ (List.mem_of_getElem? (i := 29) rfl))) (by decide) (backOf (W := 1) (rm27 l Z a0 hw [] b51 bq126 kq126 (2 : Int32) (2 : Int32) (10 : Int32) [(.ref aq), (.ref aq), .null, .null, .null, .null, .null, .null, .null, .null] 2 T158.heap n0 O158 ⟨Ea159, Fe159, Fs159, Fg159, Vb159, Ov159, Eb159, ga159, gb159, nab159⟩ ⟨by decide, by decide, rfl, by simp⟩ am aq ay Sm Sq Sy Hm Hq Hy Fm Fq Fy) hZ (hw _ (List.mem_of_getElem? (i := 29) rfl)) (hw _ (List.mem_of_getElem? (i := 28) rfl)) (by decide) (by decide)) (g := (mkF m 120 #[.val (.int p0), .val (.int p1), .val (.ref b51), .val (.int (2 : Int32))] [(.int (1 : Int32)), (.ref b51), (.int (2 : Int32))])) rfl (by rw [hml]; rfl) (argsL := [(.ref b51), (.int (1 : Int32))]) (rest := [(.int (2 : Int32))]) (lenOf pd0_1 rfl) rfl (by show 2 * 0 + _ ≤ _; exact Nat.le_of_eq rfl) (hb hby at_120) (fun _ _ => ⟨rfl, rfl, (by decide : 2 + 0 ≤ _), (by decide : 13 + 0 ≤ _)⟩)
          dsimp only [Pt.U, Pt.locs, Pt.cells, Pt.slots] at X174 l174 y174 z174 st174 hQ174
          subst l174 y174 z174
          obtain ⟨rfl, Nq174, O174, LL174⟩ := hQ174
          have N174 := Fr.app N158 Nq174
          have LM174 : own_L Z n0 T174.heap b51 bq126 kq126 (3 : Int32) (3 : Int32) (10 : Int32) [(.ref aq), (.ref aq), (.ref aq), .null, .null, .null, .null, .null, .null, .null] := LL174
          obtain ⟨Ea175, Fe175, Fs175, Fg175, Vb175, Ov175, Eb175, ga175, gb175, nab175⟩ := LM174
          refine own_t2 (.int (1 : Int32)) 123 st174 ?_
          refine own_t2 (.int (3 : Int32)) 124 (fun _ q => XS.iadd X174.here hx rfl (hb hby at_123) rfl q) ?_
          refine own_ls #[.val (.int p0), .val (.int p1), .val (.ref b51), .val (.int (3 : Int32))] 125 (fun _ q => XS.istoreN X174.here hx rfl (hb hby at_124) rfl (l' := #[.val (.int p0), .val (.int p1), .val (.ref b51), .val (.int (3 : Int32))]) rfl q) ?_
          refine own_tp (.int (3 : Int32)) 126 (fun _ q => XS.iloadN X174.here hx rfl (hb hby at_125) rfl q) ?_
          refine own_tp (.ref b51) 127 (fun _ q => XS.aloadN X174.here hx rfl (hb hby at_126) rfl rfl q) ?_
          refine own_tp (.int p1) 128 (fun _ q => XS.iloadN X174.here hx rfl (hb hby at_127) rfl q) ?_
          refine own_tp (.int (8 : Int32)) 130 (fun _ q => XS.bipush X174.here hx rfl (hb hby at_128) q) ?_
          refine own_t2 (.int (p1 &&& (8 : Int32))) 131 (fun _ q => XS.iand X174.here hx rfl (hb hby at_130) rfl q) ?_
          by_cases c176 : (p1 &&& (8 : Int32)) = (0 : Int32)
          ·
            refine own_d1 138 (fun _ q => XS.ifYes X174.here hx rfl (pc0 := 131) (pc' := 138) rfl (hb hby at_131) rfl ((if0 _ _).trans (teq c176).1) (by decide) (by decide) q) ?_
            refine own_tp (.int (0 : Int32)) 139 (fun _ q => XS.iconst X174.here hx rfl (hb hby at_138) q) ?_
            obtain ⟨_, _, ⟨T177, L177, k177, n177⟩, -, X177, ⟨Lc177, hQ177, l177, y177, z177⟩, st177⟩ := Jvm.LawKit.callS X174 hx (y := (⟨"com/example/kalends/kalends/LengthRequireMadeUpOfPinLaw", "addBlock", "(Ljava/util/List;Z)I"⟩ : MethodName)) hown (mvT hZ (hw _ (List.mem_of_getElem? (i := 26) rfl))) (mvT hZ (hw _ (List.mem_of_getElem? (i := 27) rfl))) (mvT hZ (hw _ (List.mem_of_getElem? (i := 28) rfl))) (mvT hZ (hw _ (List.mem_of_getElem? (i := 29) rfl))) (by decide) (backOf (W := 1) (rm28 l Z a0 hw [] b51 bq126 kq126 (3 : Int32) (3 : Int32) (10 : Int32) [(.ref aq), (.ref aq), (.ref aq), .null, .null, .null, .null, .null, .null, .null] 3 T174.heap n0 O174 ⟨Ea175, Fe175, Fs175, Fg175, Vb175, Ov175, Eb175, ga175, gb175, nab175⟩ ⟨by decide, by decide, rfl, by simp⟩ ⟨by decide, by decide, rfl, by simp⟩ ⟨by decide, by decide, rfl, by simp⟩ am aq ay Sm Sq Sy Hm Hq Hy Fm Fq Fy) hZ (hw _ (List.mem_of_getElem? (i := 29) rfl)) (hw _ (List.mem_of_getElem? (i := 28) rfl)) (by decide) (by decide)) (g := (mkF m 139 #[.val (.int p0), .val (.int p1), .val (.ref b51), .val (.int (3 : Int32))] [(.int (0 : Int32)), (.ref b51), (.int (3 : Int32))])) rfl (by rw [hml]; rfl) (argsL := [(.ref b51), (.int (0 : Int32))]) (rest := [(.int (3 : Int32))]) (lenOf pd0_1 rfl) rfl (by show 2 * 0 + _ ≤ _; exact Nat.le_of_eq rfl) (hb hby at_139) (fun _ _ => ⟨rfl, rfl, (by decide : 2 + 0 ≤ _), (by decide : 13 + 0 ≤ _)⟩)
            dsimp only [Pt.U, Pt.locs, Pt.cells, Pt.slots] at X177 l177 y177 z177 st177 hQ177
            subst l177 y177 z177
            obtain ⟨rfl, Nq177, O177, LL177⟩ := hQ177
            have N177 := Fr.app N174 Nq177
            have LM177 : own_L Z n0 T177.heap b51 bq126 kq126 (6 : Int32) (6 : Int32) (10 : Int32) [(.ref aq), (.ref aq), (.ref aq), (.ref am), (.ref am), (.ref am), .null, .null, .null, .null] := LL177
            obtain ⟨Ea178, Fe178, Fs178, Fg178, Vb178, Ov178, Eb178, ga178, gb178, nab178⟩ := LM177
            refine own_t2 (.int (3 : Int32)) 142 st177 ?_
            refine own_t2 (.int (6 : Int32)) 143 (fun _ q => XS.iadd X177.here hx rfl (hb hby at_142) rfl q) ?_
            refine own_ls #[.val (.int p0), .val (.int p1), .val (.ref b51), .val (.int (6 : Int32))] 144 (fun _ q => XS.istoreN X177.here hx rfl (hb hby at_143) rfl (l' := #[.val (.int p0), .val (.int p1), .val (.ref b51), .val (.int (6 : Int32))]) rfl q) ?_
            obtain ⟨T179, X179, e179, st179⟩ := getS2 X177 hx hZ hown (host := "") (Or.inl (hw _ (List.mem_of_getElem? (i := 110) rfl))) Via.refl rfl (Sy.ext O177.2) (g := (mkF m 144 #[.val (.int p0), .val (.int p1), .val (.ref b51), .val (.int (6 : Int32))] [])) rfl (hb hby at_144)
            refine own_tp (.ref ay) 147 st179 ?_
            refine own_tp (.ref b51) 148 (fun _ q => XS.aloadN X179.here hx rfl (hb hby at_147) rfl rfl q) ?_
            obtain ⟨cq180, kq180, q180a, q180b, q180c⟩ := isOf hZ e179 (Hy.ext O177.2)
            obtain ⟨_, _, ⟨T180, L180, k180, n180⟩, -, X180, ⟨Lc180, hQ180, l180, y180, z180⟩, st180⟩ := X179.virtualBack hx (y := (⟨"com/example/kalends/kalends/ContractPeriod$Length", "requireMadeUpOf", "(Ljava/util/List;)V"⟩ : MethodName)) (z := (⟨"com/example/kalends/kalends/ContractPeriod$Length", "requireMadeUpOf", "(Ljava/util/List;)V"⟩ : MethodName)) hown (mvT hZ (hw _ (List.mem_of_getElem? (i := 70) rfl))) (mvT hZ (hw _ (List.mem_of_getElem? (i := 71) rfl))) (notFace_of_selects (args := #[]) (mvT hZ (hw _ (List.mem_of_getElem? (i := 73) rfl)))) (mvT hZ (hw _ (List.mem_of_getElem? (i := 73) rfl))) (mvT hZ (hw _ (List.mem_of_getElem? (i := 72) rfl))) (by decide) (backOf (W := 0) (rm24 l Z a0 hw [] ay b51 bq126 kq126 (6 : Int32) (6 : Int32) (10 : Int32) (12 : Int32) [(.ref aq), (.ref aq), (.ref aq), (.ref am), (.ref am), (.ref am), .null, .null, .null, .null] [.null, .null, .null, .null] [true, true, true, false, false, false] T177.heap n0 O177 ⟨Ea178, Fe178, Fs178, Fg178, Vb178, Ov178, Eb178, ga178, gb178, nab178⟩ am aq ay Sm Sq Sy Hm Hq Hy Fm Fq Fy Hy Fy rfl (by decide) (by decide) (by decide +kernel)) hZ (hw _ (List.mem_of_getElem? (i := 74) rfl)) (hw _ (List.mem_of_getElem? (i := 31) rfl)) (by decide) (by decide)) q180a q180c (g := (mkF m 148 #[.val (.int p0), .val (.int p1), .val (.ref b51), .val (.int (6 : Int32))] [(.ref b51), (.ref ay)])) rfl (by rw [hml]; rfl) (Steps.refl _) (argsL := [(.ref b51)]) (rest := []) (lenOf pd0_2 rfl) rfl (by show 2 * 0 + _ ≤ _; exact Nat.le_of_eq rfl) (hb hby at_148) (fun _ _ => ⟨rfl, e179, (by decide : 2 + 0 ≤ _), (by decide : 13 + 0 ≤ _)⟩)
            dsimp only [Pt.U, Pt.locs, Pt.cells, Pt.slots] at X180 l180 y180 z180 st180 hQ180
            subst l180 y180 z180
            obtain ⟨rfl, Nq180, eq180⟩ := hQ180
            have N180 := Fr.app N177 Nq180
            refine own_csR [] 151 st180 ?_
            refine own_tp (.ref b51) 152 (fun _ q => XS.aloadN X180.here hx rfl (hb hby at_151) rfl rfl q) ?_
            obtain ⟨cq181, kq181, q181a, q181b, q181c⟩ := isOf hZ eq180 Ea178
            obtain ⟨_, _, ⟨T181, L181, k181, n181⟩, -, X181, ⟨Lc181, hQ181, l181, y181, z181⟩, st181⟩ := X180.interfaceBack hx (xi := (⟨"java/util/List", "size", "()I"⟩ : MethodName)) (y := (⟨"java/util/ArrayList", "size", "()I"⟩ : MethodName)) hown (mvT hZ (hw _ (List.mem_of_getElem? (i := 108) rfl))) (mvT hZ (hw _ (List.mem_of_getElem? (i := 76) rfl))) (mvT hZ (hw _ (List.mem_of_getElem? (i := 77) rfl))) (mvT hZ (hw _ (List.mem_of_getElem? (i := 78) rfl))) (mvT hZ (hw _ (List.mem_of_getElem? (i := 79) rfl))) (mvT hZ (hw _ (List.mem_of_getElem? (i := 80) rfl))) (mvT hZ (hw _ (List.mem_of_getElem? (i := 81) rfl))) (mvT hZ (hw _ (List.mem_of_getElem? (i := 40) rfl))) (by decide) (backOf (W := 0) (rm19 l Z a0 hw [] b51 (6 : Int32) T177.heap n0 Ea178 Fs178) hZ (hw _ (List.mem_of_getElem? (i := 82) rfl)) (hw _ (List.mem_of_getElem? (i := 2) rfl)) (by decide) (by decide)) q181a q181b q181c (g := (mkF m 152 #[.val (.int p0), .val (.int p1), .val (.ref b51), .val (.int (6 : Int32))] [(.ref b51)])) rfl (by rw [hml]; rfl) (Steps.refl _) (argsL := []) (rest := []) (lenOf pd0_3 rfl) rfl (by show 2 * 0 + _ ≤ _; exact Nat.le_of_eq rfl) (hb hby at_152) (fun _ _ => ⟨rfl, eq180, (by decide : 2 + 0 ≤ _), (by decide : 13 + 0 ≤ _)⟩)
            dsimp only [Pt.U, Pt.locs, Pt.cells, Pt.slots] at X181 l181 y181 z181 st181 hQ181
            subst l181 y181 z181
            obtain ⟨rfl, Nq181, eq181⟩ := hQ181
            have N181 := Fr.app N180 Nq181
            refine own_csR [(.int (6 : Int32))] 157 st181 ?_
            refine own_tp (.int (6 : Int32)) 158 (fun _ q => XS.iloadN X181.here hx rfl (hb hby at_157) rfl q) ?_
            refine own_d2 161 (fun _ q => XS.icmpNo X181.here hx rfl (hb hby at_158) rfl (teq (by decide : (6 : Int32) = (6 : Int32))).2 q) ?_
            refine own_tp (.int (1 : Int32)) 162 (fun _ q => XS.iconst X181.here hx rfl (hb hby at_161) q) ?_
            refine own_d0 166 (fun _ q => XS.goto X181.here hx rfl (pc0 := 162) (pc' := 166) rfl (hb hby at_162) (by decide) (by decide) q) ?_
            exact own_retN (t := .boolean) X181 hx hrt (hb hby at_166) (by simp) hlk (by decide) (by decide) eq181 (⟨rfl, N181⟩)
          ·
            refine own_d1 134 (fun _ q => XS.ifNo X174.here hx rfl (hb hby at_131) rfl ((if0 _ _).trans (feq c176).1) q) ?_
            refine own_tp (.int (1 : Int32)) 135 (fun _ q => XS.iconst X174.here hx rfl (hb hby at_134) q) ?_
            refine own_d0 139 (fun _ q => XS.goto X174.here hx rfl (pc0 := 135) (pc' := 139) rfl (hb hby at_135) (by decide) (by decide) q) ?_
            obtain ⟨_, _, ⟨T182, L182, k182, n182⟩, -, X182, ⟨Lc182, hQ182, l182, y182, z182⟩, st182⟩ := Jvm.LawKit.callS X174 hx (y := (⟨"com/example/kalends/kalends/LengthRequireMadeUpOfPinLaw", "addBlock", "(Ljava/util/List;Z)I"⟩ : MethodName)) hown (mvT hZ (hw _ (List.mem_of_getElem? (i := 26) rfl))) (mvT hZ (hw _ (List.mem_of_getElem? (i := 27) rfl))) (mvT hZ (hw _ (List.mem_of_getElem? (i := 28) rfl))) (mvT hZ (hw _ (List.mem_of_getElem? (i := 29) rfl))) (by decide) (backOf (W := 1) (rm27 l Z a0 hw [] b51 bq126 kq126 (3 : Int32) (3 : Int32) (10 : Int32) [(.ref aq), (.ref aq), (.ref aq), .null, .null, .null, .null, .null, .null, .null] 3 T174.heap n0 O174 ⟨Ea175, Fe175, Fs175, Fg175, Vb175, Ov175, Eb175, ga175, gb175, nab175⟩ ⟨by decide, by decide, rfl, by simp⟩ am aq ay Sm Sq Sy Hm Hq Hy Fm Fq Fy) hZ (hw _ (List.mem_of_getElem? (i := 29) rfl)) (hw _ (List.mem_of_getElem? (i := 28) rfl)) (by decide) (by decide)) (g := (mkF m 139 #[.val (.int p0), .val (.int p1), .val (.ref b51), .val (.int (3 : Int32))] [(.int (1 : Int32)), (.ref b51), (.int (3 : Int32))])) rfl (by rw [hml]; rfl) (argsL := [(.ref b51), (.int (1 : Int32))]) (rest := [(.int (3 : Int32))]) (lenOf pd0_1 rfl) rfl (by show 2 * 0 + _ ≤ _; exact Nat.le_of_eq rfl) (hb hby at_139) (fun _ _ => ⟨rfl, rfl, (by decide : 2 + 0 ≤ _), (by decide : 13 + 0 ≤ _)⟩)
            dsimp only [Pt.U, Pt.locs, Pt.cells, Pt.slots] at X182 l182 y182 z182 st182 hQ182
            subst l182 y182 z182
            obtain ⟨rfl, Nq182, O182, LL182⟩ := hQ182
            have N182 := Fr.app N174 Nq182
            have LM182 : own_L Z n0 T182.heap b51 bq126 kq126 (4 : Int32) (4 : Int32) (10 : Int32) [(.ref aq), (.ref aq), (.ref aq), (.ref aq), .null, .null, .null, .null, .null, .null] := LL182
            obtain ⟨Ea183, Fe183, Fs183, Fg183, Vb183, Ov183, Eb183, ga183, gb183, nab183⟩ := LM182
            refine own_t2 (.int (1 : Int32)) 142 st182 ?_
            refine own_t2 (.int (4 : Int32)) 143 (fun _ q => XS.iadd X182.here hx rfl (hb hby at_142) rfl q) ?_
            refine own_ls #[.val (.int p0), .val (.int p1), .val (.ref b51), .val (.int (4 : Int32))] 144 (fun _ q => XS.istoreN X182.here hx rfl (hb hby at_143) rfl (l' := #[.val (.int p0), .val (.int p1), .val (.ref b51), .val (.int (4 : Int32))]) rfl q) ?_
            obtain ⟨T184, X184, e184, st184⟩ := getS2 X182 hx hZ hown (host := "") (Or.inl (hw _ (List.mem_of_getElem? (i := 110) rfl))) Via.refl rfl (Sy.ext O182.2) (g := (mkF m 144 #[.val (.int p0), .val (.int p1), .val (.ref b51), .val (.int (4 : Int32))] [])) rfl (hb hby at_144)
            refine own_tp (.ref ay) 147 st184 ?_
            refine own_tp (.ref b51) 148 (fun _ q => XS.aloadN X184.here hx rfl (hb hby at_147) rfl rfl q) ?_
            obtain ⟨cq185, kq185, q185a, q185b, q185c⟩ := isOf hZ e184 (Hy.ext O182.2)
            obtain ⟨_, _, ⟨T185, L185, k185, n185⟩, -, X185, ⟨Lc185, hQ185, l185, y185, z185⟩, st185⟩ := X184.virtualBack hx (y := (⟨"com/example/kalends/kalends/ContractPeriod$Length", "requireMadeUpOf", "(Ljava/util/List;)V"⟩ : MethodName)) (z := (⟨"com/example/kalends/kalends/ContractPeriod$Length", "requireMadeUpOf", "(Ljava/util/List;)V"⟩ : MethodName)) hown (mvT hZ (hw _ (List.mem_of_getElem? (i := 70) rfl))) (mvT hZ (hw _ (List.mem_of_getElem? (i := 71) rfl))) (notFace_of_selects (args := #[]) (mvT hZ (hw _ (List.mem_of_getElem? (i := 73) rfl)))) (mvT hZ (hw _ (List.mem_of_getElem? (i := 73) rfl))) (mvT hZ (hw _ (List.mem_of_getElem? (i := 72) rfl))) (by decide) (backOf (W := 0) (rm24 l Z a0 hw [] ay b51 bq126 kq126 (4 : Int32) (4 : Int32) (10 : Int32) (12 : Int32) [(.ref aq), (.ref aq), (.ref aq), (.ref aq), .null, .null, .null, .null, .null, .null] [.null, .null, .null, .null, .null, .null] [true, true, true, true] T182.heap n0 O182 ⟨Ea183, Fe183, Fs183, Fg183, Vb183, Ov183, Eb183, ga183, gb183, nab183⟩ am aq ay Sm Sq Sy Hm Hq Hy Fm Fq Fy Hy Fy rfl (by decide) (by decide) (by decide +kernel)) hZ (hw _ (List.mem_of_getElem? (i := 74) rfl)) (hw _ (List.mem_of_getElem? (i := 31) rfl)) (by decide) (by decide)) q185a q185c (g := (mkF m 148 #[.val (.int p0), .val (.int p1), .val (.ref b51), .val (.int (4 : Int32))] [(.ref b51), (.ref ay)])) rfl (by rw [hml]; rfl) (Steps.refl _) (argsL := [(.ref b51)]) (rest := []) (lenOf pd0_2 rfl) rfl (by show 2 * 0 + _ ≤ _; exact Nat.le_of_eq rfl) (hb hby at_148) (fun _ _ => ⟨rfl, e184, (by decide : 2 + 0 ≤ _), (by decide : 13 + 0 ≤ _)⟩)
            dsimp only [Pt.U, Pt.locs, Pt.cells, Pt.slots] at X185 l185 y185 z185 st185 hQ185
            subst l185 y185 z185
            obtain ⟨rfl, Nq185, eq185⟩ := hQ185
            have N185 := Fr.app N182 Nq185
            refine own_csR [] 151 st185 ?_
            refine own_tp (.ref b51) 152 (fun _ q => XS.aloadN X185.here hx rfl (hb hby at_151) rfl rfl q) ?_
            obtain ⟨cq186, kq186, q186a, q186b, q186c⟩ := isOf hZ eq185 Ea183
            obtain ⟨_, _, ⟨T186, L186, k186, n186⟩, -, X186, ⟨Lc186, hQ186, l186, y186, z186⟩, st186⟩ := X185.interfaceBack hx (xi := (⟨"java/util/List", "size", "()I"⟩ : MethodName)) (y := (⟨"java/util/ArrayList", "size", "()I"⟩ : MethodName)) hown (mvT hZ (hw _ (List.mem_of_getElem? (i := 108) rfl))) (mvT hZ (hw _ (List.mem_of_getElem? (i := 76) rfl))) (mvT hZ (hw _ (List.mem_of_getElem? (i := 77) rfl))) (mvT hZ (hw _ (List.mem_of_getElem? (i := 78) rfl))) (mvT hZ (hw _ (List.mem_of_getElem? (i := 79) rfl))) (mvT hZ (hw _ (List.mem_of_getElem? (i := 80) rfl))) (mvT hZ (hw _ (List.mem_of_getElem? (i := 81) rfl))) (mvT hZ (hw _ (List.mem_of_getElem? (i := 40) rfl))) (by decide) (backOf (W := 0) (rm19 l Z a0 hw [] b51 (4 : Int32) T182.heap n0 Ea183 Fs183) hZ (hw _ (List.mem_of_getElem? (i := 82) rfl)) (hw _ (List.mem_of_getElem? (i := 2) rfl)) (by decide) (by decide)) q186a q186b q186c (g := (mkF m 152 #[.val (.int p0), .val (.int p1), .val (.ref b51), .val (.int (4 : Int32))] [(.ref b51)])) rfl (by rw [hml]; rfl) (Steps.refl _) (argsL := []) (rest := []) (lenOf pd0_3 rfl) rfl (by show 2 * 0 + _ ≤ _; exact Nat.le_of_eq rfl) (hb hby at_152) (fun _ _ => ⟨rfl, eq185, (by decide : 2 + 0 ≤ _), (by decide : 13 + 0 ≤ _)⟩)
            dsimp only [Pt.U, Pt.locs, Pt.cells, Pt.slots] at X186 l186 y186 z186 st186 hQ186
            subst l186 y186 z186
            obtain ⟨rfl, Nq186, eq186⟩ := hQ186
            have N186 := Fr.app N185 Nq186
            refine own_csR [(.int (4 : Int32))] 157 st186 ?_
            refine own_tp (.int (4 : Int32)) 158 (fun _ q => XS.iloadN X186.here hx rfl (hb hby at_157) rfl q) ?_
            refine own_d2 161 (fun _ q => XS.icmpNo X186.here hx rfl (hb hby at_158) rfl (teq (by decide : (4 : Int32) = (4 : Int32))).2 q) ?_
            refine own_tp (.int (1 : Int32)) 162 (fun _ q => XS.iconst X186.here hx rfl (hb hby at_161) q) ?_
            refine own_d0 166 (fun _ q => XS.goto X186.here hx rfl (pc0 := 162) (pc' := 166) rfl (hb hby at_162) (by decide) (by decide) q) ?_
            exact own_retN (t := .boolean) X186 hx hrt (hb hby at_166) (by simp) hlk (by decide) (by decide) eq186 (⟨rfl, N186⟩)

set_option maxRecDepth 65536 in
set_option maxHeartbeats 40000000 in
theorem comes_1 {Post : Tables → Env → Array Value → State → Outcome → State → Prop} (hpost : ∀ tb e args s v u, (limb_1_1.after args s (.returned v) u = true ∧ limb_1_2.after args s (.returned v) u = true ∧ True) → FrameEnd s (.returned v) u (Jvm.fieldLocs frame_1_writes args s ++ Jvm.arrayLocs frame_1_arrays args s ++ Jvm.staticLocs frame_1_statics s) 16 128 → Post tb e args s (.returned v) u) :
    ArmFor flags0 classFile x code maxLocals ret World_1 tables_1 room_1 Calls_1 rest_1 Pre_1 Post := by
  intro l hfl _ _ p e ha hc hk s m args below hf hA hF happ hP
  obtain ⟨hcalls, hrest, hpre⟩ := hP
  obtain ⟨-, -, -, hnamed, -, -, -, hat⟩ := (Spec.applies_iff hf).mp happ
  obtain ⟨hg, hn⟩ := and_e (Cond.before_iff.mp (show (Jvm.Cond.and given_1 narrow_1).before args s = true from hpre))
  obtain ⟨hcount, hg0⟩ := and_e hg
  obtain ⟨hv0, hg1⟩ := and_e hg0
  obtain ⟨w0, w1, rfl⟩ : ∃ w0 w1 : Value, args = #[w0, w1] := by
    have hs : args.size = 2 := by simpa [Cond.value, given_1] using hcount
    obtain ⟨L⟩ := args
    match L, hs with
    | [w0, w1], _ => exact ⟨w0, w1, rfl⟩
  have hw := fun d (hd : d ∈ tables_1) => atoms_spec (ws := Jvm.Cond.code x code maxLocals ret :: tables_1) hat d (List.mem_cons_of_mem _ hd)
  have hfit : Fit s := fun {y c} hc i hi => by
    obtain ⟨ha, rfl⟩ := Array.getElem?_eq_some_iff.mp hc
    have q := List.all_eq_true.mp ((Array.all_eq_true_iff_forall_mem.mp hF) _ (Array.getElem_mem ha)) i (List.mem_range.mpr hi)
    simpa [Array.getElem?_eq_getElem hi] using q
  obtain ⟨i0, ei0⟩ := is_v hv0
  obtain rfl : w0 = (.int i0) := Option.some.inj ei0
  obtain ⟨i1, ei1⟩ := is_v hg1
  obtain rfl : w1 = (.int i1) := Option.some.inj ei1
  obtain ⟨hsets, hown0⟩ := atoms_of _ (rest_1_c_eq ▸ (show rest_1_c.before _ s = true from hrest))
  obtain ⟨n1, hn⟩ := and_e hn
  obtain ⟨n2, hn⟩ := and_e hn
  obtain ⟨n3, hn⟩ := and_e hn
  obtain ⟨n4, hn⟩ := and_e hn
  obtain ⟨n5, n6⟩ := and_e hn
  obtain ⟨am, v1, Sm, Hm⟩ := own_sta (hw _ (List.mem_of_getElem? (i := 31) rfl)) (hw _ (List.mem_of_getElem? (i := 32) rfl)) n1
  obtain ⟨aq, v2, Sq, Hq⟩ := own_sta (hw _ (List.mem_of_getElem? (i := 31) rfl)) (hw _ (List.mem_of_getElem? (i := 69) rfl)) n2
  obtain ⟨ay, v3, Sy, Hy⟩ := own_sta (hw _ (List.mem_of_getElem? (i := 31) rfl)) (hw _ (List.mem_of_getElem? (i := 111) rfl)) n5
  have Fm := own_fld v1 n3
  have Fq := own_fld v2 n4
  have Fy := own_fld v3 n6
  have g6 := Cond.before_iff.mp (hsets _ (List.mem_of_getElem? (i := 6) rfl))
  have g7 := Cond.before_iff.mp (hsets _ (List.mem_of_getElem? (i := 7) rfl))
  have g8 := Cond.before_iff.mp (hsets _ (List.mem_of_getElem? (i := 8) rfl))
  obtain ⟨ad, vd⟩ := exa_v g7
  have Sd : Sta s s.heap "java/util/ArrayList" "DEFAULTCAPACITY_EMPTY_ELEMENTDATA" "[Ljava/lang/Object;" (.ref ad) := Sta.start vd (Or.inr ⟨(hw _ (List.mem_of_getElem? (i := 2) rfl)), hsets _ (List.mem_of_getElem? (i := 2) rfl)⟩)
  obtain ⟨kd, Vd⟩ := own_starr (vs := []) (dv := .null) hfit vd g6 g8 (by decide) rfl trivial
  obtain ⟨mc, mk, mr, m1, m2, m3, _⟩ := hcalls.1
  have Mr : Mir0 s mr := ⟨mc, mk, m1, m2, m3⟩
  obtain ⟨n, o, h1, h2, h3, _, L, rfl, ⟨rfl, N⟩, hq⟩ := rm0 l s _ hw tables_1 i0 i1 s.heap s.heap.size (Nat.le_refl _) (Old.start s) ad kd Sd Vd am aq ay Sm Sq Sy Hm Hq Hy Fm Fq Fy mr Mr p e ha hc hk s m _ below hf ((Spec.applies_iff_loose hf).mp happ).1 ⟨rfl, State.Warmed39.refl s, rfl⟩ trivial
  refine ⟨n, _, h1, h2, h3, hpost _ _ _ _ _ _ ⟨Cond.after_iff.mpr rfl, Cond.after_iff.mpr (eq_i res_at (Term.int_eval (1)) rfl), trivial⟩ ⟨hq.1, hq.2.1, (hq.2.2.sift fun y hy => Or.inr (N y hy)).mono (by decide) (by decide)⟩⟩
theorem main_1_1 : Claimed_1_1 := comes_1 fun _ _ _ _ _ _ h hF => ⟨h.1, hF⟩
theorem main_1_2 : Claimed_1_2 := comes_1 fun _ _ _ _ _ _ h hF => ⟨h.2.1, hF⟩
end Jvm.Pilot.@@N@@
namespace Jvm.Pilot.@@N@@
open Jvm Jvm.ClassFile Sem Op Lib Jvm.Free Jvm.Stand Jvm.Pilot.@@N@@.Jvm.D
/-! MADE BY PROGRAM (witnessworld.py) out of the Statement's table words and the real class files: 28 classes; the members and pool entries that the words name. The judged class is class 1, her method 2. -/
namespace start1
open Jvm.ClassFile
def u (s : String) : CpInfo := .utf8 (stringToUtf16 s)
/-- a pool by its gaps: so many unusable entries, then the entry; so many at the end -/
def gap : Nat → List CpInfo → List CpInfo
  | 0, r => r
  | n + 1, r => .unusable :: gap n r
def poolList (es : List (Nat × CpInfo)) (last : Nat) : List CpInfo := es.foldr (fun e r => gap e.1 (e.2 :: r)) (gap last [])
def pool (es : List (Nat × CpInfo)) (last : Nat) : Array CpInfo := ⟨poolList es last⟩
def fileOf (pool : Array CpInfo) (this : Nat) (attrs : Array Attribute := #[]) (ms : Array MethodInfo := #[]) (fl : Nat := 33) (sup : Nat := 0) (ifs : Array Nat := #[]) (fds : Array FieldInfo := #[]) : ClassFile where
  minorVersion := 0
  majorVersion := 65
  constantPool := pool
  accessFlags := fl
  thisClass := this
  superClass := sup
  interfaces := ifs
  fields := fds
  methods := ms
  attributes := attrs
def plain (name : String) (sup : Option ClassId) : Class where
  name := name
  kind := .ordinary
  loader := none
  accessFlags := 33
  super := sup
  interfaces := #[]
  cf := none
  fields := #[]
  methods := #[]
  instanceTypes := #[]
  staticTypes := #[]
  resolved := #[]
  callSites := []
  init := .initialized
  statics := none
  mirror := none

def pool0 : Array CpInfo := pool [(5, u "<init>"), (0, u "()V"), (1, .class_ 10), (1, u "java/lang/Object"), (0, u "getClass"), (0, u "()Ljava/lang/Class;")] 111

def k0c0 : Code := { maxStack := 0, maxLocals := 1, code := object_method_1_code, exceptionTable := #[], attributes := #[] }
def k0m0 : Method := { name := "<init>", desc := "()V", sig := { parameters := [], returnType := none }, accessFlags := 1, code := some k0c0 }
def k0m1 : Method := { name := "getClass", desc := "()Ljava/lang/Class;", sig := { parameters := [], returnType := some (.object "java/lang/Class") }, accessFlags := 273, code := none }
/-- java/lang/Object -/
def k0 : Class := { plain "java/lang/Object" none with
  accessFlags := 33
  interfaces := #[]
  cf := some (fileOf pool0 8 #[] #[{ accessFlags := 1, nameIndex := 5, descriptorIndex := 6, attributes := #[] }, { accessFlags := 273, nameIndex := 11, descriptorIndex := 12, attributes := #[] }] 33 0 #[] #[])
  fields := #[]
  methods := #[k0m0, k0m1]
  instanceTypes := #[]
  staticTypes := #[]
  resolved := Array.replicate 124 none
  statics := none }

def pool1 : Array CpInfo := pool [(2, .class_ 4), (0, .nameAndType 5 6), (0, u "java/lang/Object"), (0, u "<init>"), (0, u "()V"), (0, .fieldref 8 9), (0, .class_ 10), (0, .nameAndType 11 12), (0, u "com/example/kalends/kalends/ContractPeriod$Length"), (0, u "QUARTER"), (0, u "Lcom/example/kalends/kalends/ContractPeriod$Length;"), (0, .interfaceMethodref 14 15), (0, .class_ 16), (0, .nameAndType 17 18), (0, u "java/util/List"), (0, u "add"), (0, u "(Ljava/lang/Object;)Z"), (0, .fieldref 8 20), (0, .nameAndType 21 12), (0, u "MONTH"), (0, .class_ 23), (0, u "java/util/ArrayList"), (0, .methodref 22 3), (0, .methodref 26 27), (0, .class_ 28), (0, .nameAndType 29 30), (0, u "com/example/kalends/kalends/LengthRequireMadeUpOfPinLaw"), (0, u "addBlock"), (0, u "(Ljava/util/List;Z)I"), (0, .methodref 8 32), (0, .nameAndType 33 34), (0, u "requireMadeUpOf"), (0, u "(Ljava/util/List;)V"), (0, .interfaceMethodref 14 36), (0, .nameAndType 37 38), (0, u "size"), (0, u "()I"), (0, .interfaceMethodref 14 40), (0, .nameAndType 41 42), (0, u "get"), (0, u "(I)Ljava/lang/Object;"), (0, .fieldref 8 44), (0, .nameAndType 45 12), (0, u "YEAR"), (5, u "law"), (0, u "(II)Z")] 6

def k1m0 : Method := { name := "<init>", desc := "()V", sig := { parameters := [], returnType := none }, accessFlags := 1, code := none }
def k1c1 : Code := { maxStack := 2, maxLocals := 2, code := method_2_code, exceptionTable := #[], attributes := #[] }
def k1m1 : Method := { name := "addBlock", desc := "(Ljava/util/List;Z)I", sig := { parameters := [(.object "java/util/List"), .boolean], returnType := some .int }, accessFlags := 10, code := some k1c1 }
def k1c2 : Code := { maxStack := 4, maxLocals := 4, code := code, exceptionTable := #[], attributes := #[] }
def k1m2 : Method := { name := "law", desc := "(II)Z", sig := { parameters := [.int, .int], returnType := some .boolean }, accessFlags := 9, code := some k1c2 }
/-- com/example/kalends/kalends/LengthRequireMadeUpOfPinLaw -/
def k1 : Class := { plain "com/example/kalends/kalends/LengthRequireMadeUpOfPinLaw" (some 0) with
  accessFlags := 49
  interfaces := #[]
  cf := some (fileOf pool1 26 #[] #[{ accessFlags := 1, nameIndex := 5, descriptorIndex := 6, attributes := #[] }, { accessFlags := 10, nameIndex := 29, descriptorIndex := 30, attributes := #[] }, { accessFlags := 9, nameIndex := 51, descriptorIndex := 52, attributes := #[] }] 49 2 #[] #[])
  fields := #[]
  methods := #[k1m0, k1m1, k1m2]
  instanceTypes := #[]
  staticTypes := #[]
  resolved := Array.replicate 59 none
  statics := none }

def pool2 : Array CpInfo := pool [(8, .class_ 10), (1, u "java/lang/Iterable"), (24, .class_ 36), (0, u "java/lang/Object")] 25

/-- java/lang/Iterable -/
def k2 : Class := { plain "java/lang/Iterable" (some 0) with
  accessFlags := 1537
  interfaces := #[]
  cf := some (fileOf pool2 8 #[] #[] 1537 35 #[] #[])
  fields := #[]
  methods := #[]
  instanceTypes := #[]
  staticTypes := #[]
  resolved := Array.replicate 62 none
  statics := none }

def pool3 : Array CpInfo := pool [(10, .class_ 12), (1, u "java/util/Collection"), (47, .class_ 61), (0, u "java/lang/Object"), (0, .class_ 63), (0, u "java/lang/Iterable")] 51

/-- java/util/Collection -/
def k3 : Class := { plain "java/util/Collection" (some 0) with
  accessFlags := 1537
  interfaces := #[2]
  cf := some (fileOf pool3 10 #[] #[] 1537 60 #[62] #[])
  fields := #[]
  methods := #[]
  instanceTypes := #[]
  staticTypes := #[]
  resolved := Array.replicate 115 none
  statics := none }

def pool4 : Array CpInfo := pool [(1, .methodref 2 3), (0, .class_ 4), (0, .nameAndType 5 6), (0, u "java/lang/Object"), (0, u "<init>"), (0, u "()V"), (1, .class_ 10), (1, u "java/util/AbstractCollection"), (66, .class_ 78), (0, u "java/util/Collection")] 81

def k4c0 : Code := { maxStack := 1, maxLocals := 1, code := jdk_22_method_1_code, exceptionTable := #[], attributes := #[] }
def k4m0 : Method := { name := "<init>", desc := "()V", sig := { parameters := [], returnType := none }, accessFlags := 4, code := some k4c0 }
/-- java/util/AbstractCollection -/
def k4 : Class := { plain "java/util/AbstractCollection" (some 0) with
  accessFlags := 1057
  interfaces := #[3]
  cf := some (fileOf pool4 8 #[] #[{ accessFlags := 4, nameIndex := 5, descriptorIndex := 6, attributes := #[] }] 1057 2 #[77] #[])
  fields := #[]
  methods := #[k4m0]
  instanceTypes := #[]
  staticTypes := #[]
  resolved := Array.replicate 160 none
  statics := none }

def pool5 : Array CpInfo := pool [(8, .class_ 10), (1, u "java/util/SequencedCollection"), (15, .class_ 27), (0, u "java/lang/Object"), (0, .class_ 29), (0, u "java/util/Collection")] 27

/-- java/util/SequencedCollection -/
def k5 : Class := { plain "java/util/SequencedCollection" (some 0) with
  accessFlags := 1537
  interfaces := #[3]
  cf := some (fileOf pool5 8 #[] #[] 1537 26 #[28] #[])
  fields := #[]
  methods := #[]
  instanceTypes := #[]
  staticTypes := #[]
  resolved := Array.replicate 57 none
  statics := none }

def pool6 : Array CpInfo := pool [(8, .class_ 10), (1, u "java/util/List"), (49, u "add"), (3, u "(Ljava/lang/Object;)Z"), (10, u "get"), (0, u "(I)Ljava/lang/Object;"), (2, u "size"), (0, u "()I"), (22, .class_ 104), (0, u "java/lang/Object"), (15, .class_ 121), (0, u "java/util/SequencedCollection")] 129

def k6m0 : Method := { name := "size", desc := "()I", sig := { parameters := [], returnType := some .int }, accessFlags := 1025, code := none }
def k6m1 : Method := { name := "add", desc := "(Ljava/lang/Object;)Z", sig := { parameters := [(.object "java/lang/Object")], returnType := some .boolean }, accessFlags := 1025, code := none }
def k6m2 : Method := { name := "get", desc := "(I)Ljava/lang/Object;", sig := { parameters := [.int], returnType := some (.object "java/lang/Object") }, accessFlags := 1025, code := none }
/-- java/util/List -/
def k6 : Class := { plain "java/util/List" (some 0) with
  accessFlags := 1537
  interfaces := #[5]
  cf := some (fileOf pool6 8 #[] #[{ accessFlags := 1025, nameIndex := 79, descriptorIndex := 80, attributes := #[] }, { accessFlags := 1025, nameIndex := 60, descriptorIndex := 64, attributes := #[] }, { accessFlags := 1025, nameIndex := 75, descriptorIndex := 76, attributes := #[] }] 1537 103 #[120] #[])
  fields := #[]
  methods := #[k6m0, k6m1, k6m2]
  instanceTypes := #[]
  staticTypes := #[]
  resolved := Array.replicate 251 none
  statics := none }

def pool7 : Array CpInfo := pool [(1, .methodref 2 3), (0, .class_ 4), (0, .nameAndType 5 6), (0, u "java/util/AbstractCollection"), (0, u "<init>"), (0, u "()V"), (0, .fieldref 8 9), (0, .class_ 10), (0, .nameAndType 11 12), (0, u "java/util/AbstractList"), (0, u "modCount"), (0, u "I"), (64, .class_ 78), (0, u "java/util/AbstractList$Itr"), (3, .class_ 83), (0, u "java/util/AbstractList$ListItr"), (9, .class_ 94), (0, u "java/util/AbstractList$RandomAccessSubList"), (3, .class_ 99), (0, u "java/util/AbstractList$SubList"), (33, .class_ 134), (0, u "java/util/List"), (73, .class_ 209), (0, u "java/util/AbstractList$SubList$1"), (0, .class_ 211), (0, u "java/util/AbstractList$RandomAccessSpliterator")] 6

def k7c0 : Code := { maxStack := 2, maxLocals := 1, code := jdk_39_method_1_code, exceptionTable := #[], attributes := #[] }
def k7m0 : Method := { name := "<init>", desc := "()V", sig := { parameters := [], returnType := none }, accessFlags := 4, code := some k7c0 }
/-- java/util/AbstractList -/
def k7 : Class := { plain "java/util/AbstractList" (some 4) with
  accessFlags := 1057
  interfaces := #[6]
  cf := some (fileOf pool7 8 #[.nestMembers #[93, 98, 208, 210, 82, 77]] #[{ accessFlags := 4, nameIndex := 5, descriptorIndex := 6, attributes := #[] }] 1057 2 #[133] #[{ accessFlags := 132, nameIndex := 11, descriptorIndex := 12, attributes := #[] }])
  fields := #[{ name := "modCount", type := .int, accessFlags := 132, slot := 0, constantValue := 0 }]
  methods := #[k7m0]
  instanceTypes := #[.int]
  staticTypes := #[]
  resolved := Array.replicate 218 none
  statics := none }

def pool8 : Array CpInfo := pool [(1, .class_ 2), (0, u "java/util/RandomAccess"), (0, .class_ 4), (0, u "java/lang/Object")] 2

/-- java/util/RandomAccess -/
def k8 : Class := { plain "java/util/RandomAccess" (some 0) with
  accessFlags := 1537
  interfaces := #[]
  cf := some (fileOf pool8 1 #[] #[] 1537 3 #[] #[])
  fields := #[]
  methods := #[]
  instanceTypes := #[]
  staticTypes := #[]
  resolved := Array.replicate 7 none
  statics := none }

def pool9 : Array CpInfo := pool [(1, .class_ 2), (0, u "java/lang/Cloneable"), (0, .class_ 4), (0, u "java/lang/Object")] 2

/-- java/lang/Cloneable -/
def k9 : Class := { plain "java/lang/Cloneable" (some 0) with
  accessFlags := 1537
  interfaces := #[]
  cf := some (fileOf pool9 1 #[] #[] 1537 3 #[] #[])
  fields := #[]
  methods := #[]
  instanceTypes := #[]
  staticTypes := #[]
  resolved := Array.replicate 7 none
  statics := none }

def pool10 : Array CpInfo := pool [(1, .class_ 2), (0, u "java/io/Serializable"), (0, .class_ 4), (0, u "java/lang/Object")] 2

/-- java/io/Serializable -/
def k10 : Class := { plain "java/io/Serializable" (some 0) with
  accessFlags := 1537
  interfaces := #[]
  cf := some (fileOf pool10 1 #[] #[] 1537 3 #[] #[])
  fields := #[]
  methods := #[]
  instanceTypes := #[]
  staticTypes := #[]
  resolved := Array.replicate 7 none
  statics := none }

def pool11 : Array CpInfo := pool [(1, .methodref 2 3), (0, .class_ 4), (0, .nameAndType 5 6), (0, u "java/util/AbstractList"), (0, u "<init>"), (0, u "()V"), (0, .class_ 8), (0, u "java/lang/Object"), (0, .fieldref 10 11), (0, .class_ 12), (0, .nameAndType 13 14), (0, u "java/util/ArrayList"), (0, u "elementData"), (0, u "[Ljava/lang/Object;"), (2, u "EMPTY_ELEMENTDATA"), (21, .fieldref 10 40), (0, .nameAndType 41 14), (0, u "DEFAULTCAPACITY_EMPTY_ELEMENTDATA"), (5, u "()[Ljava/lang/Object;"), (0, .fieldref 10 49), (0, .nameAndType 50 51), (0, u "size"), (0, u "I"), (6, .class_ 60), (1, u "java/util/Arrays"), (0, u "copyOf"), (1, .fieldref 10 64), (0, .nameAndType 65 51), (0, u "modCount"), (0, .methodref 58 67), (0, .nameAndType 61 68), (0, u "([Ljava/lang/Object;I)[Ljava/lang/Object;"), (0, .methodref 10 70), (0, .nameAndType 71 72), (0, u "grow"), (0, u "(I)[Ljava/lang/Object;"), (0, .methodref 74 75), (0, .class_ 76), (0, .nameAndType 77 78), (0, u "jdk/internal/util/ArraysSupport"), (0, u "newLength"), (0, u "(III)I"), (0, .methodref 80 81), (0, .class_ 82), (0, .nameAndType 83 84), (0, u "java/lang/Math"), (0, u "max"), (0, u "(II)I"), (11, u "(Ljava/lang/Object;)Z"), (21, .methodref 119 120), (0, .class_ 121), (0, .nameAndType 122 84), (0, u "java/util/Objects"), (0, u "checkIndex"), (0, .methodref 10 124), (0, .nameAndType 13 125), (0, u "(I)Ljava/lang/Object;"), (3, .methodref 10 130), (0, .nameAndType 71 47), (0, .methodref 10 132), (0, .nameAndType 133 134), (0, u "add"), (0, u "(Ljava/lang/Object;[Ljava/lang/Object;I)V"), (13, .class_ 149), (0, u "java/util/List"), (36, u "()I"), (75, .class_ 263), (0, u "java/util/ArrayList$ListItr"), (3, .class_ 268), (0, u "java/util/ArrayList$Itr"), (7, .class_ 277), (0, u "java/util/ArrayList$SubList"), (12, .class_ 291), (0, u "java/util/ArrayList$ArrayListSpliterator"), (37, .class_ 330), (0, u "java/util/RandomAccess"), (0, .class_ 332), (0, u "java/lang/Cloneable"), (0, .class_ 334), (0, u "java/io/Serializable"), (0, u "serialVersionUID"), (0, u "J"), (3, u "DEFAULT_CAPACITY"), (40, u "get"), (118, .class_ 501), (0, u "java/util/ArrayList$SubList$2"), (0, .class_ 503), (0, u "java/util/ArrayList$SubList$1")] 5

def k11c0 : Code := { maxStack := 2, maxLocals := 1, code := jdk_38_method_2_code, exceptionTable := #[], attributes := #[] }
def k11m0 : Method := { name := "<init>", desc := "()V", sig := { parameters := [], returnType := none }, accessFlags := 1, code := some k11c0 }
def k11c1 : Code := { maxStack := 4, maxLocals := 4, code := jdk_38_method_6_code, exceptionTable := #[], attributes := #[] }
def k11m1 : Method := { name := "grow", desc := "(I)[Ljava/lang/Object;", sig := { parameters := [.int], returnType := some (.array (.object "java/lang/Object")) }, accessFlags := 2, code := some k11c1 }
def k11c2 : Code := { maxStack := 3, maxLocals := 1, code := jdk_38_method_7_code, exceptionTable := #[], attributes := #[] }
def k11m2 : Method := { name := "grow", desc := "()[Ljava/lang/Object;", sig := { parameters := [], returnType := some (.array (.object "java/lang/Object")) }, accessFlags := 2, code := some k11c2 }
def k11c3 : Code := { maxStack := 1, maxLocals := 1, code := jdk_38_method_8_code, exceptionTable := #[], attributes := #[] }
def k11m3 : Method := { name := "size", desc := "()I", sig := { parameters := [], returnType := some .int }, accessFlags := 1, code := some k11c3 }
def k11c4 : Code := { maxStack := 2, maxLocals := 2, code := jdk_38_method_18_code, exceptionTable := #[], attributes := #[] }
def k11m4 : Method := { name := "elementData", desc := "(I)Ljava/lang/Object;", sig := { parameters := [.int], returnType := some (.object "java/lang/Object") }, accessFlags := 0, code := some k11c4 }
def k11c5 : Code := { maxStack := 2, maxLocals := 2, code := jdk_38_method_20_code, exceptionTable := #[], attributes := #[] }
def k11m5 : Method := { name := "get", desc := "(I)Ljava/lang/Object;", sig := { parameters := [.int], returnType := some (.object "java/lang/Object") }, accessFlags := 1, code := some k11c5 }
def k11c6 : Code := { maxStack := 3, maxLocals := 4, code := jdk_38_method_24_code, exceptionTable := #[], attributes := #[] }
def k11m6 : Method := { name := "add", desc := "(Ljava/lang/Object;[Ljava/lang/Object;I)V", sig := { parameters := [(.object "java/lang/Object"), (.array (.object "java/lang/Object")), .int], returnType := none }, accessFlags := 2, code := some k11c6 }
def k11c7 : Code := { maxStack := 4, maxLocals := 2, code := jdk_38_method_25_code, exceptionTable := #[], attributes := #[] }
def k11m7 : Method := { name := "add", desc := "(Ljava/lang/Object;)Z", sig := { parameters := [(.object "java/lang/Object")], returnType := some .boolean }, accessFlags := 1, code := some k11c7 }
/-- java/util/ArrayList -/
def k11 : Class := { plain "java/util/ArrayList" (some 7) with
  accessFlags := 33
  interfaces := #[6, 8, 9, 10]
  cf := some (fileOf pool11 10 #[.nestMembers #[290, 276, 500, 502, 262, 267]] #[{ accessFlags := 1, nameIndex := 5, descriptorIndex := 6, attributes := #[] }, { accessFlags := 2, nameIndex := 71, descriptorIndex := 72, attributes := #[] }, { accessFlags := 2, nameIndex := 71, descriptorIndex := 47, attributes := #[] }, { accessFlags := 1, nameIndex := 50, descriptorIndex := 186, attributes := #[] }, { accessFlags := 0, nameIndex := 13, descriptorIndex := 125, attributes := #[] }, { accessFlags := 1, nameIndex := 381, descriptorIndex := 125, attributes := #[] }, { accessFlags := 2, nameIndex := 133, descriptorIndex := 134, attributes := #[] }, { accessFlags := 1, nameIndex := 133, descriptorIndex := 96, attributes := #[] }] 33 2 #[148, 329, 331, 333] #[{ accessFlags := 26, nameIndex := 335, descriptorIndex := 336, attributes := #[] }, { accessFlags := 26, nameIndex := 340, descriptorIndex := 51, attributes := #[] }, { accessFlags := 26, nameIndex := 17, descriptorIndex := 14, attributes := #[] }, { accessFlags := 26, nameIndex := 41, descriptorIndex := 14, attributes := #[] }, { accessFlags := 128, nameIndex := 13, descriptorIndex := 14, attributes := #[] }, { accessFlags := 2, nameIndex := 50, descriptorIndex := 51, attributes := #[] }])
  fields := #[{ name := "serialVersionUID", type := .long, accessFlags := 26, slot := 0, constantValue := 0 }, { name := "DEFAULT_CAPACITY", type := .int, accessFlags := 26, slot := 1, constantValue := 0 }, { name := "EMPTY_ELEMENTDATA", type := (.array (.object "java/lang/Object")), accessFlags := 26, slot := 2, constantValue := 0 }, { name := "DEFAULTCAPACITY_EMPTY_ELEMENTDATA", type := (.array (.object "java/lang/Object")), accessFlags := 26, slot := 3, constantValue := 0 }, { name := "elementData", type := (.array (.object "java/lang/Object")), accessFlags := 128, slot := 1, constantValue := 0 }, { name := "size", type := .int, accessFlags := 2, slot := 2, constantValue := 0 }]
  methods := #[k11m0, k11m1, k11m2, k11m3, k11m4, k11m5, k11m6, k11m7]
  instanceTypes := #[.int, (.array (.object "java/lang/Object")), .int]
  staticTypes := #[.long, .int, (.array (.object "java/lang/Object")), (.array (.object "java/lang/Object"))]
  resolved := Array.replicate 509 none
  statics := some 0 }

def pool12 : Array CpInfo := pool [(1, .class_ 2), (0, u "java/lang/constant/Constable"), (0, .class_ 4), (0, u "java/lang/Object")] 6

/-- java/lang/constant/Constable -/
def k12 : Class := { plain "java/lang/constant/Constable" (some 0) with
  accessFlags := 1537
  interfaces := #[]
  cf := some (fileOf pool12 1 #[] #[] 1537 3 #[] #[])
  fields := #[]
  methods := #[]
  instanceTypes := #[]
  staticTypes := #[]
  resolved := Array.replicate 11 none
  statics := none }

def pool13 : Array CpInfo := pool [(1, .class_ 2), (0, u "java/lang/Comparable"), (0, .class_ 4), (0, u "java/lang/Object")] 7

/-- java/lang/Comparable -/
def k13 : Class := { plain "java/lang/Comparable" (some 0) with
  accessFlags := 1537
  interfaces := #[]
  cf := some (fileOf pool13 1 #[] #[] 1537 3 #[] #[])
  fields := #[]
  methods := #[]
  instanceTypes := #[]
  staticTypes := #[]
  resolved := Array.replicate 12 none
  statics := none }

def pool14 : Array CpInfo := pool [(2, .class_ 4), (1, u "java/lang/Enum"), (0, u "name"), (0, u "Ljava/lang/String;"), (2, u "ordinal"), (0, u "I"), (1, .class_ 14), (1, u "java/lang/Object"), (4, u "hash"), (86, .class_ 108), (1, u "java/lang/Enum$EnumDesc"), (2, .class_ 112), (0, u "java/lang/constant/Constable"), (0, .class_ 114), (0, u "java/lang/Comparable"), (0, .class_ 116), (0, u "java/io/Serializable")] 87

/-- java/lang/Enum -/
def k14 : Class := { plain "java/lang/Enum" (some 0) with
  accessFlags := 1057
  interfaces := #[12, 13, 10]
  cf := some (fileOf pool14 2 #[.nestMembers #[106]] #[] 1057 12 #[111, 113, 115] #[{ accessFlags := 18, nameIndex := 5, descriptorIndex := 6, attributes := #[] }, { accessFlags := 18, nameIndex := 9, descriptorIndex := 10, attributes := #[] }, { accessFlags := 2, nameIndex := 19, descriptorIndex := 10, attributes := #[] }])
  fields := #[{ name := "name", type := (.object "java/lang/String"), accessFlags := 18, slot := 0, constantValue := 0 }, { name := "ordinal", type := .int, accessFlags := 18, slot := 1, constantValue := 0 }, { name := "hash", type := .int, accessFlags := 2, slot := 2, constantValue := 0 }]
  methods := #[]
  instanceTypes := #[(.object "java/lang/String"), .int, .int]
  staticTypes := #[]
  resolved := Array.replicate 204 none
  statics := none }

def pool15 : Array CpInfo := pool [(1, .class_ 2), (0, u "com/example/kalends/kalends/ContractPeriod$Length"), (2, u "MONTH"), (0, u "Lcom/example/kalends/kalends/ContractPeriod$Length;"), (2, u "QUARTER"), (2, u "YEAR"), (2, u "$VALUES"), (0, u "[Lcom/example/kalends/kalends/ContractPeriod$Length;"), (6, .class_ 25), (1, u "java/lang/Enum"), (6, .fieldref 1 33), (0, .nameAndType 34 35), (0, u "months"), (0, u "I"), (5, u "()I"), (0, .interfaceMethodref 43 44), (0, .class_ 45), (0, .nameAndType 46 41), (0, u "java/util/List"), (0, u "size"), (0, .interfaceMethodref 43 48), (0, .nameAndType 49 50), (0, u "get"), (0, u "(I)Ljava/lang/Object;"), (44, u "requireMadeUpOf"), (0, u "(Ljava/util/List;)V"), (7, .class_ 105), (0, u "com/example/kalends/kalends/ContractPeriod")] 20

def k15c0 : Code := { maxStack := 8, maxLocals := 5, code := prog_9_method_5_code, exceptionTable := #[], attributes := #[] }
def k15m0 : Method := { name := "requireMadeUpOf", desc := "(Ljava/util/List;)V", sig := { parameters := [(.object "java/util/List")], returnType := none }, accessFlags := 0, code := some k15c0 }
/-- com/example/kalends/kalends/ContractPeriod$Length -/
def k15 : Class := { plain "com/example/kalends/kalends/ContractPeriod$Length" (some 14) with
  accessFlags := 16433
  interfaces := #[]
  cf := some (fileOf pool15 1 #[.nestHost 104] #[{ accessFlags := 0, nameIndex := 95, descriptorIndex := 96, attributes := #[] }] 16433 23 #[] #[{ accessFlags := 16409, nameIndex := 5, descriptorIndex := 6, attributes := #[] }, { accessFlags := 16409, nameIndex := 9, descriptorIndex := 6, attributes := #[] }, { accessFlags := 16409, nameIndex := 12, descriptorIndex := 6, attributes := #[] }, { accessFlags := 18, nameIndex := 34, descriptorIndex := 35, attributes := #[] }, { accessFlags := 4122, nameIndex := 15, descriptorIndex := 16, attributes := #[] }])
  fields := #[{ name := "MONTH", type := (.object "com/example/kalends/kalends/ContractPeriod$Length"), accessFlags := 16409, slot := 0, constantValue := 0 }, { name := "QUARTER", type := (.object "com/example/kalends/kalends/ContractPeriod$Length"), accessFlags := 16409, slot := 1, constantValue := 0 }, { name := "YEAR", type := (.object "com/example/kalends/kalends/ContractPeriod$Length"), accessFlags := 16409, slot := 2, constantValue := 0 }, { name := "months", type := .int, accessFlags := 18, slot := 3, constantValue := 0 }, { name := "$VALUES", type := (.array (.object "com/example/kalends/kalends/ContractPeriod$Length")), accessFlags := 4122, slot := 3, constantValue := 0 }]
  methods := #[k15m0]
  instanceTypes := #[(.object "java/lang/String"), .int, .int, .int]
  staticTypes := #[(.object "com/example/kalends/kalends/ContractPeriod$Length"), (.object "com/example/kalends/kalends/ContractPeriod$Length"), (.object "com/example/kalends/kalends/ContractPeriod$Length"), (.array (.object "com/example/kalends/kalends/ContractPeriod$Length"))]
  resolved := Array.replicate 126 none
  statics := some 1 }

def pool16 : Array CpInfo := pool [(1, .class_ 2), (0, u "java/lang/Math"), (1, .class_ 6), (1, u "java/lang/Object"), (0, u "<init>"), (0, u "()V"), (89, .class_ 100), (1, u "java/lang/Math$RandomNumberGeneratorHolder"), (71, u "negativeZeroFloatBits"), (0, u "J"), (2, u "negativeZeroDoubleBits"), (21, u "max"), (2, u "min"), (43, u "$assertionsDisabled"), (0, u "Z"), (88, u "(II)I"), (2, u "twoToTheDoubleScaleDown"), (0, u "D"), (4, u "twoToTheDoubleScaleUp"), (9, u "E"), (3, u "PI"), (2, u "TAU"), (2, u "DEGREES_TO_RADIANS"), (0, u "RADIANS_TO_DEGREES")] 94

def k16m0 : Method := { name := "<init>", desc := "()V", sig := { parameters := [], returnType := none }, accessFlags := 2, code := none }
def k16c1 : Code := { maxStack := 2, maxLocals := 2, code := jdk_29_method_65_code, exceptionTable := #[], attributes := #[] }
def k16m1 : Method := { name := "max", desc := "(II)I", sig := { parameters := [.int, .int], returnType := some .int }, accessFlags := 9, code := some k16c1 }
def k16c2 : Code := { maxStack := 2, maxLocals := 2, code := jdk_29_method_69_code, exceptionTable := #[], attributes := #[] }
def k16m2 : Method := { name := "min", desc := "(II)I", sig := { parameters := [.int, .int], returnType := some .int }, accessFlags := 9, code := some k16c2 }
/-- java/lang/Math -/
def k16 : Class := { plain "java/lang/Math" (some 0) with
  accessFlags := 49
  interfaces := #[]
  cf := some (fileOf pool16 1 #[.nestMembers #[98]] #[{ accessFlags := 2, nameIndex := 7, descriptorIndex := 8, attributes := #[] }, { accessFlags := 9, nameIndex := 198, descriptorIndex := 335, attributes := #[] }, { accessFlags := 9, nameIndex := 201, descriptorIndex := 335, attributes := #[] }] 49 4 #[] #[{ accessFlags := 25, nameIndex := 354, descriptorIndex := 339, attributes := #[] }, { accessFlags := 25, nameIndex := 358, descriptorIndex := 339, attributes := #[] }, { accessFlags := 25, nameIndex := 361, descriptorIndex := 339, attributes := #[] }, { accessFlags := 26, nameIndex := 364, descriptorIndex := 339, attributes := #[] }, { accessFlags := 26, nameIndex := 365, descriptorIndex := 339, attributes := #[] }, { accessFlags := 26, nameIndex := 172, descriptorIndex := 173, attributes := #[] }, { accessFlags := 26, nameIndex := 176, descriptorIndex := 173, attributes := #[] }, { accessFlags := 8, nameIndex := 344, descriptorIndex := 339, attributes := #[] }, { accessFlags := 8, nameIndex := 338, descriptorIndex := 339, attributes := #[] }, { accessFlags := 4120, nameIndex := 245, descriptorIndex := 246, attributes := #[] }])
  fields := #[{ name := "E", type := .double, accessFlags := 25, slot := 0, constantValue := 0 }, { name := "PI", type := .double, accessFlags := 25, slot := 1, constantValue := 0 }, { name := "TAU", type := .double, accessFlags := 25, slot := 2, constantValue := 0 }, { name := "DEGREES_TO_RADIANS", type := .double, accessFlags := 26, slot := 3, constantValue := 0 }, { name := "RADIANS_TO_DEGREES", type := .double, accessFlags := 26, slot := 4, constantValue := 0 }, { name := "negativeZeroFloatBits", type := .long, accessFlags := 26, slot := 5, constantValue := 0 }, { name := "negativeZeroDoubleBits", type := .long, accessFlags := 26, slot := 6, constantValue := 0 }, { name := "twoToTheDoubleScaleUp", type := .double, accessFlags := 8, slot := 7, constantValue := 0 }, { name := "twoToTheDoubleScaleDown", type := .double, accessFlags := 8, slot := 8, constantValue := 0 }, { name := "$assertionsDisabled", type := .boolean, accessFlags := 4120, slot := 9, constantValue := 0 }]
  methods := #[k16m0, k16m1, k16m2]
  instanceTypes := #[]
  staticTypes := #[.double, .double, .double, .double, .double, .long, .long, .double, .double, .boolean]
  resolved := Array.replicate 460 none
  statics := none }

def pool17 : Array CpInfo := pool [(2, .class_ 4), (1, u "java/lang/Object"), (0, u "<init>"), (0, u "()V"), (35, .class_ 44), (1, u "java/util/Objects"), (60, .methodref 106 107), (0, .class_ 108), (0, .nameAndType 109 110), (0, u "jdk/internal/util/Preconditions"), (0, u "checkIndex"), (0, u "(IILjava/util/function/BiFunction;)I"), (60, u "(II)I")] 12

def k17m0 : Method := { name := "<init>", desc := "()V", sig := { parameters := [], returnType := none }, accessFlags := 2, code := none }
def k17c1 : Code := { maxStack := 3, maxLocals := 2, code := jdk_31_method_17_code, exceptionTable := #[], attributes := #[] }
def k17m1 : Method := { name := "checkIndex", desc := "(II)I", sig := { parameters := [.int, .int], returnType := some .int }, accessFlags := 9, code := some k17c1 }
/-- java/util/Objects -/
def k17 : Class := { plain "java/util/Objects" (some 0) with
  accessFlags := 49
  interfaces := #[]
  cf := some (fileOf pool17 42 #[] #[{ accessFlags := 2, nameIndex := 5, descriptorIndex := 6, attributes := #[] }, { accessFlags := 9, nameIndex := 109, descriptorIndex := 171, attributes := #[] }] 49 2 #[] #[])
  fields := #[]
  methods := #[k17m0, k17m1]
  instanceTypes := #[]
  staticTypes := #[]
  resolved := Array.replicate 184 none
  statics := none }

def pool18 : Array CpInfo := pool [(2, .class_ 4), (1, u "java/lang/Object"), (0, u "<init>"), (0, u "()V"), (17, .class_ 26), (1, u "jdk/internal/util/Preconditions"), (6, u "checkIndex"), (21, .class_ 56), (0, u "jdk/internal/util/Preconditions$4"), (57, .class_ 115), (0, u "jdk/internal/util/Preconditions$1"), (7, u "SIOOBE_FORMATTER"), (0, u "Ljava/util/function/BiFunction;"), (0, .class_ 126), (0, u "jdk/internal/util/Preconditions$2"), (3, u "AIOOBE_FORMATTER"), (0, .class_ 132), (0, u "jdk/internal/util/Preconditions$3"), (3, u "IOOBE_FORMATTER"), (41, u "(IILjava/util/function/BiFunction;)I")] 15

def k18m0 : Method := { name := "<init>", desc := "()V", sig := { parameters := [], returnType := none }, accessFlags := 1, code := none }
def k18c1 : Code := { maxStack := 3, maxLocals := 3, code := jdk_41_method_11_code, exceptionTable := #[], attributes := #[] }
def k18m1 : Method := { name := "checkIndex", desc := "(IILjava/util/function/BiFunction;)I", sig := { parameters := [.int, .int, (.object "java/util/function/BiFunction")], returnType := some .int }, accessFlags := 9, code := some k18c1 }
/-- jdk/internal/util/Preconditions -/
def k18 : Class := { plain "jdk/internal/util/Preconditions" (some 0) with
  accessFlags := 33
  interfaces := #[]
  cf := some (fileOf pool18 24 #[.nestMembers #[55, 131, 125, 114]] #[{ accessFlags := 1, nameIndex := 5, descriptorIndex := 6, attributes := #[] }, { accessFlags := 9, nameIndex := 33, descriptorIndex := 178, attributes := #[] }] 33 2 #[] #[{ accessFlags := 25, nameIndex := 123, descriptorIndex := 124, attributes := #[] }, { accessFlags := 25, nameIndex := 130, descriptorIndex := 124, attributes := #[] }, { accessFlags := 25, nameIndex := 136, descriptorIndex := 124, attributes := #[] }])
  fields := #[{ name := "SIOOBE_FORMATTER", type := (.object "java/util/function/BiFunction"), accessFlags := 25, slot := 0, constantValue := 0 }, { name := "AIOOBE_FORMATTER", type := (.object "java/util/function/BiFunction"), accessFlags := 25, slot := 1, constantValue := 0 }, { name := "IOOBE_FORMATTER", type := (.object "java/util/function/BiFunction"), accessFlags := 25, slot := 2, constantValue := 0 }]
  methods := #[k18m0, k18m1]
  instanceTypes := #[]
  staticTypes := #[(.object "java/util/function/BiFunction"), (.object "java/util/function/BiFunction"), (.object "java/util/function/BiFunction")]
  resolved := Array.replicate 194 none
  statics := none }

def pool19 : Array CpInfo := pool [(9, u "<init>"), (6, .class_ 18), (1, u "java/lang/Object"), (0, u "()V"), (1, .class_ 23), (1, u "jdk/internal/util/ArraysSupport"), (0, u "LOG2_ARRAY_LONG_INDEX_SCALE"), (0, u "I"), (2, u "U"), (0, u "Ljdk/internal/misc/Unsafe;"), (8, u "BIG_ENDIAN"), (0, u "Z"), (8, u "LOG2_BYTE_BIT_SIZE"), (4, u "LOG2_ARRAY_INT_INDEX_SCALE"), (54, u "JLA"), (0, u "Ljdk/internal/access/JavaLangAccess;"), (11, u "LOG2_ARRAY_BOOLEAN_INDEX_SCALE"), (9, u "LOG2_ARRAY_BYTE_INDEX_SCALE"), (5, u "LOG2_ARRAY_CHAR_INDEX_SCALE"), (5, u "LOG2_ARRAY_SHORT_INDEX_SCALE"), (18, u "LOG2_ARRAY_FLOAT_INDEX_SCALE"), (24, u "LOG2_ARRAY_DOUBLE_INDEX_SCALE"), (6, .methodref 195 196), (0, .class_ 197), (0, .nameAndType 198 199), (0, u "java/lang/Math"), (0, u "max"), (0, u "(II)I"), (0, .integer 2147483639), (76, u "T_BOOLEAN"), (2, u "T_CHAR"), (1, u "T_FLOAT"), (1, u "T_DOUBLE"), (1, u "T_BYTE"), (1, u "T_SHORT"), (1, u "T_INT"), (1, u "T_LONG"), (1, u "SOFT_MAX_ARRAY_LENGTH"), (56, u "newLength"), (0, u "(III)I")] 25

def k19m0 : Method := { name := "<init>", desc := "()V", sig := { parameters := [], returnType := none }, accessFlags := 2, code := none }
def k19c1 : Code := { maxStack := 3, maxLocals := 4, code := jdk_48_method_27_code, exceptionTable := #[], attributes := #[] }
def k19m1 : Method := { name := "newLength", desc := "(III)I", sig := { parameters := [.int, .int, .int], returnType := some .int }, accessFlags := 9, code := some k19c1 }
/-- jdk/internal/util/ArraysSupport -/
def k19 : Class := { plain "jdk/internal/util/ArraysSupport" (some 0) with
  accessFlags := 33
  interfaces := #[]
  cf := some (fileOf pool19 21 #[] #[{ accessFlags := 2, nameIndex := 9, descriptorIndex := 19, attributes := #[] }, { accessFlags := 9, nameIndex := 351, descriptorIndex := 352, attributes := #[] }] 33 16 #[] #[{ accessFlags := 24, nameIndex := 28, descriptorIndex := 29, attributes := #[] }, { accessFlags := 26, nameIndex := 38, descriptorIndex := 39, attributes := #[] }, { accessFlags := 25, nameIndex := 121, descriptorIndex := 25, attributes := #[] }, { accessFlags := 25, nameIndex := 131, descriptorIndex := 25, attributes := #[] }, { accessFlags := 25, nameIndex := 137, descriptorIndex := 25, attributes := #[] }, { accessFlags := 25, nameIndex := 143, descriptorIndex := 25, attributes := #[] }, { accessFlags := 25, nameIndex := 53, descriptorIndex := 25, attributes := #[] }, { accessFlags := 25, nameIndex := 24, descriptorIndex := 25, attributes := #[] }, { accessFlags := 25, nameIndex := 162, descriptorIndex := 25, attributes := #[] }, { accessFlags := 25, nameIndex := 187, descriptorIndex := 25, attributes := #[] }, { accessFlags := 26, nameIndex := 48, descriptorIndex := 25, attributes := #[] }, { accessFlags := 25, nameIndex := 277, descriptorIndex := 25, attributes := #[] }, { accessFlags := 25, nameIndex := 280, descriptorIndex := 25, attributes := #[] }, { accessFlags := 25, nameIndex := 282, descriptorIndex := 25, attributes := #[] }, { accessFlags := 25, nameIndex := 284, descriptorIndex := 25, attributes := #[] }, { accessFlags := 25, nameIndex := 286, descriptorIndex := 25, attributes := #[] }, { accessFlags := 25, nameIndex := 288, descriptorIndex := 25, attributes := #[] }, { accessFlags := 25, nameIndex := 290, descriptorIndex := 25, attributes := #[] }, { accessFlags := 25, nameIndex := 292, descriptorIndex := 25, attributes := #[] }, { accessFlags := 26, nameIndex := 108, descriptorIndex := 109, attributes := #[] }, { accessFlags := 25, nameIndex := 294, descriptorIndex := 25, attributes := #[] }])
  fields := #[{ name := "U", type := (.object "jdk/internal/misc/Unsafe"), accessFlags := 24, slot := 0, constantValue := 0 }, { name := "BIG_ENDIAN", type := .boolean, accessFlags := 26, slot := 1, constantValue := 0 }, { name := "LOG2_ARRAY_BOOLEAN_INDEX_SCALE", type := .int, accessFlags := 25, slot := 2, constantValue := 0 }, { name := "LOG2_ARRAY_BYTE_INDEX_SCALE", type := .int, accessFlags := 25, slot := 3, constantValue := 0 }, { name := "LOG2_ARRAY_CHAR_INDEX_SCALE", type := .int, accessFlags := 25, slot := 4, constantValue := 0 }, { name := "LOG2_ARRAY_SHORT_INDEX_SCALE", type := .int, accessFlags := 25, slot := 5, constantValue := 0 }, { name := "LOG2_ARRAY_INT_INDEX_SCALE", type := .int, accessFlags := 25, slot := 6, constantValue := 0 }, { name := "LOG2_ARRAY_LONG_INDEX_SCALE", type := .int, accessFlags := 25, slot := 7, constantValue := 0 }, { name := "LOG2_ARRAY_FLOAT_INDEX_SCALE", type := .int, accessFlags := 25, slot := 8, constantValue := 0 }, { name := "LOG2_ARRAY_DOUBLE_INDEX_SCALE", type := .int, accessFlags := 25, slot := 9, constantValue := 0 }, { name := "LOG2_BYTE_BIT_SIZE", type := .int, accessFlags := 26, slot := 10, constantValue := 0 }, { name := "T_BOOLEAN", type := .int, accessFlags := 25, slot := 11, constantValue := 0 }, { name := "T_CHAR", type := .int, accessFlags := 25, slot := 12, constantValue := 0 }, { name := "T_FLOAT", type := .int, accessFlags := 25, slot := 13, constantValue := 0 }, { name := "T_DOUBLE", type := .int, accessFlags := 25, slot := 14, constantValue := 0 }, { name := "T_BYTE", type := .int, accessFlags := 25, slot := 15, constantValue := 0 }, { name := "T_SHORT", type := .int, accessFlags := 25, slot := 16, constantValue := 0 }, { name := "T_INT", type := .int, accessFlags := 25, slot := 17, constantValue := 0 }, { name := "T_LONG", type := .int, accessFlags := 25, slot := 18, constantValue := 0 }, { name := "JLA", type := (.object "jdk/internal/access/JavaLangAccess"), accessFlags := 26, slot := 19, constantValue := 0 }, { name := "SOFT_MAX_ARRAY_LENGTH", type := .int, accessFlags := 25, slot := 20, constantValue := 0 }]
  methods := #[k19m0, k19m1]
  instanceTypes := #[]
  staticTypes := #[(.object "jdk/internal/misc/Unsafe"), .boolean, .int, .int, .int, .int, .int, .int, .int, .int, .int, .int, .int, .int, .int, .int, .int, .int, .int, (.object "jdk/internal/access/JavaLangAccess"), .int]
  resolved := Array.replicate 378 none
  statics := none }

def pool20 : Array CpInfo := pool [(2, .class_ 4), (1, u "java/lang/Object"), (0, u "<init>"), (0, u "()V"), (7, .class_ 16), (1, u "java/util/Arrays"), (57, .class_ 76), (1, u "java/util/Arrays$NaturalOrder"), (9, .methodref 2 87), (0, .nameAndType 88 89), (0, u "getClass"), (0, u "()Ljava/lang/Class;"), (20, .class_ 111), (0, u "[Ljava/lang/Object;"), (1, .class_ 115), (1, u "java/util/Arrays$LegacyMergeSort"), (1, u "Z"), (32, .methodref 151 152), (0, .class_ 153), (0, .nameAndType 154 155), (0, u "java/lang/System"), (0, u "arraycopy"), (0, u "(Ljava/lang/Object;ILjava/lang/Object;II)V"), (144, .methodref 14 301), (0, .nameAndType 302 303), (0, u "copyOf"), (0, u "([Ljava/lang/Object;ILjava/lang/Class;)[Ljava/lang/Object;"), (0, .methodref 305 306), (0, .class_ 307), (0, .nameAndType 308 309), (0, u "java/lang/Math"), (0, u "min"), (0, u "(II)I"), (65, .class_ 376), (0, u "java/util/Arrays$ArrayList"), (68, u "$assertionsDisabled"), (269, u "MIN_ARRAY_SORT_GRAN"), (0, u "I"), (2, u "INSERTIONSORT_THRESHOLD"), (140, u "([Ljava/lang/Object;I)[Ljava/lang/Object;"), (114, .class_ 976), (0, u "java/util/Arrays$ArrayItr")] 52

def k20m0 : Method := { name := "<init>", desc := "()V", sig := { parameters := [], returnType := none }, accessFlags := 2, code := none }
def k20c1 : Code := { maxStack := 3, maxLocals := 2, code := jdk_65_method_119_code, exceptionTable := #[], attributes := #[] }
def k20m1 : Method := { name := "copyOf", desc := "([Ljava/lang/Object;I)[Ljava/lang/Object;", sig := { parameters := [(.array (.object "java/lang/Object")), .int], returnType := some (.array (.object "java/lang/Object")) }, accessFlags := 9, code := some k20c1 }
def k20c2 : Code := { maxStack := 6, maxLocals := 4, code := jdk_65_method_120_code, exceptionTable := #[], attributes := #[] }
def k20m2 : Method := { name := "copyOf", desc := "([Ljava/lang/Object;ILjava/lang/Class;)[Ljava/lang/Object;", sig := { parameters := [(.array (.object "java/lang/Object")), .int, (.object "java/lang/Class")], returnType := some (.array (.object "java/lang/Object")) }, accessFlags := 9, code := some k20c2 }
/-- java/util/Arrays -/
def k20 : Class := { plain "java/util/Arrays" (some 0) with
  accessFlags := 49
  interfaces := #[]
  cf := some (fileOf pool20 14 #[.nestMembers #[975, 375, 113, 74]] #[{ accessFlags := 2, nameIndex := 5, descriptorIndex := 6, attributes := #[] }, { accessFlags := 9, nameIndex := 302, descriptorIndex := 860, attributes := #[] }, { accessFlags := 9, nameIndex := 302, descriptorIndex := 303, attributes := #[] }] 49 2 #[] #[{ accessFlags := 26, nameIndex := 715, descriptorIndex := 716, attributes := #[] }, { accessFlags := 26, nameIndex := 719, descriptorIndex := 716, attributes := #[] }, { accessFlags := 4120, nameIndex := 445, descriptorIndex := 117, attributes := #[] }])
  fields := #[{ name := "MIN_ARRAY_SORT_GRAN", type := .int, accessFlags := 26, slot := 0, constantValue := 0 }, { name := "INSERTIONSORT_THRESHOLD", type := .int, accessFlags := 26, slot := 1, constantValue := 0 }, { name := "$assertionsDisabled", type := .boolean, accessFlags := 4120, slot := 2, constantValue := 0 }]
  methods := #[k20m0, k20m1, k20m2]
  instanceTypes := #[]
  staticTypes := #[.int, .int, .boolean]
  resolved := Array.replicate 1029 none
  statics := none }

def pool21 : Array CpInfo := pool [(2, .class_ 4), (1, u "java/lang/Object"), (0, u "<init>"), (0, u "()V"), (1, .class_ 10), (1, u "java/lang/System"), (0, u "allowSecurityManager"), (0, u "I"), (16, u "cons"), (0, u "Ljava/io/Console;"), (77, .class_ 110), (1, u "java/lang/System$CallersHolder"), (43, u "initialErrStream"), (0, u "Ljava/io/PrintStream;"), (19, u "security"), (0, u "Ljava/lang/SecurityManager;"), (31, .class_ 209), (0, u "java/lang/System$1"), (7, u "props"), (0, u "Ljava/util/Properties;"), (2, u "lineSeparator"), (0, u "Ljava/lang/String;"), (96, .class_ 321), (1, u "java/lang/System$LoggerFinder"), (5, .class_ 328), (0, u "java/lang/System$Logger"), (67, u "err"), (2, u "out"), (91, u "notSupportedJnuEncoding"), (15, u "in"), (17, u "initialIn"), (0, u "Ljava/io/InputStream;"), (35, u "bootLayer"), (0, u "Ljava/lang/ModuleLayer;"), (99, .class_ 664), (0, u "java/lang/System$2"), (9, u "NEVER"), (2, u "MAYBE"), (49, u "arraycopy"), (0, u "(Ljava/lang/Object;ILjava/lang/Object;II)V"), (72, .class_ 802), (0, u "java/lang/System$Logger$Level")] 31

def k21m0 : Method := { name := "<init>", desc := "()V", sig := { parameters := [], returnType := none }, accessFlags := 2, code := none }
def k21m1 : Method := { name := "arraycopy", desc := "(Ljava/lang/Object;ILjava/lang/Object;II)V", sig := { parameters := [(.object "java/lang/Object"), .int, (.object "java/lang/Object"), .int, .int], returnType := none }, accessFlags := 265, code := none }
/-- java/lang/System -/
def k21 : Class := { plain "java/lang/System" (some 0) with
  accessFlags := 49
  interfaces := #[]
  cf := some (fileOf pool21 8 #[.nestMembers #[319, 327, 801, 108, 663, 208]] #[{ accessFlags := 2, nameIndex := 5, descriptorIndex := 6, attributes := #[] }, { accessFlags := 265, nameIndex := 727, descriptorIndex := 728, attributes := #[] }] 49 2 #[] #[{ accessFlags := 25, nameIndex := 507, descriptorIndex := 526, attributes := #[] }, { accessFlags := 25, nameIndex := 399, descriptorIndex := 155, attributes := #[] }, { accessFlags := 25, nameIndex := 396, descriptorIndex := 155, attributes := #[] }, { accessFlags := 10, nameIndex := 525, descriptorIndex := 526, attributes := #[] }, { accessFlags := 26, nameIndex := 674, descriptorIndex := 12, attributes := #[] }, { accessFlags := 26, nameIndex := 677, descriptorIndex := 12, attributes := #[] }, { accessFlags := 10, nameIndex := 11, descriptorIndex := 12, attributes := #[] }, { accessFlags := 74, nameIndex := 175, descriptorIndex := 176, attributes := #[] }, { accessFlags := 10, nameIndex := 491, descriptorIndex := 222, attributes := #[] }, { accessFlags := 74, nameIndex := 29, descriptorIndex := 30, attributes := #[] }, { accessFlags := 74, nameIndex := 154, descriptorIndex := 155, attributes := #[] }, { accessFlags := 10, nameIndex := 217, descriptorIndex := 218, attributes := #[] }, { accessFlags := 10, nameIndex := 221, descriptorIndex := 222, attributes := #[] }, { accessFlags := 8, nameIndex := 562, descriptorIndex := 563, attributes := #[] }])
  fields := #[{ name := "in", type := (.object "java/io/InputStream"), accessFlags := 25, slot := 0, constantValue := 0 }, { name := "out", type := (.object "java/io/PrintStream"), accessFlags := 25, slot := 1, constantValue := 0 }, { name := "err", type := (.object "java/io/PrintStream"), accessFlags := 25, slot := 2, constantValue := 0 }, { name := "initialIn", type := (.object "java/io/InputStream"), accessFlags := 10, slot := 3, constantValue := 0 }, { name := "NEVER", type := .int, accessFlags := 26, slot := 4, constantValue := 0 }, { name := "MAYBE", type := .int, accessFlags := 26, slot := 5, constantValue := 0 }, { name := "allowSecurityManager", type := .int, accessFlags := 10, slot := 6, constantValue := 0 }, { name := "security", type := (.object "java/lang/SecurityManager"), accessFlags := 74, slot := 7, constantValue := 0 }, { name := "notSupportedJnuEncoding", type := (.object "java/lang/String"), accessFlags := 10, slot := 8, constantValue := 0 }, { name := "cons", type := (.object "java/io/Console"), accessFlags := 74, slot := 9, constantValue := 0 }, { name := "initialErrStream", type := (.object "java/io/PrintStream"), accessFlags := 74, slot := 10, constantValue := 0 }, { name := "props", type := (.object "java/util/Properties"), accessFlags := 10, slot := 11, constantValue := 0 }, { name := "lineSeparator", type := (.object "java/lang/String"), accessFlags := 10, slot := 12, constantValue := 0 }, { name := "bootLayer", type := (.object "java/lang/ModuleLayer"), accessFlags := 8, slot := 13, constantValue := 0 }]
  methods := #[k21m0, k21m1]
  instanceTypes := #[]
  staticTypes := #[(.object "java/io/InputStream"), (.object "java/io/PrintStream"), (.object "java/io/PrintStream"), (.object "java/io/InputStream"), .int, .int, .int, (.object "java/lang/SecurityManager"), (.object "java/lang/String"), (.object "java/io/Console"), (.object "java/io/PrintStream"), (.object "java/util/Properties"), (.object "java/lang/String"), (.object "java/lang/ModuleLayer")]
  resolved := Array.replicate 834 none
  statics := none }

def pool22 : Array CpInfo := pool [(1, u "java/lang/Class"), (0, .class_ 1), (0, u "java/lang/Object"), (0, .class_ 3)] 3

/-- java/lang/Class -/
def k22 : Class := { plain "java/lang/Class" (some 0) with
  accessFlags := 49
  interfaces := #[]
  cf := some (fileOf pool22 2 #[] #[] 49 4 #[] #[])
  fields := #[]
  methods := #[]
  instanceTypes := #[]
  staticTypes := #[]
  resolved := Array.replicate 8 none
  statics := none }

/-- the primitive byte -/
def k23 : Class := { plain "byte" none with kind := .primitive 'B', accessFlags := 0x411 }
/-- [B -/
def k24 : Class := { plain "[B" (some 0) with kind := .array 23 .byte, interfaces := #[9, 10], accessFlags := 1041 }

/-- the primitive int -/
def k25 : Class := { plain "int" none with kind := .primitive 'I', accessFlags := 0x411 }
/-- [I -/
def k26 : Class := { plain "[I" (some 0) with kind := .array 25 .int, interfaces := #[9, 10], accessFlags := 1041 }

/-- [Ljava/lang/Object; -/
def k27 : Class := { plain "[Ljava/lang/Object;" (some 0) with kind := .array 0 (.object "java/lang/Object"), interfaces := #[9, 10], accessFlags := 1041, mirror := some 2 }

def heap : Heap := #[{ cls := 11, slots := #[.long 0, .int 0, .ref 6, .ref 7], vm := .statics 11 },
  { cls := 15, slots := #[.ref 3, .ref 4, .ref 5, .null], vm := .statics 15 },
  { cls := 22, slots := #[], vm := .mirror 27 },
  { cls := 15, slots := #[.null, .int 0, .int 0, .int 1], vm := .none },
  { cls := 15, slots := #[.null, .int 1, .int 0, .int 3], vm := .none },
  { cls := 15, slots := #[.null, .int 2, .int 0, .int 12], vm := .none },
  { cls := 27, slots := #[], vm := .none },
  { cls := 27, slots := #[], vm := .none }]
def classes : Array Class := #[k0, k1, k2, k3, k4, k5, k6, k7, k8, k9, k10, k11, k12, k13, k14, k15, k16, k17, k18, k19, k20, k21, k22, k23, k24, k25, k26, k27]
def interned : List (Array UInt16 × Addr) := []
def slotsUsed : Nat := 20
def theMethod : MethodId := ⟨1, 2⟩
def args0 : Array Value := #[.int 5, .int 7]
def aboutOver (below : List Frame) : State where
  vm := { classes := classes, interned := interned.toArray }
  heap := heap
  slotsUsed := slotsUsed
  threads := #[{ frames := .invoking theMethod args0 :: below }]
def below0 : List Frame := [.native { method := ⟨0, 0⟩, args := #[] }]
def about1 : State := aboutOver below0
def p0 : Program := .bare "" "" ""
def e0 : Env := launch0.env 0 0 0
theorem w_frames : about1.frames = Frame.invoking theMethod args0 :: below0 := rfl
set_option maxRecDepth 65536 in
theorem w_args : argsFit about1.vm theMethod args0 = true := by decide +kernel
set_option maxRecDepth 65536 in
theorem w_heap : heapFits about1 = true := by decide +kernel
set_option maxRecDepth 65536 in
theorem w_runnable : about1.curStatus? = some .runnable := by decide +kernel
set_option maxRecDepth 65536 in
theorem w_alone : about1.alone = true := by decide +kernel
set_option maxRecDepth 65536 in
theorem w_named : about1.methodNamed? x = some theMethod := by decide +kernel
set_option maxRecDepth 65536 in
theorem w_hears : about1.hears theMethod below0 = true := by decide +kernel
set_option maxRecDepth 65536 in
theorem w_ripe : about1.ripe theMethod args0 below0 = true := by decide +kernel
theorem w_running : about1.status = .running := rfl
set_option maxRecDepth 65536 in
theorem w_room : about1.hasRoom e0.platform room_1 = true :=
  launch0.hasRoom_least _ room_1 (by decide +kernel) (by decide +kernel) (by decide +kernel) (by decide +kernel) (by decide +kernel) (by decide +kernel)
theorem allAtoms_all (ts : List Jvm.Cond) (a : Array Jvm.Value) (st : Jvm.State) : (allAtoms ts).before a st = ts.all (fun c => c.before a st) := by
  induction ts with
  | nil => rfl
  | cons c t ih =>
    show (Jvm.Cond.and c (allAtoms t)).before a st = _
    rw [Jvm.Cond.before_and, ih, List.all_cons]
def words1 : List Jvm.Cond := Jvm.Cond.code x code maxLocals ret :: tables_1
/-- a 'code' word, met by the world's own term for the bytes: nothing is compared byte by byte -/
theorem code_word {y : MethodName} {bytes : ByteArray} {mx : Nat} {rt : Option FieldType} {a : Array Value} {s : State} {m : MethodId} {meth : Method} {c : Code} (h1 : s.methodNamed? y = some m) (h2 : s.vm.method? m = some meth) (h3 : meth.code = some c) (h4 : c.code = bytes)
    (h5 : (c.maxLocals == mx && c.exceptionTable.isEmpty && decide (c.maxStack ≤ mostOperands) && decide (meth.sig.returnType = rt) && !meth.locks && decide (parseMethodDescriptor y.desc = some meth.sig)) = true) : (Jvm.Cond.code y bytes mx rt).before a s = true := by
  simp only [Bool.and_eq_true, beq_iff_eq, Bool.not_eq_true', decide_eq_true_eq] at h5
  obtain ⟨⟨⟨⟨⟨g1, g2⟩, g3⟩, g4⟩, g5⟩, g6⟩ := h5
  simp [Cond.before, Cond.holds, Cond.value, h1, h2, h3, h4, g1, g2, g3, g4, g5, g6]
def isCode : Jvm.Cond → Bool
  | .code _ _ _ _ => true
  | _ => false
theorem all_split {L : List Jvm.Cond} {P : Jvm.Cond → Bool} (h1 : L.all (fun c => isCode c || P c) = true) (h2 : ∀ c ∈ L.filter isCode, P c = true) : L.all P = true := by
  refine List.all_eq_true.mpr fun c hc => ?_
  have h := List.all_eq_true.mp h1 c hc
  rcases Bool.eq_false_or_eq_true (isCode c) with hi | hi
  · exact h2 c (List.mem_filter.mpr ⟨hc, hi⟩)
  · simpa [hi] using h
set_option maxRecDepth 65536 in
theorem w_c0 : (Jvm.Cond.code x code maxLocals ret).before args0 about1 = true := code_word (m := ⟨1, 2⟩) (meth := k1m2) (c := k1c2) (by decide +kernel) rfl rfl rfl (by decide +kernel)
set_option maxRecDepth 65536 in
theorem w_c1 : (Jvm.Cond.code ({ cls := "java/util/ArrayList", name := "<init>", desc := "()V" } : Jvm.MethodName) jdk_38_method_2_code (1 : Nat) (Option.none : Option Jvm.ClassFile.FieldType)).before args0 about1 = true := code_word (m := ⟨11, 0⟩) (meth := k11m0) (c := k11c0) (by decide +kernel) rfl rfl rfl (by decide +kernel)
set_option maxRecDepth 65536 in
theorem w_c2 : (Jvm.Cond.code ({ cls := "java/util/AbstractList", name := "<init>", desc := "()V" } : Jvm.MethodName) jdk_39_method_1_code (1 : Nat) (Option.none : Option Jvm.ClassFile.FieldType)).before args0 about1 = true := code_word (m := ⟨7, 0⟩) (meth := k7m0) (c := k7c0) (by decide +kernel) rfl rfl rfl (by decide +kernel)
set_option maxRecDepth 65536 in
theorem w_c3 : (Jvm.Cond.code ({ cls := "java/util/AbstractCollection", name := "<init>", desc := "()V" } : Jvm.MethodName) jdk_22_method_1_code (1 : Nat) (Option.none : Option Jvm.ClassFile.FieldType)).before args0 about1 = true := code_word (m := ⟨4, 0⟩) (meth := k4m0) (c := k4c0) (by decide +kernel) rfl rfl rfl (by decide +kernel)
set_option maxRecDepth 65536 in
theorem w_c4 : (Jvm.Cond.code ({ cls := "java/lang/Object", name := "<init>", desc := "()V" } : Jvm.MethodName) object_method_1_code (1 : Nat) (Option.none : Option Jvm.ClassFile.FieldType)).before args0 about1 = true := code_word (m := ⟨0, 0⟩) (meth := k0m0) (c := k0c0) (by decide +kernel) rfl rfl rfl (by decide +kernel)
set_option maxRecDepth 65536 in
theorem w_c5 : (Jvm.Cond.code ({ cls := "com/example/kalends/kalends/LengthRequireMadeUpOfPinLaw", name := "addBlock", desc := "(Ljava/util/List;Z)I" } : Jvm.MethodName) method_2_code (2 : Nat) (Option.some Jvm.ClassFile.FieldType.int)).before args0 about1 = true := code_word (m := ⟨1, 1⟩) (meth := k1m1) (c := k1c1) (by decide +kernel) rfl rfl rfl (by decide +kernel)
set_option maxRecDepth 65536 in
theorem w_c6 : (Jvm.Cond.code ({ cls := "java/util/ArrayList", name := "add", desc := "(Ljava/lang/Object;)Z" } : Jvm.MethodName) jdk_38_method_25_code (2 : Nat) (Option.some Jvm.ClassFile.FieldType.boolean)).before args0 about1 = true := code_word (m := ⟨11, 7⟩) (meth := k11m7) (c := k11c7) (by decide +kernel) rfl rfl rfl (by decide +kernel)
set_option maxRecDepth 65536 in
theorem w_c7 : (Jvm.Cond.code ({ cls := "java/util/ArrayList", name := "add", desc := "(Ljava/lang/Object;[Ljava/lang/Object;I)V" } : Jvm.MethodName) jdk_38_method_24_code (4 : Nat) (Option.none : Option Jvm.ClassFile.FieldType)).before args0 about1 = true := code_word (m := ⟨11, 6⟩) (meth := k11m6) (c := k11c6) (by decide +kernel) rfl rfl rfl (by decide +kernel)
set_option maxRecDepth 65536 in
theorem w_c8 : (Jvm.Cond.code ({ cls := "java/util/ArrayList", name := "grow", desc := "()[Ljava/lang/Object;" } : Jvm.MethodName) jdk_38_method_7_code (1 : Nat) (Option.some (Jvm.ClassFile.FieldType.array (Jvm.ClassFile.FieldType.object "java/lang/Object")))).before args0 about1 = true := code_word (m := ⟨11, 2⟩) (meth := k11m2) (c := k11c2) (by decide +kernel) rfl rfl rfl (by decide +kernel)
set_option maxRecDepth 65536 in
theorem w_c9 : (Jvm.Cond.code ({ cls := "java/util/ArrayList", name := "grow", desc := "(I)[Ljava/lang/Object;" } : Jvm.MethodName) jdk_38_method_6_code (4 : Nat) (Option.some (Jvm.ClassFile.FieldType.array (Jvm.ClassFile.FieldType.object "java/lang/Object")))).before args0 about1 = true := code_word (m := ⟨11, 1⟩) (meth := k11m1) (c := k11c1) (by decide +kernel) rfl rfl rfl (by decide +kernel)
set_option maxRecDepth 65536 in
theorem w_c10 : (Jvm.Cond.code ({ cls := "java/lang/Math", name := "max", desc := "(II)I" } : Jvm.MethodName) jdk_29_method_65_code (2 : Nat) (Option.some Jvm.ClassFile.FieldType.int)).before args0 about1 = true := code_word (m := ⟨16, 1⟩) (meth := k16m1) (c := k16c1) (by decide +kernel) rfl rfl rfl (by decide +kernel)
set_option maxRecDepth 65536 in
theorem w_c11 : (Jvm.Cond.code ({ cls := "com/example/kalends/kalends/ContractPeriod$Length", name := "requireMadeUpOf", desc := "(Ljava/util/List;)V" } : Jvm.MethodName) prog_9_method_5_code (5 : Nat) (Option.none : Option Jvm.ClassFile.FieldType)).before args0 about1 = true := code_word (m := ⟨15, 0⟩) (meth := k15m0) (c := k15c0) (by decide +kernel) rfl rfl rfl (by decide +kernel)
set_option maxRecDepth 65536 in
theorem w_c12 : (Jvm.Cond.code ({ cls := "java/util/ArrayList", name := "size", desc := "()I" } : Jvm.MethodName) jdk_38_method_8_code (1 : Nat) (Option.some Jvm.ClassFile.FieldType.int)).before args0 about1 = true := code_word (m := ⟨11, 3⟩) (meth := k11m3) (c := k11c3) (by decide +kernel) rfl rfl rfl (by decide +kernel)
set_option maxRecDepth 65536 in
theorem w_c13 : (Jvm.Cond.code ({ cls := "java/util/ArrayList", name := "get", desc := "(I)Ljava/lang/Object;" } : Jvm.MethodName) jdk_38_method_20_code (2 : Nat) (Option.some (Jvm.ClassFile.FieldType.object "java/lang/Object"))).before args0 about1 = true := code_word (m := ⟨11, 5⟩) (meth := k11m5) (c := k11c5) (by decide +kernel) rfl rfl rfl (by decide +kernel)
set_option maxRecDepth 65536 in
theorem w_c14 : (Jvm.Cond.code ({ cls := "java/util/Objects", name := "checkIndex", desc := "(II)I" } : Jvm.MethodName) jdk_31_method_17_code (2 : Nat) (Option.some Jvm.ClassFile.FieldType.int)).before args0 about1 = true := code_word (m := ⟨17, 1⟩) (meth := k17m1) (c := k17c1) (by decide +kernel) rfl rfl rfl (by decide +kernel)
set_option maxRecDepth 65536 in
theorem w_c15 : (Jvm.Cond.code ({ cls := "jdk/internal/util/Preconditions", name := "checkIndex", desc := "(IILjava/util/function/BiFunction;)I" } : Jvm.MethodName) jdk_41_method_11_code (3 : Nat) (Option.some Jvm.ClassFile.FieldType.int)).before args0 about1 = true := code_word (m := ⟨18, 1⟩) (meth := k18m1) (c := k18c1) (by decide +kernel) rfl rfl rfl (by decide +kernel)
set_option maxRecDepth 65536 in
theorem w_c16 : (Jvm.Cond.code ({ cls := "java/util/ArrayList", name := "elementData", desc := "(I)Ljava/lang/Object;" } : Jvm.MethodName) jdk_38_method_18_code (2 : Nat) (Option.some (Jvm.ClassFile.FieldType.object "java/lang/Object"))).before args0 about1 = true := code_word (m := ⟨11, 4⟩) (meth := k11m4) (c := k11c4) (by decide +kernel) rfl rfl rfl (by decide +kernel)
set_option maxRecDepth 65536 in
theorem w_c17 : (Jvm.Cond.code ({ cls := "jdk/internal/util/ArraysSupport", name := "newLength", desc := "(III)I" } : Jvm.MethodName) jdk_48_method_27_code (4 : Nat) (Option.some Jvm.ClassFile.FieldType.int)).before args0 about1 = true := code_word (m := ⟨19, 1⟩) (meth := k19m1) (c := k19c1) (by decide +kernel) rfl rfl rfl (by decide +kernel)
set_option maxRecDepth 65536 in
theorem w_c18 : (Jvm.Cond.code ({ cls := "java/util/Arrays", name := "copyOf", desc := "([Ljava/lang/Object;I)[Ljava/lang/Object;" } : Jvm.MethodName) jdk_65_method_119_code (2 : Nat) (Option.some (Jvm.ClassFile.FieldType.array (Jvm.ClassFile.FieldType.object "java/lang/Object")))).before args0 about1 = true := code_word (m := ⟨20, 1⟩) (meth := k20m1) (c := k20c1) (by decide +kernel) rfl rfl rfl (by decide +kernel)
set_option maxRecDepth 65536 in
theorem w_c19 : (Jvm.Cond.code ({ cls := "java/util/Arrays", name := "copyOf", desc := "([Ljava/lang/Object;ILjava/lang/Class;)[Ljava/lang/Object;" } : Jvm.MethodName) jdk_65_method_120_code (4 : Nat) (Option.some (Jvm.ClassFile.FieldType.array (Jvm.ClassFile.FieldType.object "java/lang/Object")))).before args0 about1 = true := code_word (m := ⟨20, 2⟩) (meth := k20m2) (c := k20c2) (by decide +kernel) rfl rfl rfl (by decide +kernel)
set_option maxRecDepth 65536 in
theorem w_c20 : (Jvm.Cond.code ({ cls := "java/lang/Math", name := "min", desc := "(II)I" } : Jvm.MethodName) jdk_29_method_69_code (2 : Nat) (Option.some Jvm.ClassFile.FieldType.int)).before args0 about1 = true := code_word (m := ⟨16, 2⟩) (meth := k16m2) (c := k16c2) (by decide +kernel) rfl rfl rfl (by decide +kernel)
def codes1 : List Jvm.Cond := [Jvm.Cond.code x code maxLocals ret, Jvm.Cond.code ({ cls := "java/util/ArrayList", name := "<init>", desc := "()V" } : Jvm.MethodName) jdk_38_method_2_code (1 : Nat) (Option.none : Option Jvm.ClassFile.FieldType), Jvm.Cond.code ({ cls := "java/util/AbstractList", name := "<init>", desc := "()V" } : Jvm.MethodName) jdk_39_method_1_code (1 : Nat) (Option.none : Option Jvm.ClassFile.FieldType), Jvm.Cond.code ({ cls := "java/util/AbstractCollection", name := "<init>", desc := "()V" } : Jvm.MethodName) jdk_22_method_1_code (1 : Nat) (Option.none : Option Jvm.ClassFile.FieldType), Jvm.Cond.code ({ cls := "java/lang/Object", name := "<init>", desc := "()V" } : Jvm.MethodName) object_method_1_code (1 : Nat) (Option.none : Option Jvm.ClassFile.FieldType), Jvm.Cond.code ({ cls := "com/example/kalends/kalends/LengthRequireMadeUpOfPinLaw", name := "addBlock", desc := "(Ljava/util/List;Z)I" } : Jvm.MethodName) method_2_code (2 : Nat) (Option.some Jvm.ClassFile.FieldType.int), Jvm.Cond.code ({ cls := "java/util/ArrayList", name := "add", desc := "(Ljava/lang/Object;)Z" } : Jvm.MethodName) jdk_38_method_25_code (2 : Nat) (Option.some Jvm.ClassFile.FieldType.boolean), Jvm.Cond.code ({ cls := "java/util/ArrayList", name := "add", desc := "(Ljava/lang/Object;[Ljava/lang/Object;I)V" } : Jvm.MethodName) jdk_38_method_24_code (4 : Nat) (Option.none : Option Jvm.ClassFile.FieldType), Jvm.Cond.code ({ cls := "java/util/ArrayList", name := "grow", desc := "()[Ljava/lang/Object;" } : Jvm.MethodName) jdk_38_method_7_code (1 : Nat) (Option.some (Jvm.ClassFile.FieldType.array (Jvm.ClassFile.FieldType.object "java/lang/Object"))), Jvm.Cond.code ({ cls := "java/util/ArrayList", name := "grow", desc := "(I)[Ljava/lang/Object;" } : Jvm.MethodName) jdk_38_method_6_code (4 : Nat) (Option.some (Jvm.ClassFile.FieldType.array (Jvm.ClassFile.FieldType.object "java/lang/Object"))), Jvm.Cond.code ({ cls := "java/lang/Math", name := "max", desc := "(II)I" } : Jvm.MethodName) jdk_29_method_65_code (2 : Nat) (Option.some Jvm.ClassFile.FieldType.int), Jvm.Cond.code ({ cls := "com/example/kalends/kalends/ContractPeriod$Length", name := "requireMadeUpOf", desc := "(Ljava/util/List;)V" } : Jvm.MethodName) prog_9_method_5_code (5 : Nat) (Option.none : Option Jvm.ClassFile.FieldType), Jvm.Cond.code ({ cls := "java/util/ArrayList", name := "size", desc := "()I" } : Jvm.MethodName) jdk_38_method_8_code (1 : Nat) (Option.some Jvm.ClassFile.FieldType.int), Jvm.Cond.code ({ cls := "java/util/ArrayList", name := "get", desc := "(I)Ljava/lang/Object;" } : Jvm.MethodName) jdk_38_method_20_code (2 : Nat) (Option.some (Jvm.ClassFile.FieldType.object "java/lang/Object")), Jvm.Cond.code ({ cls := "java/util/Objects", name := "checkIndex", desc := "(II)I" } : Jvm.MethodName) jdk_31_method_17_code (2 : Nat) (Option.some Jvm.ClassFile.FieldType.int), Jvm.Cond.code ({ cls := "jdk/internal/util/Preconditions", name := "checkIndex", desc := "(IILjava/util/function/BiFunction;)I" } : Jvm.MethodName) jdk_41_method_11_code (3 : Nat) (Option.some Jvm.ClassFile.FieldType.int), Jvm.Cond.code ({ cls := "java/util/ArrayList", name := "elementData", desc := "(I)Ljava/lang/Object;" } : Jvm.MethodName) jdk_38_method_18_code (2 : Nat) (Option.some (Jvm.ClassFile.FieldType.object "java/lang/Object")), Jvm.Cond.code ({ cls := "jdk/internal/util/ArraysSupport", name := "newLength", desc := "(III)I" } : Jvm.MethodName) jdk_48_method_27_code (4 : Nat) (Option.some Jvm.ClassFile.FieldType.int), Jvm.Cond.code ({ cls := "java/util/Arrays", name := "copyOf", desc := "([Ljava/lang/Object;I)[Ljava/lang/Object;" } : Jvm.MethodName) jdk_65_method_119_code (2 : Nat) (Option.some (Jvm.ClassFile.FieldType.array (Jvm.ClassFile.FieldType.object "java/lang/Object"))), Jvm.Cond.code ({ cls := "java/util/Arrays", name := "copyOf", desc := "([Ljava/lang/Object;ILjava/lang/Class;)[Ljava/lang/Object;" } : Jvm.MethodName) jdk_65_method_120_code (4 : Nat) (Option.some (Jvm.ClassFile.FieldType.array (Jvm.ClassFile.FieldType.object "java/lang/Object"))), Jvm.Cond.code ({ cls := "java/lang/Math", name := "min", desc := "(II)I" } : Jvm.MethodName) jdk_29_method_69_code (2 : Nat) (Option.some Jvm.ClassFile.FieldType.int)]
set_option maxRecDepth 65536 in
theorem codes_eq : words1.filter isCode = codes1 := rfl
theorem w_codes : ∀ c ∈ words1.filter isCode, c.before args0 about1 = true := by
  rw [codes_eq]
  intro c hc
  simp only [codes1, List.mem_cons, List.not_mem_nil, or_false] at hc
  rcases hc with rfl | rfl | rfl | rfl | rfl | rfl | rfl | rfl | rfl | rfl | rfl | rfl | rfl | rfl | rfl | rfl | rfl | rfl | rfl | rfl | rfl
  · exact w_c0
  · exact w_c1
  · exact w_c2
  · exact w_c3
  · exact w_c4
  · exact w_c5
  · exact w_c6
  · exact w_c7
  · exact w_c8
  · exact w_c9
  · exact w_c10
  · exact w_c11
  · exact w_c12
  · exact w_c13
  · exact w_c14
  · exact w_c15
  · exact w_c16
  · exact w_c17
  · exact w_c18
  · exact w_c19
  · exact w_c20
set_option maxRecDepth 65536 in
theorem w_t1 : (words1.take 24).all (fun c => isCode c || c.before args0 about1) = true := by decide +kernel
set_option maxRecDepth 65536 in
theorem w_t2 : ((words1.drop 24).take 24).all (fun c => isCode c || c.before args0 about1) = true := by decide +kernel
set_option maxRecDepth 65536 in
theorem w_t3 : (((words1.drop 24).drop 24).take 24).all (fun c => isCode c || c.before args0 about1) = true := by decide +kernel
set_option maxRecDepth 65536 in
theorem w_t4 : ((((words1.drop 24).drop 24).drop 24).take 24).all (fun c => isCode c || c.before args0 about1) = true := by decide +kernel
set_option maxRecDepth 65536 in
theorem w_t5 : (((((words1.drop 24).drop 24).drop 24).drop 24).take 24).all (fun c => isCode c || c.before args0 about1) = true := by decide +kernel
set_option maxRecDepth 65536 in
theorem w_t6 : (((((words1.drop 24).drop 24).drop 24).drop 24).drop 24).all (fun c => isCode c || c.before args0 about1) = true := by decide +kernel
theorem w_tables : (allAtoms (Jvm.Cond.code x code maxLocals ret :: tables_1)).before args0 about1 = true := by
  rw [allAtoms_all]
  show words1.all (fun c => c.before args0 about1) = true
  refine all_split ?_ w_codes
  rw [← List.take_append_drop 24 words1, List.all_append, w_t1, ← List.take_append_drop 24 (words1.drop 24), List.all_append, w_t2, ← List.take_append_drop 24 ((words1.drop 24).drop 24), List.all_append, w_t3, ← List.take_append_drop 24 (((words1.drop 24).drop 24).drop 24), List.all_append, w_t4, ← List.take_append_drop 24 ((((words1.drop 24).drop 24).drop 24).drop 24), List.all_append, w_t5, w_t6]
  rfl
set_option maxRecDepth 65536 in
theorem w_rest : rest_1_c.before args0 about1 = true := by decide +kernel
set_option maxRecDepth 65536 in
theorem w_case : (Jvm.Cond.and given_1 narrow_1).before args0 about1 = true := by decide +kernel
theorem w_applies : (headSpec (Jvm.Cond.code x code maxLocals ret :: tables_1) room_1).applies x e0.platform about1 = true :=
  (Spec.applies_iff w_frames).mpr ⟨w_running, w_runnable, w_alone, w_named, w_hears, w_ripe, w_room, w_tables⟩
theorem atStart : AtStart classFile x code maxLocals ret World_1 tables_1 room_1 Calls_1 rest_1 Pre_1 launch0 p0 e0 about1 theMethod args0 below0 :=
  ⟨lists_1, trivial, launch0.admits_env _ _ _, launch0.least_env, fairChoices_fair.cas, fairChoices_fair.clock, w_frames, w_args, w_heap, w_applies, ⟨⟨27, k27, 2, by decide +kernel, rfl, rfl, _, rfl, rfl⟩, trivial⟩, w_rest, w_case⟩
end start1
theorem witness_1 : WitnessClaimed_1 := ⟨start1.p0, start1.e0, start1.about1, start1.theMethod, start1.args0, start1.below0, start1.atStart⟩
end Jvm.Pilot.@@N@@
