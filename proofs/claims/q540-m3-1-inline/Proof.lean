import JvmDerived
import JvmDerived.Pilot.@@N@@Statement
import JvmDerived.Pilot.@@N@@Code
set_option linter.unusedVariables false
set_option linter.unusedSimpArgs false
set_option maxRecDepth 65536
set_option maxHeartbeats 40000000
namespace Jvm.Pilot.@@N@@
open Jvm Jvm.ClassFile Sem Op Lib Jvm.Free Jvm.Stand Jvm.LawKit Jvm.RoadKit Bundle Jvm.Pilot.@@N@@.Jvm.D
/-! from A on the run returns, and F holds of the end -/
def own_Goes (p : Program) (e : Env) (below : List Frame) (F : State → Outcome → Prop) (A : State) : Prop := ∃ s₂ o, Steps p.tables e below A s₂ ∧ s₂.status = .running ∧ Ended s₂ below o ∧ F s₂ o
/-- the narrow end: Q of what it returned, of the heap and of the places written; the frame -/
def own_FN (s : State) (Q : Option Value → Heap → List Loc → Prop) (k n : Nat) : State → Outcome → Prop := fun s₂ o => ∃ v L, o = .returned v ∧ Q v s₂.heap L ∧ FrameEnd s o s₂ L k n
section OwnGoes
variable {p : Program} {l : Launch} {e : Env} {R : Room} {s : State} {m : MethodId} {args : Array Value} {below : List Frame} {meth : Method} {c : Code} {T : State} {locs : List Loc} {cells slots : Nat} {Q : Option Value → Heap → List Loc → Prop} {k n : Nat} {F : State → Outcome → Prop}
theorem own_to {A B : State} (h : ∀ t, Steps p.tables e below B t → Steps p.tables e below A t) (g : own_Goes p e below F B) : own_Goes p e below F A := by
  obtain ⟨s₂, o, h1, r⟩ := g
  exact ⟨s₂, o, h _ h1, r⟩
theorem own_tr {A B : State} (h : Steps p.tables e below A B) (g : own_Goes p e below F B) : own_Goes p e below F A := own_to (fun t q => h.trans q) g
/-! the shapes of a step: what lies on the stack and in the locals behind it -/
theorem own_tp {T' : State} {pc : Nat} {L : Array Slot} {S : List Value} (w : Value) (pc' : Nat) (h : ∀ t, Steps p.tables e below (T'.setTop (mkF m pc' L (w :: S))) t → Steps p.tables e below (T.setTop (mkF m pc L S)) t) (g : own_Goes p e below F (T'.setTop (mkF m pc' L (w :: S)))) : own_Goes p e below F (T.setTop (mkF m pc L S)) := own_to h g
theorem own_t1 {T' : State} {pc : Nat} {L : Array Slot} {S : List Value} {x : Value} (w : Value) (pc' : Nat) (h : ∀ t, Steps p.tables e below (T'.setTop (mkF m pc' L (w :: S))) t → Steps p.tables e below (T.setTop (mkF m pc L (x :: S))) t) (g : own_Goes p e below F (T'.setTop (mkF m pc' L (w :: S)))) : own_Goes p e below F (T.setTop (mkF m pc L (x :: S))) := own_to h g
theorem own_t2 {T' : State} {pc : Nat} {L : Array Slot} {S : List Value} {x y : Value} (w : Value) (pc' : Nat) (h : ∀ t, Steps p.tables e below (T'.setTop (mkF m pc' L (w :: S))) t → Steps p.tables e below (T.setTop (mkF m pc L (x :: y :: S))) t) (g : own_Goes p e below F (T'.setTop (mkF m pc' L (w :: S)))) : own_Goes p e below F (T.setTop (mkF m pc L (x :: y :: S))) := own_to h g
theorem own_d0 {T' : State} {pc : Nat} {L : Array Slot} {S : List Value} (pc' : Nat) (h : ∀ t, Steps p.tables e below (T'.setTop (mkF m pc' L S)) t → Steps p.tables e below (T.setTop (mkF m pc L S)) t) (g : own_Goes p e below F (T'.setTop (mkF m pc' L S))) : own_Goes p e below F (T.setTop (mkF m pc L S)) := own_to h g
theorem own_d1 {T' : State} {pc : Nat} {L : Array Slot} {S : List Value} {x : Value} (pc' : Nat) (h : ∀ t, Steps p.tables e below (T'.setTop (mkF m pc' L S)) t → Steps p.tables e below (T.setTop (mkF m pc L (x :: S))) t) (g : own_Goes p e below F (T'.setTop (mkF m pc' L S))) : own_Goes p e below F (T.setTop (mkF m pc L (x :: S))) := own_to h g
theorem own_d2 {T' : State} {pc : Nat} {L : Array Slot} {S : List Value} {x y : Value} (pc' : Nat) (h : ∀ t, Steps p.tables e below (T'.setTop (mkF m pc' L S)) t → Steps p.tables e below (T.setTop (mkF m pc L (x :: y :: S))) t) (g : own_Goes p e below F (T'.setTop (mkF m pc' L S))) : own_Goes p e below F (T.setTop (mkF m pc L (x :: y :: S))) := own_to h g
theorem own_cs {T' : State} {pc : Nat} {L : Array Slot} {S : List Value} (S' : List Value) (pc' : Nat) (h : ∀ t, Steps p.tables e below (T'.setTop (mkF m pc' L S')) t → Steps p.tables e below (T.setTop (mkF m pc L S)) t) (g : own_Goes p e below F (T'.setTop (mkF m pc' L S'))) : own_Goes p e below F (T.setTop (mkF m pc L S)) := own_to h g
theorem own_csR {T' : State} {pc : Nat} {L : Array Slot} {S : List Value} (S' : List Value) (pc' : Nat) (h : Steps p.tables e below (T.setTop (mkF m pc L S)) (T'.setTop (mkF m pc' L S'))) (g : own_Goes p e below F (T'.setTop (mkF m pc' L S'))) : own_Goes p e below F (T.setTop (mkF m pc L S)) := own_tr h g
theorem own_ls {T' : State} {pc : Nat} {L : Array Slot} {S : List Value} {x : Value} (L' : Array Slot) (pc' : Nat) (h : ∀ t, Steps p.tables e below (T'.setTop (mkF m pc' L' S)) t → Steps p.tables e below (T.setTop (mkF m pc L (x :: S))) t) (g : own_Goes p e below F (T'.setTop (mkF m pc' L' S))) : own_Goes p e below F (T.setTop (mkF m pc L (x :: S))) := own_to h g
theorem own_li {T' : State} {pc : Nat} {L : Array Slot} {S : List Value} (L' : Array Slot) (pc' : Nat) (h : ∀ t, Steps p.tables e below (T'.setTop (mkF m pc' L' S)) t → Steps p.tables e below (T.setTop (mkF m pc L S)) t) (g : own_Goes p e below F (T'.setTop (mkF m pc' L' S))) : own_Goes p e below F (T.setTop (mkF m pc L S)) := own_to h g
theorem own_start {A B : State} (h : ∀ t, Steps p.tables e below B t → Steps p.tables e below A t) (g : own_Goes p e below (own_FN s Q k n) B) :
    ∃ s₂ o, Steps p.tables e below A s₂ ∧ s₂.status = .running ∧ Ended s₂ below o ∧ ∃ v L, o = .returned v ∧ Q v s₂.heap L ∧ FrameEnd s o s₂ L k n := own_to h g
theorem own_retN (X : Stand p l e R s m args below meth c T locs cells slots) (hx : p.tables.exec = Jvm.exec) {pc : Nat} {Ls : Array Slot} {z : Int32} {t : FieldType} {rest : List Value} (hret : meth.sig.returnType = some t)
    (hd : decode c.code pc = .ok (.ireturn, 1)) (ht : t = .boolean ∨ t = .byte ∨ t = .char ∨ t = .short) (hlk : meth.locks = false) (hk : cells ≤ k) (hn : slots ≤ n) {h : Heap} (eT : T.heap = h) (hQ : Q (some (.int (nar t z))) h locs) :
    own_Goes p e below (own_FN s Q k n) (T.setTop (mkF m pc Ls (.int z :: rest))) := by
  obtain ⟨fs, hr, hrun, hended, hW, hsame⟩ := X.leave (v := some (.int (nar t z))) (fun q => by rw [hret] at q; cases q) hlk
  subst eT
  exact ⟨_, _, retN X hx hret ht hd hr, hrun, hended, _, _, rfl, hQ, ⟨_, rfl⟩, hW, hsame.mono hk hn⟩
theorem own_retI (X : Stand p l e R s m args below meth c T locs cells slots) (hx : p.tables.exec = Jvm.exec) {pc : Nat} {Ls : Array Slot} {z : Int32} {rest : List Value} (hret : meth.sig.returnType = some .int)
    (hd : decode c.code pc = .ok (.ireturn, 1)) (hlk : meth.locks = false) (hk : cells ≤ k) (hn : slots ≤ n) {h : Heap} (eT : T.heap = h) (hQ : Q (some (.int z)) h locs) :
    own_Goes p e below (own_FN s Q k n) (T.setTop (mkF m pc Ls (.int z :: rest))) := by
  obtain ⟨fs, hr, hrun, hended, hW, hsame⟩ := X.leave (v := some (.int z)) (fun q => by rw [hret] at q; cases q) hlk
  subst eT
  exact ⟨_, _, retOut X hx hret rfl (Or.inl ⟨rfl, Or.inl rfl, z, rfl⟩) hd hr, hrun, hended, _, _, rfl, hQ, ⟨_, rfl⟩, hW, hsame.mono hk hn⟩
theorem own_retJ (X : Stand p l e R s m args below meth c T locs cells slots) (hx : p.tables.exec = Jvm.exec) {pc : Nat} {Ls : Array Slot} {z : Int64} {rest : List Value} (hret : meth.sig.returnType = some .long)
    (hd : decode c.code pc = .ok (.lreturn, 1)) (hlk : meth.locks = false) (hk : cells ≤ k) (hn : slots ≤ n) {h : Heap} (eT : T.heap = h) (hQ : Q (some (.long z)) h locs) :
    own_Goes p e below (own_FN s Q k n) (T.setTop (mkF m pc Ls (.long z :: rest))) := by
  obtain ⟨fs, hr, hrun, hended, hW, hsame⟩ := X.leave (v := some (.long z)) (fun q => by rw [hret] at q; cases q) hlk
  subst eT
  exact ⟨_, _, retOut X hx hret rfl (Or.inr (Or.inl ⟨rfl, rfl, z, rfl⟩)) hd hr, hrun, hended, _, _, rfl, hQ, ⟨_, rfl⟩, hW, hsame.mono hk hn⟩
theorem own_nref {t : FieldType} {w : Value} (ht : t.isReference = true) : narrow t w = w := by cases t <;> first | rfl | (exact Bool.noConfusion ht)
theorem own_fits {t : FieldType} {w : Value} (ht : t.isReference = true) (hw : w.isRef = true) : fits t w = true := by
  cases t <;> first | (exact Bool.noConfusion ht) | (cases w <;> first | rfl | (exact Bool.noConfusion hw))
theorem own_retR (X : Stand p l e R s m args below meth c T locs cells slots) (hx : p.tables.exec = Jvm.exec) {pc : Nat} {Ls : Array Slot} {w : Value} {t : FieldType} {rest : List Value} (hret : meth.sig.returnType = some t)
    (hd : decode c.code pc = .ok (.areturn, 1)) (ht : t.isReference = true) (hw : w.isRef = true) (hlk : meth.locks = false) (hk : cells ≤ k) (hn : slots ≤ n) {h : Heap} (eT : T.heap = h) (hQ : Q (some w) h locs) :
    own_Goes p e below (own_FN s Q k n) (T.setTop (mkF m pc Ls (w :: rest))) := by
  obtain ⟨fs, hr, hrun, hended, hW, hsame⟩ := X.leave (v := some w) (fun q => by rw [hret] at q; cases q) hlk
  subst eT
  exact ⟨_, _, retOut X hx hret (own_nref ht) (Or.inr (Or.inr (Or.inr (Or.inr ⟨rfl, ht, hw⟩)))) hd hr, hrun, hended, _, _, rfl, hQ, ⟨_, rfl⟩, hW, hsame.mono hk hn⟩
theorem own_retV (X : Stand p l e R s m args below meth c T locs cells slots) (hx : p.tables.exec = Jvm.exec) {pc : Nat} {Ls : Array Slot} (hret : meth.sig.returnType = none)
    (hd : decode c.code pc = .ok (.return_, 1)) (hlk : meth.locks = false) (hk : cells ≤ k) (hn : slots ≤ n) {h : Heap} (eT : T.heap = h) (hQ : Q none h locs) :
    own_Goes p e below (own_FN s Q k n) (T.setTop (mkF m pc Ls [])) := by
  obtain ⟨fs, hr, hrun, hended, hW, hsame⟩ := X.leave (v := none) (fun _ => rfl) hlk
  subst eT
  exact ⟨_, _, X.returnOut hx hret hd hr, hrun, hended, _, _, rfl, hQ, ⟨_, rfl⟩, hW, hsame.mono hk hn⟩
end OwnGoes

/-- a body's contract, in lawnew's form -/
abbrev own_Met (l : Launch) (y : MethodName) (bytes : ByteArray) (ml : Nat) (rt : Option FieldType) (ws : List Jvm.Cond) (rm : Room) (Z : State) (as' : Array Value) (h0 : Heap) (Q : Option Value → Heap → List Loc → Prop) : Prop :=
  MetFree l y (head1 (Jvm.Cond.code y bytes ml rt :: ws) rm) (fun a U => a = as' ∧ Z.Warmed39 U.vm ∧ U.heap = h0) (fun _ _ _ _ _ => True) (fun _ U o U' => ∃ v L, o = .returned v ∧ Q v U'.heap L ∧ FrameEnd U o U' L rm.cells rm.slots)
theorem own_enter {l : Launch} {y : MethodName} {bytes : ByteArray} {ml : Nat} {rt : Option FieldType} {ws : List Jvm.Cond} {rm : Room} {Z : State} {as' : Array Value} {h0 : Heap} {Q : Option Value → Heap → List Loc → Prop} (L0 : Array Slot) (hp : plainFor y = true) (ef : ∀ m, entryFrame m as' ml = mkF m 0 L0 [])
    (go : ∀ (p : Program) (e : Env) (s : State) (m : MethodId) (below : List Frame) (meth : Method) (c : Code) (s₁ : State), p.tables.exec = Jvm.exec → c.code = bytes → c.maxLocals = ml → s.vm.findClass y.cls = some m.cls → meth.name = y.name → Z.Warmed39 s.vm → meth.sig.returnType = rt → meth.locks = false → Stand p l e rm s m as' below meth c s₁ [] 0 0 → s₁.heap = h0 → own_Goes p e below (own_FN s Q rm.cells rm.slots) (s₁.setTop (mkF m 0 L0 []))) :
    own_Met l y bytes ml rt ws rm Z as' h0 Q := by
  refine MetFree.of_bodySF hp hisR ?_
  intro p e s m args below meth c s₁ Bd hml0 hP hK
  obtain ⟨rfl, hZ, hh⟩ := hP
  have g := go p e s m below meth c s₁ Bd.exec Bd.bytes hml0 (findClass_of_methodNamed Bd.named) (name_of_methodNamed Bd.named Bd.method).1 hZ Bd.returns Bd.notSynchronized (Stand.of_body Bd) (by rw [← hh, Bd.state]; rfl)
  exact own_start (fun t k => castTop (ef m) k) g

theorem own_cat1 {x : Value} (h : x.isRef = true) : x.category = 1 := by cases x <;> first | rfl | exact Bool.noConfusion h
theorem own_catI (z : Int32) : (Value.int z).category = 1 := rfl
theorem own_catJ (z : Int64) : (Value.long z).category = 2 := rfl
theorem own_catR (z : Addr) : (Value.ref z).category = 1 := rfl
abbrev own_HW (a0 : Array Value) (Z : State) : Prop := ∀ d ∈ tables_1, d.before a0 Z = true
abbrev own_SF (Z : State) (G3 : Value) : Prop := Sta Z Z.heap "jdk/internal/util/Preconditions" "SIOOBE_FORMATTER" "Ljava/util/function/BiFunction;" G3
abbrev own_M0 : MethodName := ⟨"java/lang/StringUTF16", "getChar", "([BI)C"⟩
abbrev own_M1 : MethodName := ⟨"java/lang/Math", "max", "(II)I"⟩
abbrev own_M2 : MethodName := ⟨"java/lang/Math", "min", "(II)I"⟩
abbrev own_M3 : MethodName := ⟨"java/lang/StringLatin1", "canEncode", "(I)Z"⟩
abbrev own_M4 : MethodName := ⟨"java/lang/StringLatin1", "indexOf", "([BIII)I"⟩
abbrev own_M5 : MethodName := ⟨"java/lang/StringUTF16", "length", "([B)I"⟩
abbrev own_M6 : MethodName := ⟨"jdk/internal/util/Preconditions", "checkFromToIndex", "(IIILjava/util/function/BiFunction;)I"⟩
abbrev own_M7 : MethodName := ⟨"java/lang/String", "checkBoundsBeginEnd", "(III)V"⟩
abbrev own_M8 : MethodName := ⟨"java/lang/StringUTF16", "checkBoundsBeginEnd", "(II[B)V"⟩
abbrev own_M9 : MethodName := ⟨"java/lang/StringUTF16", "indexOfCharUnsafe", "([BIII)I"⟩
abbrev own_M10 : MethodName := ⟨"java/lang/StringUTF16", "indexOfChar", "([BIII)I"⟩
abbrev own_M11 : MethodName := ⟨"java/lang/StringUTF16", "indexOf", "([BIII)I"⟩
abbrev own_M12 : MethodName := ⟨"java/lang/String", "coder", "()B"⟩
abbrev own_M13 : MethodName := ⟨"java/lang/String", "isLatin1", "()Z"⟩
abbrev own_M14 : MethodName := ⟨"java/lang/String", "length", "()I"⟩
abbrev own_M15 : MethodName := ⟨"java/lang/String", "indexOf", "(II)I"⟩
abbrev own_M16 : MethodName := ⟨"java/lang/String", "indexOf", "(I)I"⟩
abbrev own_M17 : MethodName := ⟨"com/example/kalends/kalends/FileNames", "undecoded", "(Ljava/lang/String;)Z"⟩
abbrev own_M18 : MethodName := ⟨"java/lang/AbstractStringBuilder", "<init>", "(I)V"⟩
abbrev own_M19 : MethodName := ⟨"java/lang/StringBuilder", "<init>", "()V"⟩
abbrev own_M20 : MethodName := ⟨"jdk/internal/util/ArraysSupport", "newLength", "(III)I"⟩
abbrev own_M21 : MethodName := ⟨"java/lang/AbstractStringBuilder", "newCapacity", "(I)I"⟩
abbrev own_M22 : MethodName := ⟨"java/util/Arrays", "copyOf", "([BI)[B"⟩
abbrev own_M23 : MethodName := ⟨"java/lang/AbstractStringBuilder", "ensureCapacityInternal", "(I)V"⟩
abbrev own_M24 : MethodName := ⟨"java/lang/AbstractStringBuilder", "inflateIfNeededFor", "(Ljava/lang/String;)V"⟩
abbrev own_M25 : MethodName := ⟨"java/lang/String", "getBytes", "([BIB)V"⟩
abbrev own_M26 : MethodName := ⟨"java/lang/AbstractStringBuilder", "putStringAt", "(ILjava/lang/String;)V"⟩
abbrev own_M27 : MethodName := ⟨"java/lang/AbstractStringBuilder", "append", "(Ljava/lang/String;)Ljava/lang/AbstractStringBuilder;"⟩
abbrev own_M28 : MethodName := ⟨"java/lang/StringBuilder", "append", "(Ljava/lang/String;)Ljava/lang/StringBuilder;"⟩
abbrev own_M29 : MethodName := ⟨"java/lang/AbstractStringBuilder", "isLatin1", "()Z"⟩
abbrev own_M30 : MethodName := ⟨"java/lang/StringUTF16", "newBytesLength", "(I)I"⟩
abbrev own_M31 : MethodName := ⟨"java/lang/StringUTF16", "newBytesFor", "(I)[B"⟩
abbrev own_M32 : MethodName := ⟨"jdk/internal/util/Preconditions", "checkFromIndexSize", "(IIILjava/util/function/BiFunction;)I"⟩
abbrev own_M33 : MethodName := ⟨"java/lang/String", "checkBoundsOffCount", "(III)I"⟩
abbrev own_M34 : MethodName := ⟨"java/lang/StringUTF16", "checkBoundsOffCount", "(II[B)V"⟩
abbrev own_M35 : MethodName := ⟨"java/lang/StringUTF16", "putChar", "([BII)V"⟩
abbrev own_M36 : MethodName := ⟨"java/lang/StringUTF16", "inflate", "([BI[BII)V"⟩
abbrev own_M37 : MethodName := ⟨"java/lang/StringLatin1", "inflate", "([BI[BII)V"⟩
abbrev own_M38 : MethodName := ⟨"java/lang/AbstractStringBuilder", "inflate", "()V"⟩
abbrev own_M39 : MethodName := ⟨"java/lang/AbstractStringBuilder", "getValue", "()[B"⟩
abbrev own_M40 : MethodName := ⟨"java/lang/AbstractStringBuilder", "length", "()I"⟩
abbrev own_M41 : MethodName := ⟨"java/lang/StringBuilder", "length", "()I"⟩
abbrev own_M42 : MethodName := ⟨"java/util/Arrays", "checkLength", "(II)V"⟩
abbrev own_M43 : MethodName := ⟨"java/util/Arrays", "copyOfRangeByte", "([BII)[B"⟩
abbrev own_M44 : MethodName := ⟨"java/util/Arrays", "copyOfRange", "([BII)[B"⟩
abbrev own_M45 : MethodName := ⟨"java/lang/String", "<init>", "(Ljava/lang/AbstractStringBuilder;Ljava/lang/Void;)V"⟩
abbrev own_M46 : MethodName := ⟨"java/lang/String", "<init>", "(Ljava/lang/StringBuilder;)V"⟩
abbrev own_M47 : MethodName := ⟨"java/lang/StringBuilder", "toString", "()Ljava/lang/String;"⟩
abbrev own_M48 : MethodName := ⟨"com/example/kalends/kalends/FileNames", "whyNotFound", "(Ljava/lang/String;Ljava/lang/String;)Ljava/lang/String;"⟩
abbrev own_M49 : MethodName := ⟨"java/lang/StringLatin1", "equals", "([B[B)Z"⟩
abbrev own_M50 : MethodName := ⟨"java/lang/String", "equals", "(Ljava/lang/Object;)Z"⟩
abbrev own_M51 : MethodName := ⟨"java/lang/String", "<init>", "([CIILjava/lang/Void;)V"⟩
abbrev own_M52 : MethodName := ⟨"java/lang/String", "<init>", "([C)V"⟩
abbrev own_M53 : MethodName := ⟨"java/lang/StringUTF16", "compress", "([CI[BII)I"⟩
abbrev own_M54 : MethodName := ⟨"java/lang/StringUTF16", "toBytes", "([CII)[B"⟩
abbrev own_M55 : MethodName := ⟨"java/lang/StringUTF16", "compress", "([CII)[B"⟩
abbrev own_M56 : MethodName := ⟨"java/lang/StringUTF16", "coderFromArrayLen", "([BI)B"⟩
theorem own_w {a0 : Array Value} {Z : State} (hw : ∀ d ∈ tables_1, d.before a0 Z = true) (i : Nat) {d : Jvm.Cond} (h : tables_1[i]? = some d) : d.before a0 Z = true := hw _ (List.mem_of_getElem? h)
abbrev own_R_0_0_0_0 : Room := { frames := 0, cells := 0, slots := 0, locals := 0 }
abbrev own_R_1_0_0_12 : Room := { frames := 1, cells := 0, slots := 0, locals := 12 }
abbrev own_R_1_0_0_15 : Room := { frames := 1, cells := 0, slots := 0, locals := 15 }
abbrev own_R_2_0_0_31 : Room := { frames := 2, cells := 0, slots := 0, locals := 31 }
abbrev own_R_1_0_0_13 : Room := { frames := 1, cells := 0, slots := 0, locals := 13 }
abbrev own_R_3_0_0_45 : Room := { frames := 3, cells := 0, slots := 0, locals := 45 }
abbrev own_R_4_0_0_60 : Room := { frames := 4, cells := 0, slots := 0, locals := 60 }
abbrev own_R_5_0_0_75 : Room := { frames := 5, cells := 0, slots := 0, locals := 75 }
abbrev own_R_6_0_0_89 : Room := { frames := 6, cells := 0, slots := 0, locals := 89 }
abbrev own_R_7_0_0_102 : Room := { frames := 7, cells := 0, slots := 0, locals := 102 }
abbrev own_R_1_1_16_12 : Room := { frames := 1, cells := 1, slots := 16, locals := 12 }
abbrev own_R_2_1_16_25 : Room := { frames := 2, cells := 1, slots := 16, locals := 25 }
abbrev own_R_1_0_0_14 : Room := { frames := 1, cells := 0, slots := 0, locals := 14 }
abbrev own_R_2_0_0_29 : Room := { frames := 2, cells := 0, slots := 0, locals := 29 }
abbrev own_R_1_1_150_44 : Room := { frames := 1, cells := 1, slots := 150, locals := 44 }
abbrev own_R_3_1_150_60 : Room := { frames := 3, cells := 1, slots := 150, locals := 60 }
abbrev own_R_1_0_0_44 : Room := { frames := 1, cells := 0, slots := 0, locals := 44 }
abbrev own_R_2_0_0_59 : Room := { frames := 2, cells := 0, slots := 0, locals := 59 }
abbrev own_R_4_1_150_74 : Room := { frames := 4, cells := 1, slots := 150, locals := 74 }
abbrev own_R_5_1_150_88 : Room := { frames := 5, cells := 1, slots := 150, locals := 88 }
abbrev own_R_3_0_0_73 : Room := { frames := 3, cells := 0, slots := 0, locals := 73 }
abbrev own_R_4_0_0_87 : Room := { frames := 4, cells := 0, slots := 0, locals := 87 }
abbrev own_R_1_1_300_12 : Room := { frames := 1, cells := 1, slots := 300, locals := 12 }
abbrev own_R_4_0_0_62 : Room := { frames := 4, cells := 0, slots := 0, locals := 62 }
abbrev own_R_5_1_300_78 : Room := { frames := 5, cells := 1, slots := 300, locals := 78 }
abbrev own_R_6_1_300_91 : Room := { frames := 6, cells := 1, slots := 300, locals := 91 }
abbrev own_R_7_1_300_104 : Room := { frames := 7, cells := 1, slots := 300, locals := 104 }
abbrev own_R_8_1_300_118 : Room := { frames := 8, cells := 1, slots := 300, locals := 118 }
abbrev own_R_9_1_300_132 : Room := { frames := 9, cells := 1, slots := 300, locals := 132 }
abbrev own_R_8_2_450_118 : Room := { frames := 8, cells := 2, slots := 450, locals := 118 }
abbrev own_R_9_2_450_132 : Room := { frames := 9, cells := 2, slots := 450, locals := 132 }
abbrev own_R_2_0_0_25 : Room := { frames := 2, cells := 0, slots := 0, locals := 25 }
abbrev own_R_5_0_0_78 : Room := { frames := 5, cells := 0, slots := 0, locals := 78 }
abbrev own_R_6_0_0_93 : Room := { frames := 6, cells := 0, slots := 0, locals := 93 }
abbrev own_R_7_0_0_107 : Room := { frames := 7, cells := 0, slots := 0, locals := 107 }
abbrev own_R_8_0_0_121 : Room := { frames := 8, cells := 0, slots := 0, locals := 121 }
abbrev own_R_1_1_192_46 : Room := { frames := 1, cells := 1, slots := 192, locals := 46 }
abbrev own_R_2_1_192_62 : Room := { frames := 2, cells := 1, slots := 192, locals := 62 }
abbrev own_R_3_1_192_77 : Room := { frames := 3, cells := 1, slots := 192, locals := 77 }
abbrev own_R_4_1_192_93 : Room := { frames := 4, cells := 1, slots := 192, locals := 93 }
abbrev own_R_5_2_196_107 : Room := { frames := 5, cells := 2, slots := 196, locals := 107 }
abbrev own_R_13_40_4000_250 : Room := { frames := 13, cells := 40, slots := 4000, locals := 250 }
abbrev own_R_1_4_8_12 : Room := { frames := 1, cells := 4, slots := 8, locals := 12 }
abbrev own_R_2_4_8_29 : Room := { frames := 2, cells := 4, slots := 8, locals := 29 }
abbrev own_R_2_1_300_24 : Room := { frames := 2, cells := 1, slots := 300, locals := 24 }
abbrev own_R_3_2_400_42 : Room := { frames := 3, cells := 2, slots := 400, locals := 42 }
abbrev own_R_4_2_400_61 : Room := { frames := 4, cells := 2, slots := 400, locals := 61 }
abbrev own_R_5_2_400_78 : Room := { frames := 5, cells := 2, slots := 400, locals := 78 }
theorem dj52m5_0 : decode jdk_52_method_5_code 0 = .ok (.getstatic 44, 3) := by decide +kernel
theorem dj52m5_3 : decode jdk_52_method_5_code 3 = .ok (.ifCond .ne 25, 3) := by decide +kernel
theorem dj52m5_28 : decode jdk_52_method_5_code 28 = .ok (.iload_n 1, 1) := by decide +kernel
theorem dj52m5_29 : decode jdk_52_method_5_code 29 = .ok (.iconst 1, 1) := by decide +kernel
theorem dj52m5_30 : decode jdk_52_method_5_code 30 = .ok (.ishl, 1) := by decide +kernel
theorem dj52m5_31 : decode jdk_52_method_5_code 31 = .ok (.istore_n 1, 1) := by decide +kernel
theorem dj52m5_32 : decode jdk_52_method_5_code 32 = .ok (.aload_n 0, 1) := by decide +kernel
theorem dj52m5_33 : decode jdk_52_method_5_code 33 = .ok (.iload_n 1, 1) := by decide +kernel
theorem dj52m5_34 : decode jdk_52_method_5_code 34 = .ok (.iinc 1 1, 3) := by decide +kernel
theorem dj52m5_37 : decode jdk_52_method_5_code 37 = .ok (.baload, 1) := by decide +kernel
theorem dj52m5_38 : decode jdk_52_method_5_code 38 = .ok (.sipush 255, 3) := by decide +kernel
theorem dj52m5_41 : decode jdk_52_method_5_code 41 = .ok (.iand, 1) := by decide +kernel
theorem dj52m5_42 : decode jdk_52_method_5_code 42 = .ok (.getstatic 59, 3) := by decide +kernel
theorem dj52m5_45 : decode jdk_52_method_5_code 45 = .ok (.ishl, 1) := by decide +kernel
theorem dj52m5_46 : decode jdk_52_method_5_code 46 = .ok (.aload_n 0, 1) := by decide +kernel
theorem dj52m5_47 : decode jdk_52_method_5_code 47 = .ok (.iload_n 1, 1) := by decide +kernel
theorem dj52m5_48 : decode jdk_52_method_5_code 48 = .ok (.baload, 1) := by decide +kernel
theorem dj52m5_49 : decode jdk_52_method_5_code 49 = .ok (.sipush 255, 3) := by decide +kernel
theorem dj52m5_52 : decode jdk_52_method_5_code 52 = .ok (.iand, 1) := by decide +kernel
theorem dj52m5_53 : decode jdk_52_method_5_code 53 = .ok (.getstatic 63, 3) := by decide +kernel
theorem dj52m5_56 : decode jdk_52_method_5_code 56 = .ok (.ishl, 1) := by decide +kernel
theorem dj52m5_57 : decode jdk_52_method_5_code 57 = .ok (.ior, 1) := by decide +kernel
theorem dj52m5_58 : decode jdk_52_method_5_code 58 = .ok (.i2c, 1) := by decide +kernel
theorem dj52m5_59 : decode jdk_52_method_5_code 59 = .ok (.ireturn, 1) := by decide +kernel
theorem pn_java_lang_StringUTF16 : plainName "java/lang/StringUTF16" = true := by first | (simp [plainName, overriddenIn]; done) | decide +kernel
theorem ef_RI_2 (m : MethodId) (x0 : Addr) (x1 : Int32) : entryFrame m #[(.ref x0), (.int x1)] 2 = mkF m 0 #[.val (.ref x0), .val (.int x1)] [] := by first | (simp [entryFrame, mkF, argsToLocals, Value.category]; done) | rfl
theorem dj29m65_0 : decode jdk_29_method_65_code 0 = .ok (.iload_n 0, 1) := by decide +kernel
theorem dj29m65_1 : decode jdk_29_method_65_code 1 = .ok (.iload_n 1, 1) := by decide +kernel
theorem dj29m65_2 : decode jdk_29_method_65_code 2 = .ok (.if_icmp .lt 7, 3) := by decide +kernel
theorem dj29m65_5 : decode jdk_29_method_65_code 5 = .ok (.iload_n 0, 1) := by decide +kernel
theorem dj29m65_6 : decode jdk_29_method_65_code 6 = .ok (.goto 4, 3) := by decide +kernel
theorem dj29m65_9 : decode jdk_29_method_65_code 9 = .ok (.iload_n 1, 1) := by decide +kernel
theorem dj29m65_10 : decode jdk_29_method_65_code 10 = .ok (.ireturn, 1) := by decide +kernel
theorem ef_II_2 (m : MethodId) (x0 : Int32) (x1 : Int32) : entryFrame m #[(.int x0), (.int x1)] 2 = mkF m 0 #[.val (.int x0), .val (.int x1)] [] := by first | (simp [entryFrame, mkF, argsToLocals, Value.category]; done) | rfl
theorem dj29m69_0 : decode jdk_29_method_69_code 0 = .ok (.iload_n 0, 1) := by decide +kernel
theorem dj29m69_1 : decode jdk_29_method_69_code 1 = .ok (.iload_n 1, 1) := by decide +kernel
theorem dj29m69_2 : decode jdk_29_method_69_code 2 = .ok (.if_icmp .gt 7, 3) := by decide +kernel
theorem dj29m69_5 : decode jdk_29_method_69_code 5 = .ok (.iload_n 0, 1) := by decide +kernel
theorem dj29m69_6 : decode jdk_29_method_69_code 6 = .ok (.goto 4, 3) := by decide +kernel
theorem dj29m69_9 : decode jdk_29_method_69_code 9 = .ok (.iload_n 1, 1) := by decide +kernel
theorem dj29m69_10 : decode jdk_29_method_69_code 10 = .ok (.ireturn, 1) := by decide +kernel
theorem dj43m4_0 : decode jdk_43_method_4_code 0 = .ok (.iload_n 0, 1) := by decide +kernel
theorem dj43m4_1 : decode jdk_43_method_4_code 1 = .ok (.ifCond .lt 14, 3) := by decide +kernel
theorem dj43m4_4 : decode jdk_43_method_4_code 4 = .ok (.iload_n 0, 1) := by decide +kernel
theorem dj43m4_5 : decode jdk_43_method_4_code 5 = .ok (.sipush 255, 3) := by decide +kernel
theorem dj43m4_8 : decode jdk_43_method_4_code 8 = .ok (.if_icmp .gt 7, 3) := by decide +kernel
theorem dj43m4_15 : decode jdk_43_method_4_code 15 = .ok (.iconst 0, 1) := by decide +kernel
theorem dj43m4_16 : decode jdk_43_method_4_code 16 = .ok (.ireturn, 1) := by decide +kernel
theorem pn_java_lang_StringLatin1 : plainName "java/lang/StringLatin1" = true := by first | (simp [plainName, overriddenIn]; done) | decide +kernel
theorem ef_I_1 (m : MethodId) (x0 : Int32) : entryFrame m #[(.int x0)] 1 = mkF m 0 #[.val (.int x0)] [] := by first | (simp [entryFrame, mkF, argsToLocals, Value.category]; done) | rfl
theorem dj43m22_0 : decode jdk_43_method_22_code 0 = .ok (.iload_n 1, 1) := by decide +kernel
theorem dj43m22_1 : decode jdk_43_method_22_code 1 = .ok (.invokestatic 88, 3) := by decide +kernel
theorem dj43m22_4 : decode jdk_43_method_22_code 4 = .ok (.ifCond .ne 5, 3) := by decide +kernel
theorem dj43m22_7 : decode jdk_43_method_22_code 7 = .ok (.iconst (-1), 1) := by decide +kernel
theorem dj43m22_8 : decode jdk_43_method_22_code 8 = .ok (.ireturn, 1) := by decide +kernel
theorem pd0 : parseMethodDescriptor "(I)Z" = some ⟨[.int], some .boolean⟩ := by decide +kernel
theorem ef_RIII_4 (m : MethodId) (x0 : Addr) (x1 : Int32) (x2 : Int32) (x3 : Int32) : entryFrame m #[(.ref x0), (.int x1), (.int x2), (.int x3)] 4 = mkF m 0 #[.val (.ref x0), .val (.int x1), .val (.int x2), .val (.int x3)] [] := by first | (simp [entryFrame, mkF, argsToLocals, Value.category]; done) | rfl
theorem dj52m6_0 : decode jdk_52_method_6_code 0 = .ok (.aload_n 0, 1) := by decide +kernel
theorem dj52m6_1 : decode jdk_52_method_6_code 1 = .ok (.arraylength, 1) := by decide +kernel
theorem dj52m6_2 : decode jdk_52_method_6_code 2 = .ok (.iconst 1, 1) := by decide +kernel
theorem dj52m6_3 : decode jdk_52_method_6_code 3 = .ok (.ishr, 1) := by decide +kernel
theorem dj52m6_4 : decode jdk_52_method_6_code 4 = .ok (.ireturn, 1) := by decide +kernel
theorem ef_R_1 (m : MethodId) (x0 : Addr) : entryFrame m #[(.ref x0)] 1 = mkF m 0 #[.val (.ref x0)] [] := by first | (simp [entryFrame, mkF, argsToLocals, Value.category]; done) | rfl
theorem dj41m12_0 : decode jdk_41_method_12_code 0 = .ok (.iload_n 0, 1) := by decide +kernel
theorem dj41m12_1 : decode jdk_41_method_12_code 1 = .ok (.ifCond .lt 13, 3) := by decide +kernel
theorem dj41m12_4 : decode jdk_41_method_12_code 4 = .ok (.iload_n 0, 1) := by decide +kernel
theorem dj41m12_5 : decode jdk_41_method_12_code 5 = .ok (.iload_n 1, 1) := by decide +kernel
theorem dj41m12_6 : decode jdk_41_method_12_code 6 = .ok (.if_icmp .gt 8, 3) := by decide +kernel
theorem dj41m12_9 : decode jdk_41_method_12_code 9 = .ok (.iload_n 1, 1) := by decide +kernel
theorem dj41m12_10 : decode jdk_41_method_12_code 10 = .ok (.iload_n 2, 1) := by decide +kernel
theorem dj41m12_11 : decode jdk_41_method_12_code 11 = .ok (.if_icmp .le 11, 3) := by decide +kernel
theorem dj41m12_22 : decode jdk_41_method_12_code 22 = .ok (.iload_n 0, 1) := by decide +kernel
theorem dj41m12_23 : decode jdk_41_method_12_code 23 = .ok (.ireturn, 1) := by decide +kernel
theorem pn_jdk_internal_util_Preconditions : plainName "jdk/internal/util/Preconditions" = true := by first | (simp [plainName, overriddenIn]; done) | decide +kernel
theorem ef_IIIV_4 (m : MethodId) (x0 : Int32) (x1 : Int32) (x2 : Int32) (x3 : Value) (hx3 : x3.isRef = true) : entryFrame m #[(.int x0), (.int x1), (.int x2), x3] 4 = mkF m 0 #[.val (.int x0), .val (.int x1), .val (.int x2), .val x3] [] := by simp [entryFrame, mkF, argsToLocals, own_cat1 hx3, own_catI, own_catJ, own_catR]
theorem dj42m158_0 : decode jdk_42_method_158_code 0 = .ok (.iload_n 0, 1) := by decide +kernel
theorem dj42m158_1 : decode jdk_42_method_158_code 1 = .ok (.iload_n 1, 1) := by decide +kernel
theorem dj42m158_2 : decode jdk_42_method_158_code 2 = .ok (.iload_n 2, 1) := by decide +kernel
theorem dj42m158_3 : decode jdk_42_method_158_code 3 = .ok (.getstatic 1053, 3) := by decide +kernel
theorem dj42m158_6 : decode jdk_42_method_158_code 6 = .ok (.invokestatic 1062, 3) := by decide +kernel
theorem dj42m158_9 : decode jdk_42_method_158_code 9 = .ok (.pop, 1) := by decide +kernel
theorem dj42m158_10 : decode jdk_42_method_158_code 10 = .ok (.return_, 1) := by decide +kernel
theorem pn_java_lang_String : plainName "java/lang/String" = true := by first | (simp [plainName, overriddenIn]; done) | decide +kernel
theorem pd1 : parseMethodDescriptor "(IIILjava/util/function/BiFunction;)I" = some ⟨[.int, .int, .int, (.object "java/util/function/BiFunction")], some .int⟩ := by decide +kernel
theorem ef_III_3 (m : MethodId) (x0 : Int32) (x1 : Int32) (x2 : Int32) : entryFrame m #[(.int x0), (.int x1), (.int x2)] 3 = mkF m 0 #[.val (.int x0), .val (.int x1), .val (.int x2)] [] := by first | (simp [entryFrame, mkF, argsToLocals, Value.category]; done) | rfl
theorem dj52m93_0 : decode jdk_52_method_93_code 0 = .ok (.iload_n 0, 1) := by decide +kernel
theorem dj52m93_1 : decode jdk_52_method_93_code 1 = .ok (.iload_n 1, 1) := by decide +kernel
theorem dj52m93_2 : decode jdk_52_method_93_code 2 = .ok (.aload_n 2, 1) := by decide +kernel
theorem dj52m93_3 : decode jdk_52_method_93_code 3 = .ok (.invokestatic 48, 3) := by decide +kernel
theorem dj52m93_6 : decode jdk_52_method_93_code 6 = .ok (.invokestatic 241, 3) := by decide +kernel
theorem dj52m93_9 : decode jdk_52_method_93_code 9 = .ok (.return_, 1) := by decide +kernel
theorem pd2 : parseMethodDescriptor "([B)I" = some ⟨[(.array .byte)], some .int⟩ := by decide +kernel
theorem pd3 : parseMethodDescriptor "(III)V" = some ⟨[.int, .int, .int], none⟩ := by decide +kernel
theorem ef_IIR_3 (m : MethodId) (x0 : Int32) (x1 : Int32) (x2 : Addr) : entryFrame m #[(.int x0), (.int x1), (.ref x2)] 3 = mkF m 0 #[.val (.int x0), .val (.int x1), .val (.ref x2)] [] := by first | (simp [entryFrame, mkF, argsToLocals, Value.category]; done) | rfl
theorem dj52m48_0 : decode jdk_52_method_48_code 0 = .ok (.iload_n 2, 1) := by decide +kernel
theorem dj52m48_1 : decode jdk_52_method_48_code 1 = .ok (.istore 4, 2) := by decide +kernel
theorem dj52m48_3 : decode jdk_52_method_48_code 3 = .ok (.iload 4, 2) := by decide +kernel
theorem dj52m48_5 : decode jdk_52_method_48_code 5 = .ok (.iload_n 3, 1) := by decide +kernel
theorem dj52m48_6 : decode jdk_52_method_48_code 6 = .ok (.if_icmp .ge 22, 3) := by decide +kernel
theorem dj52m48_9 : decode jdk_52_method_48_code 9 = .ok (.aload_n 0, 1) := by decide +kernel
theorem dj52m48_10 : decode jdk_52_method_48_code 10 = .ok (.iload 4, 2) := by decide +kernel
theorem dj52m48_12 : decode jdk_52_method_48_code 12 = .ok (.invokestatic 71, 3) := by decide +kernel
theorem dj52m48_15 : decode jdk_52_method_48_code 15 = .ok (.iload_n 1, 1) := by decide +kernel
theorem dj52m48_16 : decode jdk_52_method_48_code 16 = .ok (.if_icmp .ne 6, 3) := by decide +kernel
theorem dj52m48_19 : decode jdk_52_method_48_code 19 = .ok (.iload 4, 2) := by decide +kernel
theorem dj52m48_21 : decode jdk_52_method_48_code 21 = .ok (.ireturn, 1) := by decide +kernel
theorem dj52m48_22 : decode jdk_52_method_48_code 22 = .ok (.iinc 4 1, 3) := by decide +kernel
theorem dj52m48_25 : decode jdk_52_method_48_code 25 = .ok (.goto (-22), 3) := by decide +kernel
theorem dj52m48_28 : decode jdk_52_method_48_code 28 = .ok (.iconst (-1), 1) := by decide +kernel
theorem dj52m48_29 : decode jdk_52_method_48_code 29 = .ok (.ireturn, 1) := by decide +kernel
theorem pd4 : parseMethodDescriptor "([BI)C" = some ⟨[(.array .byte), .int], some .char⟩ := by decide +kernel
theorem ef_RIII_5 (m : MethodId) (x0 : Addr) (x1 : Int32) (x2 : Int32) (x3 : Int32) : entryFrame m #[(.ref x0), (.int x1), (.int x2), (.int x3)] 5 = mkF m 0 #[.val (.ref x0), .val (.int x1), .val (.int x2), .val (.int x3), .unset] [] := by first | (simp [entryFrame, mkF, argsToLocals, Value.category]; done) | rfl
theorem dj52m47_0 : decode jdk_52_method_47_code 0 = .ok (.iload_n 2, 1) := by decide +kernel
theorem dj52m47_1 : decode jdk_52_method_47_code 1 = .ok (.iload_n 3, 1) := by decide +kernel
theorem dj52m47_2 : decode jdk_52_method_47_code 2 = .ok (.aload_n 0, 1) := by decide +kernel
theorem dj52m47_3 : decode jdk_52_method_47_code 3 = .ok (.invokestatic 96, 3) := by decide +kernel
theorem dj52m47_6 : decode jdk_52_method_47_code 6 = .ok (.aload_n 0, 1) := by decide +kernel
theorem dj52m47_7 : decode jdk_52_method_47_code 7 = .ok (.iload_n 1, 1) := by decide +kernel
theorem dj52m47_8 : decode jdk_52_method_47_code 8 = .ok (.iload_n 2, 1) := by decide +kernel
theorem dj52m47_9 : decode jdk_52_method_47_code 9 = .ok (.iload_n 3, 1) := by decide +kernel
theorem dj52m47_10 : decode jdk_52_method_47_code 10 = .ok (.invokestatic 244, 3) := by decide +kernel
theorem dj52m47_13 : decode jdk_52_method_47_code 13 = .ok (.ireturn, 1) := by decide +kernel
theorem pd5 : parseMethodDescriptor "(II[B)V" = some ⟨[.int, .int, (.array .byte)], none⟩ := by decide +kernel
theorem pd6 : parseMethodDescriptor "([BIII)I" = some ⟨[(.array .byte), .int, .int, .int], some .int⟩ := by decide +kernel
theorem dj52m40_0 : decode jdk_52_method_40_code 0 = .ok (.iload_n 2, 1) := by decide +kernel
theorem dj52m40_1 : decode jdk_52_method_40_code 1 = .ok (.iconst 0, 1) := by decide +kernel
theorem dj52m40_2 : decode jdk_52_method_40_code 2 = .ok (.invokestatic 224, 3) := by decide +kernel
theorem dj52m40_5 : decode jdk_52_method_40_code 5 = .ok (.istore_n 2, 1) := by decide +kernel
theorem dj52m40_6 : decode jdk_52_method_40_code 6 = .ok (.iload_n 3, 1) := by decide +kernel
theorem dj52m40_7 : decode jdk_52_method_40_code 7 = .ok (.aload_n 0, 1) := by decide +kernel
theorem dj52m40_8 : decode jdk_52_method_40_code 8 = .ok (.arraylength, 1) := by decide +kernel
theorem dj52m40_9 : decode jdk_52_method_40_code 9 = .ok (.iconst 1, 1) := by decide +kernel
theorem dj52m40_10 : decode jdk_52_method_40_code 10 = .ok (.ishr, 1) := by decide +kernel
theorem dj52m40_11 : decode jdk_52_method_40_code 11 = .ok (.invokestatic 183, 3) := by decide +kernel
theorem dj52m40_14 : decode jdk_52_method_40_code 14 = .ok (.istore_n 3, 1) := by decide +kernel
theorem dj52m40_15 : decode jdk_52_method_40_code 15 = .ok (.iload_n 2, 1) := by decide +kernel
theorem dj52m40_16 : decode jdk_52_method_40_code 16 = .ok (.iload_n 3, 1) := by decide +kernel
theorem dj52m40_17 : decode jdk_52_method_40_code 17 = .ok (.if_icmp .lt 5, 3) := by decide +kernel
theorem dj52m40_20 : decode jdk_52_method_40_code 20 = .ok (.iconst (-1), 1) := by decide +kernel
theorem dj52m40_21 : decode jdk_52_method_40_code 21 = .ok (.ireturn, 1) := by decide +kernel
theorem dj52m40_22 : decode jdk_52_method_40_code 22 = .ok (.iload_n 1, 1) := by decide +kernel
theorem dj52m40_23 : decode jdk_52_method_40_code 23 = .ok (.ldc 227, 2) := by decide +kernel
theorem dj52m40_25 : decode jdk_52_method_40_code 25 = .ok (.if_icmp .ge 11, 3) := by decide +kernel
theorem dj52m40_28 : decode jdk_52_method_40_code 28 = .ok (.aload_n 0, 1) := by decide +kernel
theorem dj52m40_29 : decode jdk_52_method_40_code 29 = .ok (.iload_n 1, 1) := by decide +kernel
theorem dj52m40_30 : decode jdk_52_method_40_code 30 = .ok (.iload_n 2, 1) := by decide +kernel
theorem dj52m40_31 : decode jdk_52_method_40_code 31 = .ok (.iload_n 3, 1) := by decide +kernel
theorem dj52m40_32 : decode jdk_52_method_40_code 32 = .ok (.invokestatic 228, 3) := by decide +kernel
theorem dj52m40_35 : decode jdk_52_method_40_code 35 = .ok (.ireturn, 1) := by decide +kernel
theorem pd7 : parseMethodDescriptor "(II)I" = some ⟨[.int, .int], some .int⟩ := by decide +kernel
theorem dj42m152_0 : decode jdk_42_method_152_code 0 = .ok (.getstatic 38, 3) := by decide +kernel
theorem dj42m152_3 : decode jdk_42_method_152_code 3 = .ok (.ifCond .eq 10, 3) := by decide +kernel
theorem dj42m152_6 : decode jdk_42_method_152_code 6 = .ok (.aload_n 0, 1) := by decide +kernel
theorem dj42m152_7 : decode jdk_42_method_152_code 7 = .ok (.getfield 15, 3) := by decide +kernel
theorem dj42m152_10 : decode jdk_42_method_152_code 10 = .ok (.goto 4, 3) := by decide +kernel
theorem dj42m152_14 : decode jdk_42_method_152_code 14 = .ok (.ireturn, 1) := by decide +kernel
theorem dj42m154_0 : decode jdk_42_method_154_code 0 = .ok (.getstatic 38, 3) := by decide +kernel
theorem dj42m154_3 : decode jdk_42_method_154_code 3 = .ok (.ifCond .eq 14, 3) := by decide +kernel
theorem dj42m154_6 : decode jdk_42_method_154_code 6 = .ok (.aload_n 0, 1) := by decide +kernel
theorem dj42m154_7 : decode jdk_42_method_154_code 7 = .ok (.getfield 15, 3) := by decide +kernel
theorem dj42m154_10 : decode jdk_42_method_154_code 10 = .ok (.ifCond .ne 7, 3) := by decide +kernel
theorem dj42m154_13 : decode jdk_42_method_154_code 13 = .ok (.iconst 1, 1) := by decide +kernel
theorem dj42m154_14 : decode jdk_42_method_154_code 14 = .ok (.goto 4, 3) := by decide +kernel
theorem dj42m154_18 : decode jdk_42_method_154_code 18 = .ok (.ireturn, 1) := by decide +kernel
theorem dj42m54_0 : decode jdk_42_method_54_code 0 = .ok (.aload_n 0, 1) := by decide +kernel
theorem dj42m54_1 : decode jdk_42_method_54_code 1 = .ok (.getfield 9, 3) := by decide +kernel
theorem dj42m54_4 : decode jdk_42_method_54_code 4 = .ok (.arraylength, 1) := by decide +kernel
theorem dj42m54_5 : decode jdk_42_method_54_code 5 = .ok (.aload_n 0, 1) := by decide +kernel
theorem dj42m54_6 : decode jdk_42_method_54_code 6 = .ok (.invokevirtual 335, 3) := by decide +kernel
theorem dj42m54_9 : decode jdk_42_method_54_code 9 = .ok (.ishr, 1) := by decide +kernel
theorem dj42m54_10 : decode jdk_42_method_54_code 10 = .ok (.ireturn, 1) := by decide +kernel
theorem pd8 : parseMethodDescriptor "()B" = some ⟨[], some .byte⟩ := by decide +kernel
theorem dj42m80_0 : decode jdk_42_method_80_code 0 = .ok (.aload_n 0, 1) := by decide +kernel
theorem dj42m80_1 : decode jdk_42_method_80_code 1 = .ok (.invokevirtual 492, 3) := by decide +kernel
theorem dj42m80_4 : decode jdk_42_method_80_code 4 = .ok (.ifCond .eq 19, 3) := by decide +kernel
theorem dj42m80_7 : decode jdk_42_method_80_code 7 = .ok (.aload_n 0, 1) := by decide +kernel
theorem dj42m80_8 : decode jdk_42_method_80_code 8 = .ok (.getfield 9, 3) := by decide +kernel
theorem dj42m80_11 : decode jdk_42_method_80_code 11 = .ok (.iload_n 1, 1) := by decide +kernel
theorem dj42m80_12 : decode jdk_42_method_80_code 12 = .ok (.iload_n 2, 1) := by decide +kernel
theorem dj42m80_13 : decode jdk_42_method_80_code 13 = .ok (.aload_n 0, 1) := by decide +kernel
theorem dj42m80_14 : decode jdk_42_method_80_code 14 = .ok (.invokevirtual 505, 3) := by decide +kernel
theorem dj42m80_17 : decode jdk_42_method_80_code 17 = .ok (.invokestatic 637, 3) := by decide +kernel
theorem dj42m80_20 : decode jdk_42_method_80_code 20 = .ok (.goto 16, 3) := by decide +kernel
theorem dj42m80_36 : decode jdk_42_method_80_code 36 = .ok (.ireturn, 1) := by decide +kernel
theorem pd9 : parseMethodDescriptor "()Z" = some ⟨[], some .boolean⟩ := by decide +kernel
theorem pd10 : parseMethodDescriptor "()I" = some ⟨[], some .int⟩ := by decide +kernel
theorem ef_RII_3 (m : MethodId) (x0 : Addr) (x1 : Int32) (x2 : Int32) : entryFrame m #[(.ref x0), (.int x1), (.int x2)] 3 = mkF m 0 #[.val (.ref x0), .val (.int x1), .val (.int x2)] [] := by first | (simp [entryFrame, mkF, argsToLocals, Value.category]; done) | rfl
theorem dj42m79_0 : decode jdk_42_method_79_code 0 = .ok (.aload_n 0, 1) := by decide +kernel
theorem dj42m79_1 : decode jdk_42_method_79_code 1 = .ok (.iload_n 1, 1) := by decide +kernel
theorem dj42m79_2 : decode jdk_42_method_79_code 2 = .ok (.iconst 0, 1) := by decide +kernel
theorem dj42m79_3 : decode jdk_42_method_79_code 3 = .ok (.invokevirtual 633, 3) := by decide +kernel
theorem dj42m79_6 : decode jdk_42_method_79_code 6 = .ok (.ireturn, 1) := by decide +kernel
theorem dj42m154_17 : decode jdk_42_method_154_code 17 = .ok (.iconst 0, 1) := by decide +kernel
theorem dj42m80_23 : decode jdk_42_method_80_code 23 = .ok (.aload_n 0, 1) := by decide +kernel
theorem dj42m80_24 : decode jdk_42_method_80_code 24 = .ok (.getfield 9, 3) := by decide +kernel
theorem dj42m80_27 : decode jdk_42_method_80_code 27 = .ok (.iload_n 1, 1) := by decide +kernel
theorem dj42m80_28 : decode jdk_42_method_80_code 28 = .ok (.iload_n 2, 1) := by decide +kernel
theorem dj42m80_29 : decode jdk_42_method_80_code 29 = .ok (.aload_n 0, 1) := by decide +kernel
theorem dj42m80_30 : decode jdk_42_method_80_code 30 = .ok (.invokevirtual 505, 3) := by decide +kernel
theorem dj42m80_33 : decode jdk_42_method_80_code 33 = .ok (.invokestatic 640, 3) := by decide +kernel
theorem dp30m4_0 : decode prog_30_method_4_code 0 = .ok (.aload_n 0, 1) := by decide +kernel
theorem dp30m4_1 : decode prog_30_method_4_code 1 = .ok (.ldc 37, 2) := by decide +kernel
theorem dp30m4_3 : decode prog_30_method_4_code 3 = .ok (.invokevirtual 38, 3) := by decide +kernel
theorem dp30m4_6 : decode prog_30_method_4_code 6 = .ok (.ifCond .lt 7, 3) := by decide +kernel
theorem dp30m4_9 : decode prog_30_method_4_code 9 = .ok (.iconst 1, 1) := by decide +kernel
theorem dp30m4_10 : decode prog_30_method_4_code 10 = .ok (.goto 4, 3) := by decide +kernel
theorem dp30m4_13 : decode prog_30_method_4_code 13 = .ok (.iconst 0, 1) := by decide +kernel
theorem dp30m4_14 : decode prog_30_method_4_code 14 = .ok (.ireturn, 1) := by decide +kernel
theorem pn_com_example_kalends_kalends_FileNames : plainName "com/example/kalends/kalends/FileNames" = true := by first | (simp [plainName, overriddenIn]; done) | decide +kernel
theorem pd11 : parseMethodDescriptor "(I)I" = some ⟨[.int], some .int⟩ := by decide +kernel
theorem dj68m2_0 : decode jdk_68_method_2_code 0 = .ok (.aload_n 0, 1) := by decide +kernel
theorem dj68m2_1 : decode jdk_68_method_2_code 1 = .ok (.invokespecial 3, 3) := by decide +kernel
theorem dj68m2_4 : decode jdk_68_method_2_code 4 = .ok (.getstatic 18, 3) := by decide +kernel
theorem dj68m2_7 : decode jdk_68_method_2_code 7 = .ok (.ifCond .eq 18, 3) := by decide +kernel
theorem dj68m2_10 : decode jdk_68_method_2_code 10 = .ok (.aload_n 0, 1) := by decide +kernel
theorem dj68m2_11 : decode jdk_68_method_2_code 11 = .ok (.iload_n 1, 1) := by decide +kernel
theorem dj68m2_12 : decode jdk_68_method_2_code 12 = .ok (.newarray .byte, 2) := by decide +kernel
theorem dj68m2_14 : decode jdk_68_method_2_code 14 = .ok (.putfield 15, 3) := by decide +kernel
theorem dj68m2_17 : decode jdk_68_method_2_code 17 = .ok (.aload_n 0, 1) := by decide +kernel
theorem dj68m2_18 : decode jdk_68_method_2_code 18 = .ok (.iconst 0, 1) := by decide +kernel
theorem dj68m2_19 : decode jdk_68_method_2_code 19 = .ok (.putfield 22, 3) := by decide +kernel
theorem dj68m2_22 : decode jdk_68_method_2_code 22 = .ok (.goto 16, 3) := by decide +kernel
theorem dj68m2_38 : decode jdk_68_method_2_code 38 = .ok (.return_, 1) := by decide +kernel
theorem pn_java_lang_AbstractStringBuilder : plainName "java/lang/AbstractStringBuilder" = true := by first | (simp [plainName, overriddenIn]; done) | decide +kernel
theorem dj67m1_0 : decode jdk_67_method_1_code 0 = .ok (.aload_n 0, 1) := by decide +kernel
theorem dj67m1_1 : decode jdk_67_method_1_code 1 = .ok (.bipush 16, 2) := by decide +kernel
theorem dj67m1_3 : decode jdk_67_method_1_code 3 = .ok (.invokespecial 1, 3) := by decide +kernel
theorem dj67m1_6 : decode jdk_67_method_1_code 6 = .ok (.return_, 1) := by decide +kernel
theorem pn_java_lang_StringBuilder : plainName "java/lang/StringBuilder" = true := by first | (simp [plainName, overriddenIn]; done) | decide +kernel
theorem pd12 : parseMethodDescriptor "(I)V" = some ⟨[.int], none⟩ := by decide +kernel
theorem dj48m27_0 : decode jdk_48_method_27_code 0 = .ok (.iload_n 0, 1) := by decide +kernel
theorem dj48m27_1 : decode jdk_48_method_27_code 1 = .ok (.iload_n 1, 1) := by decide +kernel
theorem dj48m27_2 : decode jdk_48_method_27_code 2 = .ok (.iload_n 2, 1) := by decide +kernel
theorem dj48m27_3 : decode jdk_48_method_27_code 3 = .ok (.invokestatic 194, 3) := by decide +kernel
theorem dj48m27_6 : decode jdk_48_method_27_code 6 = .ok (.iadd, 1) := by decide +kernel
theorem dj48m27_7 : decode jdk_48_method_27_code 7 = .ok (.istore_n 3, 1) := by decide +kernel
theorem dj48m27_8 : decode jdk_48_method_27_code 8 = .ok (.iconst 0, 1) := by decide +kernel
theorem dj48m27_9 : decode jdk_48_method_27_code 9 = .ok (.iload_n 3, 1) := by decide +kernel
theorem dj48m27_10 : decode jdk_48_method_27_code 10 = .ok (.if_icmp .ge 11, 3) := by decide +kernel
theorem dj48m27_13 : decode jdk_48_method_27_code 13 = .ok (.iload_n 3, 1) := by decide +kernel
theorem dj48m27_14 : decode jdk_48_method_27_code 14 = .ok (.ldc 200, 2) := by decide +kernel
theorem dj48m27_16 : decode jdk_48_method_27_code 16 = .ok (.if_icmp .gt 5, 3) := by decide +kernel
theorem dj48m27_19 : decode jdk_48_method_27_code 19 = .ok (.iload_n 3, 1) := by decide +kernel
theorem dj48m27_20 : decode jdk_48_method_27_code 20 = .ok (.ireturn, 1) := by decide +kernel
theorem pn_jdk_internal_util_ArraysSupport : plainName "jdk/internal/util/ArraysSupport" = true := by first | (simp [plainName, overriddenIn]; done) | decide +kernel
theorem ef_III_4 (m : MethodId) (x0 : Int32) (x1 : Int32) (x2 : Int32) : entryFrame m #[(.int x0), (.int x1), (.int x2)] 4 = mkF m 0 #[.val (.int x0), .val (.int x1), .val (.int x2), .unset] [] := by first | (simp [entryFrame, mkF, argsToLocals, Value.category]; done) | rfl
theorem dj68m10_0 : decode jdk_68_method_10_code 0 = .ok (.aload_n 0, 1) := by decide +kernel
theorem dj68m10_1 : decode jdk_68_method_10_code 1 = .ok (.getfield 15, 3) := by decide +kernel
theorem dj68m10_4 : decode jdk_68_method_10_code 4 = .ok (.arraylength, 1) := by decide +kernel
theorem dj68m10_5 : decode jdk_68_method_10_code 5 = .ok (.istore_n 2, 1) := by decide +kernel
theorem dj68m10_6 : decode jdk_68_method_10_code 6 = .ok (.iload_n 1, 1) := by decide +kernel
theorem dj68m10_7 : decode jdk_68_method_10_code 7 = .ok (.aload_n 0, 1) := by decide +kernel
theorem dj68m10_8 : decode jdk_68_method_10_code 8 = .ok (.getfield 22, 3) := by decide +kernel
theorem dj68m10_11 : decode jdk_68_method_10_code 11 = .ok (.ishl, 1) := by decide +kernel
theorem dj68m10_12 : decode jdk_68_method_10_code 12 = .ok (.istore_n 3, 1) := by decide +kernel
theorem dj68m10_13 : decode jdk_68_method_10_code 13 = .ok (.iload_n 3, 1) := by decide +kernel
theorem dj68m10_14 : decode jdk_68_method_10_code 14 = .ok (.iload_n 2, 1) := by decide +kernel
theorem dj68m10_15 : decode jdk_68_method_10_code 15 = .ok (.isub, 1) := by decide +kernel
theorem dj68m10_16 : decode jdk_68_method_10_code 16 = .ok (.istore 4, 2) := by decide +kernel
theorem dj68m10_18 : decode jdk_68_method_10_code 18 = .ok (.iload_n 2, 1) := by decide +kernel
theorem dj68m10_19 : decode jdk_68_method_10_code 19 = .ok (.iload 4, 2) := by decide +kernel
theorem dj68m10_21 : decode jdk_68_method_10_code 21 = .ok (.iload_n 2, 1) := by decide +kernel
theorem dj68m10_22 : decode jdk_68_method_10_code 22 = .ok (.iconst 2, 1) := by decide +kernel
theorem dj68m10_23 : decode jdk_68_method_10_code 23 = .ok (.aload_n 0, 1) := by decide +kernel
theorem dj68m10_24 : decode jdk_68_method_10_code 24 = .ok (.getfield 22, 3) := by decide +kernel
theorem dj68m10_27 : decode jdk_68_method_10_code 27 = .ok (.ishl, 1) := by decide +kernel
theorem dj68m10_28 : decode jdk_68_method_10_code 28 = .ok (.iadd, 1) := by decide +kernel
theorem dj68m10_29 : decode jdk_68_method_10_code 29 = .ok (.invokestatic 114, 3) := by decide +kernel
theorem dj68m10_32 : decode jdk_68_method_10_code 32 = .ok (.istore 5, 2) := by decide +kernel
theorem dj68m10_34 : decode jdk_68_method_10_code 34 = .ok (.iload 5, 2) := by decide +kernel
theorem dj68m10_36 : decode jdk_68_method_10_code 36 = .ok (.ldc 39, 2) := by decide +kernel
theorem dj68m10_38 : decode jdk_68_method_10_code 38 = .ok (.if_icmp .ne 13, 3) := by decide +kernel
theorem dj68m10_51 : decode jdk_68_method_10_code 51 = .ok (.iload 5, 2) := by decide +kernel
theorem dj68m10_53 : decode jdk_68_method_10_code 53 = .ok (.aload_n 0, 1) := by decide +kernel
theorem dj68m10_54 : decode jdk_68_method_10_code 54 = .ok (.getfield 22, 3) := by decide +kernel
theorem dj68m10_57 : decode jdk_68_method_10_code 57 = .ok (.ishr, 1) := by decide +kernel
theorem dj68m10_58 : decode jdk_68_method_10_code 58 = .ok (.ireturn, 1) := by decide +kernel
theorem pd13 : parseMethodDescriptor "(III)I" = some ⟨[.int, .int, .int], some .int⟩ := by decide +kernel
theorem ef_RI_6 (m : MethodId) (x0 : Addr) (x1 : Int32) : entryFrame m #[(.ref x0), (.int x1)] 6 = mkF m 0 #[.val (.ref x0), .val (.int x1), .unset, .unset, .unset, .unset] [] := by first | (simp [entryFrame, mkF, argsToLocals, Value.category]; done) | rfl
theorem dj65m121_0 : decode jdk_65_method_121_code 0 = .ok (.iload_n 1, 1) := by decide +kernel
theorem dj65m121_1 : decode jdk_65_method_121_code 1 = .ok (.aload_n 0, 1) := by decide +kernel
theorem dj65m121_2 : decode jdk_65_method_121_code 2 = .ok (.arraylength, 1) := by decide +kernel
theorem dj65m121_3 : decode jdk_65_method_121_code 3 = .ok (.if_icmp .ne 11, 3) := by decide +kernel
theorem dj65m121_14 : decode jdk_65_method_121_code 14 = .ok (.iload_n 1, 1) := by decide +kernel
theorem dj65m121_15 : decode jdk_65_method_121_code 15 = .ok (.newarray .byte, 2) := by decide +kernel
theorem dj65m121_17 : decode jdk_65_method_121_code 17 = .ok (.astore_n 2, 1) := by decide +kernel
theorem dj65m121_18 : decode jdk_65_method_121_code 18 = .ok (.aload_n 0, 1) := by decide +kernel
theorem dj65m121_19 : decode jdk_65_method_121_code 19 = .ok (.iconst 0, 1) := by decide +kernel
theorem dj65m121_20 : decode jdk_65_method_121_code 20 = .ok (.aload_n 2, 1) := by decide +kernel
theorem dj65m121_21 : decode jdk_65_method_121_code 21 = .ok (.iconst 0, 1) := by decide +kernel
theorem dj65m121_22 : decode jdk_65_method_121_code 22 = .ok (.aload_n 0, 1) := by decide +kernel
theorem dj65m121_23 : decode jdk_65_method_121_code 23 = .ok (.arraylength, 1) := by decide +kernel
theorem dj65m121_24 : decode jdk_65_method_121_code 24 = .ok (.iload_n 1, 1) := by decide +kernel
theorem dj65m121_25 : decode jdk_65_method_121_code 25 = .ok (.invokestatic 304, 3) := by decide +kernel
theorem dj65m121_28 : decode jdk_65_method_121_code 28 = .ok (.invokestatic 150, 3) := by decide +kernel
theorem dj65m121_31 : decode jdk_65_method_121_code 31 = .ok (.aload_n 2, 1) := by decide +kernel
theorem dj65m121_32 : decode jdk_65_method_121_code 32 = .ok (.areturn, 1) := by decide +kernel
theorem pn_java_util_Arrays : plainName "java/util/Arrays" = true := by first | (simp [plainName, overriddenIn]; done) | decide +kernel
theorem ef_RI_3 (m : MethodId) (x0 : Addr) (x1 : Int32) : entryFrame m #[(.ref x0), (.int x1)] 3 = mkF m 0 #[.val (.ref x0), .val (.int x1), .unset] [] := by first | (simp [entryFrame, mkF, argsToLocals, Value.category]; done) | rfl
theorem dj68m9_0 : decode jdk_68_method_9_code 0 = .ok (.aload_n 0, 1) := by decide +kernel
theorem dj68m9_1 : decode jdk_68_method_9_code 1 = .ok (.getfield 15, 3) := by decide +kernel
theorem dj68m9_4 : decode jdk_68_method_9_code 4 = .ok (.arraylength, 1) := by decide +kernel
theorem dj68m9_5 : decode jdk_68_method_9_code 5 = .ok (.aload_n 0, 1) := by decide +kernel
theorem dj68m9_6 : decode jdk_68_method_9_code 6 = .ok (.getfield 22, 3) := by decide +kernel
theorem dj68m9_9 : decode jdk_68_method_9_code 9 = .ok (.ishr, 1) := by decide +kernel
theorem dj68m9_10 : decode jdk_68_method_9_code 10 = .ok (.istore_n 2, 1) := by decide +kernel
theorem dj68m9_11 : decode jdk_68_method_9_code 11 = .ok (.iload_n 1, 1) := by decide +kernel
theorem dj68m9_12 : decode jdk_68_method_9_code 12 = .ok (.iload_n 2, 1) := by decide +kernel
theorem dj68m9_13 : decode jdk_68_method_9_code 13 = .ok (.isub, 1) := by decide +kernel
theorem dj68m9_14 : decode jdk_68_method_9_code 14 = .ok (.ifCond .le 24, 3) := by decide +kernel
theorem dj68m9_17 : decode jdk_68_method_9_code 17 = .ok (.aload_n 0, 1) := by decide +kernel
theorem dj68m9_18 : decode jdk_68_method_9_code 18 = .ok (.aload_n 0, 1) := by decide +kernel
theorem dj68m9_19 : decode jdk_68_method_9_code 19 = .ok (.getfield 15, 3) := by decide +kernel
theorem dj68m9_22 : decode jdk_68_method_9_code 22 = .ok (.aload_n 0, 1) := by decide +kernel
theorem dj68m9_23 : decode jdk_68_method_9_code 23 = .ok (.iload_n 1, 1) := by decide +kernel
theorem dj68m9_24 : decode jdk_68_method_9_code 24 = .ok (.invokevirtual 104, 3) := by decide +kernel
theorem dj68m9_27 : decode jdk_68_method_9_code 27 = .ok (.aload_n 0, 1) := by decide +kernel
theorem dj68m9_28 : decode jdk_68_method_9_code 28 = .ok (.getfield 22, 3) := by decide +kernel
theorem dj68m9_31 : decode jdk_68_method_9_code 31 = .ok (.ishl, 1) := by decide +kernel
theorem dj68m9_32 : decode jdk_68_method_9_code 32 = .ok (.invokestatic 108, 3) := by decide +kernel
theorem dj68m9_35 : decode jdk_68_method_9_code 35 = .ok (.putfield 15, 3) := by decide +kernel
theorem dj68m9_38 : decode jdk_68_method_9_code 38 = .ok (.return_, 1) := by decide +kernel
theorem pd14 : parseMethodDescriptor "([BI)[B" = some ⟨[(.array .byte), .int], some (.array .byte)⟩ := by decide +kernel
theorem dj68m71_0 : decode jdk_68_method_71_code 0 = .ok (.getstatic 18, 3) := by decide +kernel
theorem dj68m71_3 : decode jdk_68_method_71_code 3 = .ok (.ifCond .eq 18, 3) := by decide +kernel
theorem dj68m71_6 : decode jdk_68_method_71_code 6 = .ok (.aload_n 0, 1) := by decide +kernel
theorem dj68m71_7 : decode jdk_68_method_71_code 7 = .ok (.getfield 22, 3) := by decide +kernel
theorem dj68m71_10 : decode jdk_68_method_71_code 10 = .ok (.aload_n 1, 1) := by decide +kernel
theorem dj68m71_11 : decode jdk_68_method_71_code 11 = .ok (.invokevirtual 40, 3) := by decide +kernel
theorem dj68m71_14 : decode jdk_68_method_71_code 14 = .ok (.if_icmp .eq 7, 3) := by decide +kernel
theorem dj68m71_21 : decode jdk_68_method_71_code 21 = .ok (.return_, 1) := by decide +kernel
theorem ef_RR_2 (m : MethodId) (x0 : Addr) (x1 : Addr) : entryFrame m #[(.ref x0), (.ref x1)] 2 = mkF m 0 #[.val (.ref x0), .val (.ref x1)] [] := by first | (simp [entryFrame, mkF, argsToLocals, Value.category]; done) | rfl
theorem dj42m147_0 : decode jdk_42_method_147_code 0 = .ok (.aload_n 0, 1) := by decide +kernel
theorem dj42m147_1 : decode jdk_42_method_147_code 1 = .ok (.invokevirtual 335, 3) := by decide +kernel
theorem dj42m147_4 : decode jdk_42_method_147_code 4 = .ok (.iload_n 3, 1) := by decide +kernel
theorem dj42m147_5 : decode jdk_42_method_147_code 5 = .ok (.if_icmp .ne 23, 3) := by decide +kernel
theorem dj42m147_8 : decode jdk_42_method_147_code 8 = .ok (.aload_n 0, 1) := by decide +kernel
theorem dj42m147_9 : decode jdk_42_method_147_code 9 = .ok (.getfield 9, 3) := by decide +kernel
theorem dj42m147_12 : decode jdk_42_method_147_code 12 = .ok (.iconst 0, 1) := by decide +kernel
theorem dj42m147_13 : decode jdk_42_method_147_code 13 = .ok (.aload_n 1, 1) := by decide +kernel
theorem dj42m147_14 : decode jdk_42_method_147_code 14 = .ok (.iload_n 2, 1) := by decide +kernel
theorem dj42m147_15 : decode jdk_42_method_147_code 15 = .ok (.iload_n 3, 1) := by decide +kernel
theorem dj42m147_16 : decode jdk_42_method_147_code 16 = .ok (.ishl, 1) := by decide +kernel
theorem dj42m147_17 : decode jdk_42_method_147_code 17 = .ok (.aload_n 0, 1) := by decide +kernel
theorem dj42m147_18 : decode jdk_42_method_147_code 18 = .ok (.getfield 9, 3) := by decide +kernel
theorem dj42m147_21 : decode jdk_42_method_147_code 21 = .ok (.arraylength, 1) := by decide +kernel
theorem dj42m147_22 : decode jdk_42_method_147_code 22 = .ok (.invokestatic 212, 3) := by decide +kernel
theorem dj42m147_25 : decode jdk_42_method_147_code 25 = .ok (.goto 18, 3) := by decide +kernel
theorem dj42m147_43 : decode jdk_42_method_147_code 43 = .ok (.return_, 1) := by decide +kernel
theorem ef_RRII_4 (m : MethodId) (x0 : Addr) (x1 : Addr) (x2 : Int32) (x3 : Int32) : entryFrame m #[(.ref x0), (.ref x1), (.int x2), (.int x3)] 4 = mkF m 0 #[.val (.ref x0), .val (.ref x1), .val (.int x2), .val (.int x3)] [] := by first | (simp [entryFrame, mkF, argsToLocals, Value.category]; done) | rfl
theorem dj68m73_0 : decode jdk_68_method_73_code 0 = .ok (.aload_n 0, 1) := by decide +kernel
theorem dj68m73_1 : decode jdk_68_method_73_code 1 = .ok (.aload_n 2, 1) := by decide +kernel
theorem dj68m73_2 : decode jdk_68_method_73_code 2 = .ok (.invokevirtual 397, 3) := by decide +kernel
theorem dj68m73_5 : decode jdk_68_method_73_code 5 = .ok (.aload_n 2, 1) := by decide +kernel
theorem dj68m73_6 : decode jdk_68_method_73_code 6 = .ok (.aload_n 0, 1) := by decide +kernel
theorem dj68m73_7 : decode jdk_68_method_73_code 7 = .ok (.getfield 15, 3) := by decide +kernel
theorem dj68m73_10 : decode jdk_68_method_73_code 10 = .ok (.iload_n 1, 1) := by decide +kernel
theorem dj68m73_11 : decode jdk_68_method_73_code 11 = .ok (.aload_n 0, 1) := by decide +kernel
theorem dj68m73_12 : decode jdk_68_method_73_code 12 = .ok (.getfield 22, 3) := by decide +kernel
theorem dj68m73_15 : decode jdk_68_method_73_code 15 = .ok (.invokevirtual 399, 3) := by decide +kernel
theorem dj68m73_18 : decode jdk_68_method_73_code 18 = .ok (.return_, 1) := by decide +kernel
theorem pd15 : parseMethodDescriptor "(Ljava/lang/String;)V" = some ⟨[(.object "java/lang/String")], none⟩ := by decide +kernel
theorem pd16 : parseMethodDescriptor "([BIB)V" = some ⟨[(.array .byte), .int, .byte], none⟩ := by decide +kernel
theorem ef_RIR_3 (m : MethodId) (x0 : Addr) (x1 : Int32) (x2 : Addr) : entryFrame m #[(.ref x0), (.int x1), (.ref x2)] 3 = mkF m 0 #[.val (.ref x0), .val (.int x1), .val (.ref x2)] [] := by first | (simp [entryFrame, mkF, argsToLocals, Value.category]; done) | rfl
theorem dj68m22_0 : decode jdk_68_method_22_code 0 = .ok (.aload_n 1, 1) := by decide +kernel
theorem dj68m22_1 : decode jdk_68_method_22_code 1 = .ok (.ifnonnull 8, 3) := by decide +kernel
theorem dj68m22_9 : decode jdk_68_method_22_code 9 = .ok (.aload_n 1, 1) := by decide +kernel
theorem dj68m22_10 : decode jdk_68_method_22_code 10 = .ok (.invokevirtual 32, 3) := by decide +kernel
theorem dj68m22_13 : decode jdk_68_method_22_code 13 = .ok (.istore_n 2, 1) := by decide +kernel
theorem dj68m22_14 : decode jdk_68_method_22_code 14 = .ok (.aload_n 0, 1) := by decide +kernel
theorem dj68m22_15 : decode jdk_68_method_22_code 15 = .ok (.aload_n 0, 1) := by decide +kernel
theorem dj68m22_16 : decode jdk_68_method_22_code 16 = .ok (.getfield 79, 3) := by decide +kernel
theorem dj68m22_19 : decode jdk_68_method_22_code 19 = .ok (.iload_n 2, 1) := by decide +kernel
theorem dj68m22_20 : decode jdk_68_method_22_code 20 = .ok (.iadd, 1) := by decide +kernel
theorem dj68m22_21 : decode jdk_68_method_22_code 21 = .ok (.invokevirtual 100, 3) := by decide +kernel
theorem dj68m22_24 : decode jdk_68_method_22_code 24 = .ok (.aload_n 0, 1) := by decide +kernel
theorem dj68m22_25 : decode jdk_68_method_22_code 25 = .ok (.aload_n 0, 1) := by decide +kernel
theorem dj68m22_26 : decode jdk_68_method_22_code 26 = .ok (.getfield 79, 3) := by decide +kernel
theorem dj68m22_29 : decode jdk_68_method_22_code 29 = .ok (.aload_n 1, 1) := by decide +kernel
theorem dj68m22_30 : decode jdk_68_method_22_code 30 = .ok (.invokevirtual 208, 3) := by decide +kernel
theorem dj68m22_33 : decode jdk_68_method_22_code 33 = .ok (.aload_n 0, 1) := by decide +kernel
theorem dj68m22_34 : decode jdk_68_method_22_code 34 = .ok (.dup, 1) := by decide +kernel
theorem dj68m22_35 : decode jdk_68_method_22_code 35 = .ok (.getfield 79, 3) := by decide +kernel
theorem dj68m22_38 : decode jdk_68_method_22_code 38 = .ok (.iload_n 2, 1) := by decide +kernel
theorem dj68m22_39 : decode jdk_68_method_22_code 39 = .ok (.iadd, 1) := by decide +kernel
theorem dj68m22_40 : decode jdk_68_method_22_code 40 = .ok (.putfield 79, 3) := by decide +kernel
theorem dj68m22_43 : decode jdk_68_method_22_code 43 = .ok (.aload_n 0, 1) := by decide +kernel
theorem dj68m22_44 : decode jdk_68_method_22_code 44 = .ok (.areturn, 1) := by decide +kernel
theorem pd17 : parseMethodDescriptor "(ILjava/lang/String;)V" = some ⟨[.int, (.object "java/lang/String")], none⟩ := by decide +kernel
theorem ef_RR_3 (m : MethodId) (x0 : Addr) (x1 : Addr) : entryFrame m #[(.ref x0), (.ref x1)] 3 = mkF m 0 #[.val (.ref x0), .val (.ref x1), .unset] [] := by first | (simp [entryFrame, mkF, argsToLocals, Value.category]; done) | rfl
theorem dj67m7_0 : decode jdk_67_method_7_code 0 = .ok (.aload_n 0, 1) := by decide +kernel
theorem dj67m7_1 : decode jdk_67_method_7_code 1 = .ok (.aload_n 1, 1) := by decide +kernel
theorem dj67m7_2 : decode jdk_67_method_7_code 2 = .ok (.invokespecial 29, 3) := by decide +kernel
theorem dj67m7_5 : decode jdk_67_method_7_code 5 = .ok (.pop, 1) := by decide +kernel
theorem dj67m7_6 : decode jdk_67_method_7_code 6 = .ok (.aload_n 0, 1) := by decide +kernel
theorem dj67m7_7 : decode jdk_67_method_7_code 7 = .ok (.areturn, 1) := by decide +kernel
theorem pd18 : parseMethodDescriptor "(Ljava/lang/String;)Ljava/lang/AbstractStringBuilder;" = some ⟨[(.object "java/lang/String")], some (.object "java/lang/AbstractStringBuilder")⟩ := by decide +kernel
theorem dj68m68_0 : decode jdk_68_method_68_code 0 = .ok (.getstatic 18, 3) := by decide +kernel
theorem dj68m68_3 : decode jdk_68_method_68_code 3 = .ok (.ifCond .eq 14, 3) := by decide +kernel
theorem dj68m68_6 : decode jdk_68_method_68_code 6 = .ok (.aload_n 0, 1) := by decide +kernel
theorem dj68m68_7 : decode jdk_68_method_68_code 7 = .ok (.getfield 22, 3) := by decide +kernel
theorem dj68m68_10 : decode jdk_68_method_68_code 10 = .ok (.ifCond .ne 7, 3) := by decide +kernel
theorem dj68m68_13 : decode jdk_68_method_68_code 13 = .ok (.iconst 1, 1) := by decide +kernel
theorem dj68m68_14 : decode jdk_68_method_68_code 14 = .ok (.goto 4, 3) := by decide +kernel
theorem dj68m68_18 : decode jdk_68_method_68_code 18 = .ok (.ireturn, 1) := by decide +kernel
theorem dj52m3_0 : decode jdk_52_method_3_code 0 = .ok (.iload_n 0, 1) := by decide +kernel
theorem dj52m3_1 : decode jdk_52_method_3_code 1 = .ok (.ifCond .ge 11, 3) := by decide +kernel
theorem dj52m3_12 : decode jdk_52_method_3_code 12 = .ok (.iload_n 0, 1) := by decide +kernel
theorem dj52m3_13 : decode jdk_52_method_3_code 13 = .ok (.ldc 20, 2) := by decide +kernel
theorem dj52m3_15 : decode jdk_52_method_3_code 15 = .ok (.if_icmp .lt 40, 3) := by decide +kernel
theorem dj52m3_55 : decode jdk_52_method_3_code 55 = .ok (.iload_n 0, 1) := by decide +kernel
theorem dj52m3_56 : decode jdk_52_method_3_code 56 = .ok (.iconst 1, 1) := by decide +kernel
theorem dj52m3_57 : decode jdk_52_method_3_code 57 = .ok (.ishl, 1) := by decide +kernel
theorem dj52m3_58 : decode jdk_52_method_3_code 58 = .ok (.ireturn, 1) := by decide +kernel
theorem dj52m2_0 : decode jdk_52_method_2_code 0 = .ok (.iload_n 0, 1) := by decide +kernel
theorem dj52m2_1 : decode jdk_52_method_2_code 1 = .ok (.invokestatic 11, 3) := by decide +kernel
theorem dj52m2_4 : decode jdk_52_method_2_code 4 = .ok (.newarray .byte, 2) := by decide +kernel
theorem dj52m2_6 : decode jdk_52_method_2_code 6 = .ok (.areturn, 1) := by decide +kernel
theorem dj41m13_0 : decode jdk_41_method_13_code 0 = .ok (.iload_n 2, 1) := by decide +kernel
theorem dj41m13_1 : decode jdk_41_method_13_code 1 = .ok (.iload_n 0, 1) := by decide +kernel
theorem dj41m13_2 : decode jdk_41_method_13_code 2 = .ok (.ior, 1) := by decide +kernel
theorem dj41m13_3 : decode jdk_41_method_13_code 3 = .ok (.iload_n 1, 1) := by decide +kernel
theorem dj41m13_4 : decode jdk_41_method_13_code 4 = .ok (.ior, 1) := by decide +kernel
theorem dj41m13_5 : decode jdk_41_method_13_code 5 = .ok (.ifCond .lt 10, 3) := by decide +kernel
theorem dj41m13_8 : decode jdk_41_method_13_code 8 = .ok (.iload_n 1, 1) := by decide +kernel
theorem dj41m13_9 : decode jdk_41_method_13_code 9 = .ok (.iload_n 2, 1) := by decide +kernel
theorem dj41m13_10 : decode jdk_41_method_13_code 10 = .ok (.iload_n 0, 1) := by decide +kernel
theorem dj41m13_11 : decode jdk_41_method_13_code 11 = .ok (.isub, 1) := by decide +kernel
theorem dj41m13_12 : decode jdk_41_method_13_code 12 = .ok (.if_icmp .le 11, 3) := by decide +kernel
theorem dj41m13_23 : decode jdk_41_method_13_code 23 = .ok (.iload_n 0, 1) := by decide +kernel
theorem dj41m13_24 : decode jdk_41_method_13_code 24 = .ok (.ireturn, 1) := by decide +kernel
theorem dj42m157_0 : decode jdk_42_method_157_code 0 = .ok (.iload_n 0, 1) := by decide +kernel
theorem dj42m157_1 : decode jdk_42_method_157_code 1 = .ok (.iload_n 1, 1) := by decide +kernel
theorem dj42m157_2 : decode jdk_42_method_157_code 2 = .ok (.iload_n 2, 1) := by decide +kernel
theorem dj42m157_3 : decode jdk_42_method_157_code 3 = .ok (.getstatic 1053, 3) := by decide +kernel
theorem dj42m157_6 : decode jdk_42_method_157_code 6 = .ok (.invokestatic 1065, 3) := by decide +kernel
theorem dj42m157_9 : decode jdk_42_method_157_code 9 = .ok (.ireturn, 1) := by decide +kernel
theorem dj52m94_0 : decode jdk_52_method_94_code 0 = .ok (.iload_n 0, 1) := by decide +kernel
theorem dj52m94_1 : decode jdk_52_method_94_code 1 = .ok (.iload_n 1, 1) := by decide +kernel
theorem dj52m94_2 : decode jdk_52_method_94_code 2 = .ok (.aload_n 2, 1) := by decide +kernel
theorem dj52m94_3 : decode jdk_52_method_94_code 3 = .ok (.invokestatic 48, 3) := by decide +kernel
theorem dj52m94_6 : decode jdk_52_method_94_code 6 = .ok (.invokestatic 419, 3) := by decide +kernel
theorem dj52m94_9 : decode jdk_52_method_94_code 9 = .ok (.pop, 1) := by decide +kernel
theorem dj52m94_10 : decode jdk_52_method_94_code 10 = .ok (.return_, 1) := by decide +kernel
theorem dj52m4_0 : decode jdk_52_method_4_code 0 = .ok (.getstatic 44, 3) := by decide +kernel
theorem dj52m4_3 : decode jdk_52_method_4_code 3 = .ok (.ifCond .ne 25, 3) := by decide +kernel
theorem dj52m4_28 : decode jdk_52_method_4_code 28 = .ok (.iload_n 1, 1) := by decide +kernel
theorem dj52m4_29 : decode jdk_52_method_4_code 29 = .ok (.iconst 1, 1) := by decide +kernel
theorem dj52m4_30 : decode jdk_52_method_4_code 30 = .ok (.ishl, 1) := by decide +kernel
theorem dj52m4_31 : decode jdk_52_method_4_code 31 = .ok (.istore_n 1, 1) := by decide +kernel
theorem dj52m4_32 : decode jdk_52_method_4_code 32 = .ok (.aload_n 0, 1) := by decide +kernel
theorem dj52m4_33 : decode jdk_52_method_4_code 33 = .ok (.iload_n 1, 1) := by decide +kernel
theorem dj52m4_34 : decode jdk_52_method_4_code 34 = .ok (.iinc 1 1, 3) := by decide +kernel
theorem dj52m4_37 : decode jdk_52_method_4_code 37 = .ok (.iload_n 2, 1) := by decide +kernel
theorem dj52m4_38 : decode jdk_52_method_4_code 38 = .ok (.getstatic 59, 3) := by decide +kernel
theorem dj52m4_41 : decode jdk_52_method_4_code 41 = .ok (.ishr, 1) := by decide +kernel
theorem dj52m4_42 : decode jdk_52_method_4_code 42 = .ok (.i2b, 1) := by decide +kernel
theorem dj52m4_43 : decode jdk_52_method_4_code 43 = .ok (.bastore, 1) := by decide +kernel
theorem dj52m4_44 : decode jdk_52_method_4_code 44 = .ok (.aload_n 0, 1) := by decide +kernel
theorem dj52m4_45 : decode jdk_52_method_4_code 45 = .ok (.iload_n 1, 1) := by decide +kernel
theorem dj52m4_46 : decode jdk_52_method_4_code 46 = .ok (.iload_n 2, 1) := by decide +kernel
theorem dj52m4_47 : decode jdk_52_method_4_code 47 = .ok (.getstatic 63, 3) := by decide +kernel
theorem dj52m4_50 : decode jdk_52_method_4_code 50 = .ok (.ishr, 1) := by decide +kernel
theorem dj52m4_51 : decode jdk_52_method_4_code 51 = .ok (.i2b, 1) := by decide +kernel
theorem dj52m4_52 : decode jdk_52_method_4_code 52 = .ok (.bastore, 1) := by decide +kernel
theorem dj52m4_53 : decode jdk_52_method_4_code 53 = .ok (.return_, 1) := by decide +kernel
theorem dj52m86_0 : decode jdk_52_method_86_code 0 = .ok (.iload_n 3, 1) := by decide +kernel
theorem dj52m86_1 : decode jdk_52_method_86_code 1 = .ok (.iload 4, 2) := by decide +kernel
theorem dj52m86_3 : decode jdk_52_method_86_code 3 = .ok (.aload_n 2, 1) := by decide +kernel
theorem dj52m86_4 : decode jdk_52_method_86_code 4 = .ok (.invokestatic 173, 3) := by decide +kernel
theorem dj52m86_7 : decode jdk_52_method_86_code 7 = .ok (.iconst 0, 1) := by decide +kernel
theorem dj52m86_8 : decode jdk_52_method_86_code 8 = .ok (.istore 5, 2) := by decide +kernel
theorem dj52m86_10 : decode jdk_52_method_86_code 10 = .ok (.iload 5, 2) := by decide +kernel
theorem dj52m86_12 : decode jdk_52_method_86_code 12 = .ok (.iload 4, 2) := by decide +kernel
theorem dj52m86_14 : decode jdk_52_method_86_code 14 = .ok (.if_icmp .ge 27, 3) := by decide +kernel
theorem dj52m86_17 : decode jdk_52_method_86_code 17 = .ok (.aload_n 2, 1) := by decide +kernel
theorem dj52m86_18 : decode jdk_52_method_86_code 18 = .ok (.iload_n 3, 1) := by decide +kernel
theorem dj52m86_19 : decode jdk_52_method_86_code 19 = .ok (.iinc 3 1, 3) := by decide +kernel
theorem dj52m86_22 : decode jdk_52_method_86_code 22 = .ok (.aload_n 0, 1) := by decide +kernel
theorem dj52m86_23 : decode jdk_52_method_86_code 23 = .ok (.iload_n 1, 1) := by decide +kernel
theorem dj52m86_24 : decode jdk_52_method_86_code 24 = .ok (.iinc 1 1, 3) := by decide +kernel
theorem dj52m86_27 : decode jdk_52_method_86_code 27 = .ok (.baload, 1) := by decide +kernel
theorem dj52m86_28 : decode jdk_52_method_86_code 28 = .ok (.sipush 255, 3) := by decide +kernel
theorem dj52m86_31 : decode jdk_52_method_86_code 31 = .ok (.iand, 1) := by decide +kernel
theorem dj52m86_32 : decode jdk_52_method_86_code 32 = .ok (.invokestatic 111, 3) := by decide +kernel
theorem dj52m86_35 : decode jdk_52_method_86_code 35 = .ok (.iinc 5 1, 3) := by decide +kernel
theorem dj52m86_38 : decode jdk_52_method_86_code 38 = .ok (.goto (-28), 3) := by decide +kernel
theorem dj52m86_41 : decode jdk_52_method_86_code 41 = .ok (.return_, 1) := by decide +kernel
theorem pd19 : parseMethodDescriptor "([BII)V" = some ⟨[(.array .byte), .int, .int], none⟩ := by decide +kernel
theorem ef_RIRII_6 (m : MethodId) (x0 : Addr) (x1 : Int32) (x2 : Addr) (x3 : Int32) (x4 : Int32) : entryFrame m #[(.ref x0), (.int x1), (.ref x2), (.int x3), (.int x4)] 6 = mkF m 0 #[.val (.ref x0), .val (.int x1), .val (.ref x2), .val (.int x3), .val (.int x4), .unset] [] := by first | (simp [entryFrame, mkF, argsToLocals, Value.category]; done) | rfl
theorem dj43m50_0 : decode jdk_43_method_50_code 0 = .ok (.aload_n 0, 1) := by decide +kernel
theorem dj43m50_1 : decode jdk_43_method_50_code 1 = .ok (.iload_n 1, 1) := by decide +kernel
theorem dj43m50_2 : decode jdk_43_method_50_code 2 = .ok (.aload_n 2, 1) := by decide +kernel
theorem dj43m50_3 : decode jdk_43_method_50_code 3 = .ok (.iload_n 3, 1) := by decide +kernel
theorem dj43m50_4 : decode jdk_43_method_50_code 4 = .ok (.iload 4, 2) := by decide +kernel
theorem dj43m50_6 : decode jdk_43_method_50_code 6 = .ok (.invokestatic 240, 3) := by decide +kernel
theorem dj43m50_9 : decode jdk_43_method_50_code 9 = .ok (.return_, 1) := by decide +kernel
theorem pd20 : parseMethodDescriptor "([BI[BII)V" = some ⟨[(.array .byte), .int, (.array .byte), .int, .int], none⟩ := by decide +kernel
theorem ef_RIRII_5 (m : MethodId) (x0 : Addr) (x1 : Int32) (x2 : Addr) (x3 : Int32) (x4 : Int32) : entryFrame m #[(.ref x0), (.int x1), (.ref x2), (.int x3), (.int x4)] 5 = mkF m 0 #[.val (.ref x0), .val (.int x1), .val (.ref x2), .val (.int x3), .val (.int x4)] [] := by first | (simp [entryFrame, mkF, argsToLocals, Value.category]; done) | rfl
theorem dj68m11_0 : decode jdk_68_method_11_code 0 = .ok (.aload_n 0, 1) := by decide +kernel
theorem dj68m11_1 : decode jdk_68_method_11_code 1 = .ok (.invokevirtual 83, 3) := by decide +kernel
theorem dj68m11_4 : decode jdk_68_method_11_code 4 = .ok (.ifCond .ne 4, 3) := by decide +kernel
theorem dj68m11_8 : decode jdk_68_method_11_code 8 = .ok (.aload_n 0, 1) := by decide +kernel
theorem dj68m11_9 : decode jdk_68_method_11_code 9 = .ok (.getfield 15, 3) := by decide +kernel
theorem dj68m11_12 : decode jdk_68_method_11_code 12 = .ok (.arraylength, 1) := by decide +kernel
theorem dj68m11_13 : decode jdk_68_method_11_code 13 = .ok (.invokestatic 26, 3) := by decide +kernel
theorem dj68m11_16 : decode jdk_68_method_11_code 16 = .ok (.astore_n 1, 1) := by decide +kernel
theorem dj68m11_17 : decode jdk_68_method_11_code 17 = .ok (.aload_n 0, 1) := by decide +kernel
theorem dj68m11_18 : decode jdk_68_method_11_code 18 = .ok (.getfield 15, 3) := by decide +kernel
theorem dj68m11_21 : decode jdk_68_method_11_code 21 = .ok (.iconst 0, 1) := by decide +kernel
theorem dj68m11_22 : decode jdk_68_method_11_code 22 = .ok (.aload_n 1, 1) := by decide +kernel
theorem dj68m11_23 : decode jdk_68_method_11_code 23 = .ok (.iconst 0, 1) := by decide +kernel
theorem dj68m11_24 : decode jdk_68_method_11_code 24 = .ok (.aload_n 0, 1) := by decide +kernel
theorem dj68m11_25 : decode jdk_68_method_11_code 25 = .ok (.getfield 79, 3) := by decide +kernel
theorem dj68m11_28 : decode jdk_68_method_11_code 28 = .ok (.invokestatic 125, 3) := by decide +kernel
theorem dj68m11_31 : decode jdk_68_method_11_code 31 = .ok (.aload_n 0, 1) := by decide +kernel
theorem dj68m11_32 : decode jdk_68_method_11_code 32 = .ok (.aload_n 1, 1) := by decide +kernel
theorem dj68m11_33 : decode jdk_68_method_11_code 33 = .ok (.putfield 15, 3) := by decide +kernel
theorem dj68m11_36 : decode jdk_68_method_11_code 36 = .ok (.aload_n 0, 1) := by decide +kernel
theorem dj68m11_37 : decode jdk_68_method_11_code 37 = .ok (.iconst 1, 1) := by decide +kernel
theorem dj68m11_38 : decode jdk_68_method_11_code 38 = .ok (.putfield 22, 3) := by decide +kernel
theorem dj68m11_41 : decode jdk_68_method_11_code 41 = .ok (.return_, 1) := by decide +kernel
theorem pd21 : parseMethodDescriptor "(I)[B" = some ⟨[.int], some (.array .byte)⟩ := by decide +kernel
theorem ef_R_2 (m : MethodId) (x0 : Addr) : entryFrame m #[(.ref x0)] 2 = mkF m 0 #[.val (.ref x0), .unset] [] := by first | (simp [entryFrame, mkF, argsToLocals, Value.category]; done) | rfl
theorem dj68m71_17 : decode jdk_68_method_71_code 17 = .ok (.aload_n 0, 1) := by decide +kernel
theorem dj68m71_18 : decode jdk_68_method_71_code 18 = .ok (.invokevirtual 195, 3) := by decide +kernel
theorem pd22 : parseMethodDescriptor "()V" = some ⟨[], none⟩ := by decide +kernel
theorem dj68m68_17 : decode jdk_68_method_68_code 17 = .ok (.iconst 0, 1) := by decide +kernel
theorem dj68m11_7 : decode jdk_68_method_11_code 7 = .ok (.return_, 1) := by decide +kernel
theorem dj42m147_28 : decode jdk_42_method_147_code 28 = .ok (.aload_n 0, 1) := by decide +kernel
theorem dj42m147_29 : decode jdk_42_method_147_code 29 = .ok (.getfield 9, 3) := by decide +kernel
theorem dj42m147_32 : decode jdk_42_method_147_code 32 = .ok (.iconst 0, 1) := by decide +kernel
theorem dj42m147_33 : decode jdk_42_method_147_code 33 = .ok (.aload_n 1, 1) := by decide +kernel
theorem dj42m147_34 : decode jdk_42_method_147_code 34 = .ok (.iload_n 2, 1) := by decide +kernel
theorem dj42m147_35 : decode jdk_42_method_147_code 35 = .ok (.aload_n 0, 1) := by decide +kernel
theorem dj42m147_36 : decode jdk_42_method_147_code 36 = .ok (.getfield 9, 3) := by decide +kernel
theorem dj42m147_39 : decode jdk_42_method_147_code 39 = .ok (.arraylength, 1) := by decide +kernel
theorem dj42m147_40 : decode jdk_42_method_147_code 40 = .ok (.invokestatic 106, 3) := by decide +kernel
theorem dj68m64_0 : decode jdk_68_method_64_code 0 = .ok (.aload_n 0, 1) := by decide +kernel
theorem dj68m64_1 : decode jdk_68_method_64_code 1 = .ok (.getfield 15, 3) := by decide +kernel
theorem dj68m64_4 : decode jdk_68_method_64_code 4 = .ok (.areturn, 1) := by decide +kernel
theorem dj68m6_0 : decode jdk_68_method_6_code 0 = .ok (.aload_n 0, 1) := by decide +kernel
theorem dj68m6_1 : decode jdk_68_method_6_code 1 = .ok (.getfield 79, 3) := by decide +kernel
theorem dj68m6_4 : decode jdk_68_method_6_code 4 = .ok (.ireturn, 1) := by decide +kernel
theorem dj67m93_0 : decode jdk_67_method_93_code 0 = .ok (.aload_n 0, 1) := by decide +kernel
theorem dj67m93_1 : decode jdk_67_method_93_code 1 = .ok (.invokespecial 343, 3) := by decide +kernel
theorem dj67m93_4 : decode jdk_67_method_93_code 4 = .ok (.ireturn, 1) := by decide +kernel
theorem dj65m131_0 : decode jdk_65_method_131_code 0 = .ok (.iload_n 1, 1) := by decide +kernel
theorem dj65m131_1 : decode jdk_65_method_131_code 1 = .ok (.iload_n 0, 1) := by decide +kernel
theorem dj65m131_2 : decode jdk_65_method_131_code 2 = .ok (.if_icmp .ge 35, 3) := by decide +kernel
theorem dj65m131_37 : decode jdk_65_method_131_code 37 = .ok (.return_, 1) := by decide +kernel
theorem dj65m133_0 : decode jdk_65_method_133_code 0 = .ok (.iload_n 1, 1) := by decide +kernel
theorem dj65m133_1 : decode jdk_65_method_133_code 1 = .ok (.iload_n 2, 1) := by decide +kernel
theorem dj65m133_2 : decode jdk_65_method_133_code 2 = .ok (.invokestatic 343, 3) := by decide +kernel
theorem dj65m133_5 : decode jdk_65_method_133_code 5 = .ok (.iload_n 2, 1) := by decide +kernel
theorem dj65m133_6 : decode jdk_65_method_133_code 6 = .ok (.iload_n 1, 1) := by decide +kernel
theorem dj65m133_7 : decode jdk_65_method_133_code 7 = .ok (.isub, 1) := by decide +kernel
theorem dj65m133_8 : decode jdk_65_method_133_code 8 = .ok (.istore_n 3, 1) := by decide +kernel
theorem dj65m133_9 : decode jdk_65_method_133_code 9 = .ok (.iload_n 3, 1) := by decide +kernel
theorem dj65m133_10 : decode jdk_65_method_133_code 10 = .ok (.newarray .byte, 2) := by decide +kernel
theorem dj65m133_12 : decode jdk_65_method_133_code 12 = .ok (.astore 4, 2) := by decide +kernel
theorem dj65m133_14 : decode jdk_65_method_133_code 14 = .ok (.aload_n 0, 1) := by decide +kernel
theorem dj65m133_15 : decode jdk_65_method_133_code 15 = .ok (.iload_n 1, 1) := by decide +kernel
theorem dj65m133_16 : decode jdk_65_method_133_code 16 = .ok (.aload 4, 2) := by decide +kernel
theorem dj65m133_18 : decode jdk_65_method_133_code 18 = .ok (.iconst 0, 1) := by decide +kernel
theorem dj65m133_19 : decode jdk_65_method_133_code 19 = .ok (.aload_n 0, 1) := by decide +kernel
theorem dj65m133_20 : decode jdk_65_method_133_code 20 = .ok (.arraylength, 1) := by decide +kernel
theorem dj65m133_21 : decode jdk_65_method_133_code 21 = .ok (.iload_n 1, 1) := by decide +kernel
theorem dj65m133_22 : decode jdk_65_method_133_code 22 = .ok (.isub, 1) := by decide +kernel
theorem dj65m133_23 : decode jdk_65_method_133_code 23 = .ok (.iload_n 3, 1) := by decide +kernel
theorem dj65m133_24 : decode jdk_65_method_133_code 24 = .ok (.invokestatic 304, 3) := by decide +kernel
theorem dj65m133_27 : decode jdk_65_method_133_code 27 = .ok (.invokestatic 150, 3) := by decide +kernel
theorem dj65m133_30 : decode jdk_65_method_133_code 30 = .ok (.aload 4, 2) := by decide +kernel
theorem dj65m133_32 : decode jdk_65_method_133_code 32 = .ok (.areturn, 1) := by decide +kernel
theorem pd23 : parseMethodDescriptor "(II)V" = some ⟨[.int, .int], none⟩ := by decide +kernel
theorem ef_RII_5 (m : MethodId) (x0 : Addr) (x1 : Int32) (x2 : Int32) : entryFrame m #[(.ref x0), (.int x1), (.int x2)] 5 = mkF m 0 #[.val (.ref x0), .val (.int x1), .val (.int x2), .unset, .unset] [] := by first | (simp [entryFrame, mkF, argsToLocals, Value.category]; done) | rfl
theorem dj65m132_0 : decode jdk_65_method_132_code 0 = .ok (.iload_n 1, 1) := by decide +kernel
theorem dj65m132_1 : decode jdk_65_method_132_code 1 = .ok (.ifCond .ne 9, 3) := by decide +kernel
theorem dj65m132_4 : decode jdk_65_method_132_code 4 = .ok (.iload_n 2, 1) := by decide +kernel
theorem dj65m132_5 : decode jdk_65_method_132_code 5 = .ok (.aload_n 0, 1) := by decide +kernel
theorem dj65m132_6 : decode jdk_65_method_132_code 6 = .ok (.arraylength, 1) := by decide +kernel
theorem dj65m132_7 : decode jdk_65_method_132_code 7 = .ok (.if_icmp .eq 10, 3) := by decide +kernel
theorem dj65m132_10 : decode jdk_65_method_132_code 10 = .ok (.aload_n 0, 1) := by decide +kernel
theorem dj65m132_11 : decode jdk_65_method_132_code 11 = .ok (.iload_n 1, 1) := by decide +kernel
theorem dj65m132_12 : decode jdk_65_method_132_code 12 = .ok (.iload_n 2, 1) := by decide +kernel
theorem dj65m132_13 : decode jdk_65_method_132_code 13 = .ok (.invokestatic 339, 3) := by decide +kernel
theorem dj65m132_16 : decode jdk_65_method_132_code 16 = .ok (.areturn, 1) := by decide +kernel
theorem pd24 : parseMethodDescriptor "([BII)[B" = some ⟨[(.array .byte), .int, .int], some (.array .byte)⟩ := by decide +kernel
theorem dj42m150_0 : decode jdk_42_method_150_code 0 = .ok (.aload_n 0, 1) := by decide +kernel
theorem dj42m150_1 : decode jdk_42_method_150_code 1 = .ok (.invokespecial 1, 3) := by decide +kernel
theorem dj42m150_4 : decode jdk_42_method_150_code 4 = .ok (.aload_n 1, 1) := by decide +kernel
theorem dj42m150_5 : decode jdk_42_method_150_code 5 = .ok (.invokevirtual 552, 3) := by decide +kernel
theorem dj42m150_8 : decode jdk_42_method_150_code 8 = .ok (.astore_n 3, 1) := by decide +kernel
theorem dj42m150_9 : decode jdk_42_method_150_code 9 = .ok (.aload_n 1, 1) := by decide +kernel
theorem dj42m150_10 : decode jdk_42_method_150_code 10 = .ok (.invokevirtual 549, 3) := by decide +kernel
theorem dj42m150_13 : decode jdk_42_method_150_code 13 = .ok (.istore 4, 2) := by decide +kernel
theorem dj42m150_15 : decode jdk_42_method_150_code 15 = .ok (.aload_n 1, 1) := by decide +kernel
theorem dj42m150_16 : decode jdk_42_method_150_code 16 = .ok (.invokevirtual 1047, 3) := by decide +kernel
theorem dj42m150_19 : decode jdk_42_method_150_code 19 = .ok (.ifCond .eq 22, 3) := by decide +kernel
theorem dj42m150_22 : decode jdk_42_method_150_code 22 = .ok (.aload_n 0, 1) := by decide +kernel
theorem dj42m150_23 : decode jdk_42_method_150_code 23 = .ok (.iconst 0, 1) := by decide +kernel
theorem dj42m150_24 : decode jdk_42_method_150_code 24 = .ok (.putfield 15, 3) := by decide +kernel
theorem dj42m150_27 : decode jdk_42_method_150_code 27 = .ok (.aload_n 0, 1) := by decide +kernel
theorem dj42m150_28 : decode jdk_42_method_150_code 28 = .ok (.aload_n 3, 1) := by decide +kernel
theorem dj42m150_29 : decode jdk_42_method_150_code 29 = .ok (.iconst 0, 1) := by decide +kernel
theorem dj42m150_30 : decode jdk_42_method_150_code 30 = .ok (.iload 4, 2) := by decide +kernel
theorem dj42m150_32 : decode jdk_42_method_150_code 32 = .ok (.invokestatic 54, 3) := by decide +kernel
theorem dj42m150_35 : decode jdk_42_method_150_code 35 = .ok (.putfield 9, 3) := by decide +kernel
theorem dj42m150_38 : decode jdk_42_method_150_code 38 = .ok (.goto 59, 3) := by decide +kernel
theorem dj42m150_97 : decode jdk_42_method_150_code 97 = .ok (.return_, 1) := by decide +kernel
theorem pd25 : parseMethodDescriptor "()[B" = some ⟨[], some (.array .byte)⟩ := by decide +kernel
theorem ef_RRN_5 (m : MethodId) (x0 : Addr) (x1 : Addr) : entryFrame m #[(.ref x0), (.ref x1), .null] 5 = mkF m 0 #[.val (.ref x0), .val (.ref x1), .val .null, .unset, .unset] [] := by first | (simp [entryFrame, mkF, argsToLocals, Value.category]; done) | rfl
theorem dj42m53_0 : decode jdk_42_method_53_code 0 = .ok (.aload_n 0, 1) := by decide +kernel
theorem dj42m53_1 : decode jdk_42_method_53_code 1 = .ok (.aload_n 1, 1) := by decide +kernel
theorem dj42m53_2 : decode jdk_42_method_53_code 2 = .ok (.aconst_null, 1) := by decide +kernel
theorem dj42m53_3 : decode jdk_42_method_53_code 3 = .ok (.invokespecial 489, 3) := by decide +kernel
theorem dj42m53_6 : decode jdk_42_method_53_code 6 = .ok (.return_, 1) := by decide +kernel
theorem pd26 : parseMethodDescriptor "(Ljava/lang/AbstractStringBuilder;Ljava/lang/Void;)V" = some ⟨[(.object "java/lang/AbstractStringBuilder"), (.object "java/lang/Void")], none⟩ := by decide +kernel
theorem dj67m42_0 : decode jdk_67_method_42_code 0 = .ok (.new 18, 3) := by decide +kernel
theorem dj67m42_3 : decode jdk_67_method_42_code 3 = .ok (.dup, 1) := by decide +kernel
theorem dj67m42_4 : decode jdk_67_method_42_code 4 = .ok (.aload_n 0, 1) := by decide +kernel
theorem dj67m42_5 : decode jdk_67_method_42_code 5 = .ok (.invokespecial 137, 3) := by decide +kernel
theorem dj67m42_8 : decode jdk_67_method_42_code 8 = .ok (.areturn, 1) := by decide +kernel
theorem pd27 : parseMethodDescriptor "(Ljava/lang/StringBuilder;)V" = some ⟨[(.object "java/lang/StringBuilder")], none⟩ := by decide +kernel
theorem dj42m150_41 : decode jdk_42_method_150_code 41 = .ok (.getstatic 38, 3) := by decide +kernel
theorem dj42m150_44 : decode jdk_42_method_150_code 44 = .ok (.ifCond .eq 35, 3) := by decide +kernel
theorem dj42m150_47 : decode jdk_42_method_150_code 47 = .ok (.aload_n 1, 1) := by decide +kernel
theorem dj42m150_48 : decode jdk_42_method_150_code 48 = .ok (.getfield 1048, 3) := by decide +kernel
theorem dj42m150_51 : decode jdk_42_method_150_code 51 = .ok (.ifCond .eq 28, 3) := by decide +kernel
theorem dj42m150_79 : decode jdk_42_method_150_code 79 = .ok (.aload_n 0, 1) := by decide +kernel
theorem dj42m150_80 : decode jdk_42_method_150_code 80 = .ok (.iconst 1, 1) := by decide +kernel
theorem dj42m150_81 : decode jdk_42_method_150_code 81 = .ok (.putfield 15, 3) := by decide +kernel
theorem dj42m150_84 : decode jdk_42_method_150_code 84 = .ok (.aload_n 0, 1) := by decide +kernel
theorem dj42m150_85 : decode jdk_42_method_150_code 85 = .ok (.aload_n 3, 1) := by decide +kernel
theorem dj42m150_86 : decode jdk_42_method_150_code 86 = .ok (.iconst 0, 1) := by decide +kernel
theorem dj42m150_87 : decode jdk_42_method_150_code 87 = .ok (.iload 4, 2) := by decide +kernel
theorem dj42m150_89 : decode jdk_42_method_150_code 89 = .ok (.iconst 1, 1) := by decide +kernel
theorem dj42m150_90 : decode jdk_42_method_150_code 90 = .ok (.ishl, 1) := by decide +kernel
theorem dj42m150_91 : decode jdk_42_method_150_code 91 = .ok (.invokestatic 54, 3) := by decide +kernel
theorem dj42m150_94 : decode jdk_42_method_150_code 94 = .ok (.putfield 9, 3) := by decide +kernel
theorem dp30m2_0 : decode prog_30_method_2_code 0 = .ok (.aload_n 0, 1) := by decide +kernel
theorem dp30m2_1 : decode prog_30_method_2_code 1 = .ok (.invokestatic 7, 3) := by decide +kernel
theorem dp30m2_4 : decode prog_30_method_2_code 4 = .ok (.ifCond .eq 28, 3) := by decide +kernel
theorem dp30m2_7 : decode prog_30_method_2_code 7 = .ok (.new 13, 3) := by decide +kernel
theorem dp30m2_10 : decode prog_30_method_2_code 10 = .ok (.dup, 1) := by decide +kernel
theorem dp30m2_11 : decode prog_30_method_2_code 11 = .ok (.invokespecial 15, 3) := by decide +kernel
theorem dp30m2_14 : decode prog_30_method_2_code 14 = .ok (.ldc 16, 2) := by decide +kernel
theorem dp30m2_16 : decode prog_30_method_2_code 16 = .ok (.invokevirtual 18, 3) := by decide +kernel
theorem dp30m2_19 : decode prog_30_method_2_code 19 = .ok (.aload_n 1, 1) := by decide +kernel
theorem dp30m2_20 : decode prog_30_method_2_code 20 = .ok (.invokevirtual 18, 3) := by decide +kernel
theorem dp30m2_23 : decode prog_30_method_2_code 23 = .ok (.ldc 22, 2) := by decide +kernel
theorem dp30m2_25 : decode prog_30_method_2_code 25 = .ok (.invokevirtual 18, 3) := by decide +kernel
theorem dp30m2_28 : decode prog_30_method_2_code 28 = .ok (.invokevirtual 24, 3) := by decide +kernel
theorem dp30m2_31 : decode prog_30_method_2_code 31 = .ok (.areturn, 1) := by decide +kernel
theorem dp30m2_32 : decode prog_30_method_2_code 32 = .ok (.new 13, 3) := by decide +kernel
theorem dp30m2_35 : decode prog_30_method_2_code 35 = .ok (.dup, 1) := by decide +kernel
theorem dp30m2_36 : decode prog_30_method_2_code 36 = .ok (.invokespecial 15, 3) := by decide +kernel
theorem dp30m2_39 : decode prog_30_method_2_code 39 = .ok (.ldc 28, 2) := by decide +kernel
theorem dp30m2_41 : decode prog_30_method_2_code 41 = .ok (.invokevirtual 18, 3) := by decide +kernel
theorem dp30m2_44 : decode prog_30_method_2_code 44 = .ok (.aload_n 1, 1) := by decide +kernel
theorem dp30m2_45 : decode prog_30_method_2_code 45 = .ok (.invokevirtual 18, 3) := by decide +kernel
theorem dp30m2_48 : decode prog_30_method_2_code 48 = .ok (.invokevirtual 24, 3) := by decide +kernel
theorem dp30m2_51 : decode prog_30_method_2_code 51 = .ok (.areturn, 1) := by decide +kernel
theorem pd28 : parseMethodDescriptor "(Ljava/lang/String;)Z" = some ⟨[(.object "java/lang/String")], some .boolean⟩ := by decide +kernel
theorem pd29 : parseMethodDescriptor "(Ljava/lang/String;)Ljava/lang/StringBuilder;" = some ⟨[(.object "java/lang/String")], some (.object "java/lang/StringBuilder")⟩ := by decide +kernel
theorem pd30 : parseMethodDescriptor "()Ljava/lang/String;" = some ⟨[], some (.object "java/lang/String")⟩ := by decide +kernel
theorem dj43m13_0 : decode jdk_43_method_13_code 0 = .ok (.aload_n 0, 1) := by decide +kernel
theorem dj43m13_1 : decode jdk_43_method_13_code 1 = .ok (.arraylength, 1) := by decide +kernel
theorem dj43m13_2 : decode jdk_43_method_13_code 2 = .ok (.aload_n 1, 1) := by decide +kernel
theorem dj43m13_3 : decode jdk_43_method_13_code 3 = .ok (.arraylength, 1) := by decide +kernel
theorem dj43m13_4 : decode jdk_43_method_13_code 4 = .ok (.if_icmp .ne 30, 3) := by decide +kernel
theorem dj43m13_7 : decode jdk_43_method_13_code 7 = .ok (.iconst 0, 1) := by decide +kernel
theorem dj43m13_8 : decode jdk_43_method_13_code 8 = .ok (.istore_n 2, 1) := by decide +kernel
theorem dj43m13_9 : decode jdk_43_method_13_code 9 = .ok (.iload_n 2, 1) := by decide +kernel
theorem dj43m13_10 : decode jdk_43_method_13_code 10 = .ok (.aload_n 0, 1) := by decide +kernel
theorem dj43m13_11 : decode jdk_43_method_13_code 11 = .ok (.arraylength, 1) := by decide +kernel
theorem dj43m13_12 : decode jdk_43_method_13_code 12 = .ok (.if_icmp .ge 20, 3) := by decide +kernel
theorem dj43m13_15 : decode jdk_43_method_13_code 15 = .ok (.aload_n 0, 1) := by decide +kernel
theorem dj43m13_16 : decode jdk_43_method_13_code 16 = .ok (.iload_n 2, 1) := by decide +kernel
theorem dj43m13_17 : decode jdk_43_method_13_code 17 = .ok (.baload, 1) := by decide +kernel
theorem dj43m13_18 : decode jdk_43_method_13_code 18 = .ok (.aload_n 1, 1) := by decide +kernel
theorem dj43m13_19 : decode jdk_43_method_13_code 19 = .ok (.iload_n 2, 1) := by decide +kernel
theorem dj43m13_20 : decode jdk_43_method_13_code 20 = .ok (.baload, 1) := by decide +kernel
theorem dj43m13_21 : decode jdk_43_method_13_code 21 = .ok (.if_icmp .eq 5, 3) := by decide +kernel
theorem dj43m13_26 : decode jdk_43_method_13_code 26 = .ok (.iinc 2 1, 3) := by decide +kernel
theorem dj43m13_29 : decode jdk_43_method_13_code 29 = .ok (.goto (-20), 3) := by decide +kernel
theorem dj43m13_32 : decode jdk_43_method_13_code 32 = .ok (.iconst 1, 1) := by decide +kernel
theorem dj43m13_33 : decode jdk_43_method_13_code 33 = .ok (.ireturn, 1) := by decide +kernel
theorem dj42m66_0 : decode jdk_42_method_66_code 0 = .ok (.aload_n 0, 1) := by decide +kernel
theorem dj42m66_1 : decode jdk_42_method_66_code 1 = .ok (.aload_n 1, 1) := by decide +kernel
theorem dj42m66_2 : decode jdk_42_method_66_code 2 = .ok (.if_acmp .ne 5, 3) := by decide +kernel
theorem dj42m66_5 : decode jdk_42_method_66_code 5 = .ok (.iconst 1, 1) := by decide +kernel
theorem dj42m66_6 : decode jdk_42_method_66_code 6 = .ok (.ireturn, 1) := by decide +kernel
theorem dj42m66_7 : decode jdk_42_method_66_code 7 = .ok (.aload_n 1, 1) := by decide +kernel
theorem dj42m66_8 : decode jdk_42_method_66_code 8 = .ok (.instanceof 10, 3) := by decide +kernel
theorem dj42m66_11 : decode jdk_42_method_66_code 11 = .ok (.ifCond .eq 43, 3) := by decide +kernel
theorem dj42m66_14 : decode jdk_42_method_66_code 14 = .ok (.aload_n 1, 1) := by decide +kernel
theorem dj42m66_15 : decode jdk_42_method_66_code 15 = .ok (.checkcast 10, 3) := by decide +kernel
theorem dj42m66_18 : decode jdk_42_method_66_code 18 = .ok (.astore_n 2, 1) := by decide +kernel
theorem dj42m66_19 : decode jdk_42_method_66_code 19 = .ok (.getstatic 38, 3) := by decide +kernel
theorem dj42m66_22 : decode jdk_42_method_66_code 22 = .ok (.ifCond .eq 14, 3) := by decide +kernel
theorem dj42m66_25 : decode jdk_42_method_66_code 25 = .ok (.aload_n 0, 1) := by decide +kernel
theorem dj42m66_26 : decode jdk_42_method_66_code 26 = .ok (.getfield 15, 3) := by decide +kernel
theorem dj42m66_29 : decode jdk_42_method_66_code 29 = .ok (.aload_n 2, 1) := by decide +kernel
theorem dj42m66_30 : decode jdk_42_method_66_code 30 = .ok (.getfield 15, 3) := by decide +kernel
theorem dj42m66_33 : decode jdk_42_method_66_code 33 = .ok (.if_icmp .ne 21, 3) := by decide +kernel
theorem dj42m66_36 : decode jdk_42_method_66_code 36 = .ok (.aload_n 0, 1) := by decide +kernel
theorem dj42m66_37 : decode jdk_42_method_66_code 37 = .ok (.getfield 9, 3) := by decide +kernel
theorem dj42m66_40 : decode jdk_42_method_66_code 40 = .ok (.aload_n 2, 1) := by decide +kernel
theorem dj42m66_41 : decode jdk_42_method_66_code 41 = .ok (.getfield 9, 3) := by decide +kernel
theorem dj42m66_44 : decode jdk_42_method_66_code 44 = .ok (.invokestatic 541, 3) := by decide +kernel
theorem dj42m66_47 : decode jdk_42_method_66_code 47 = .ok (.ifCond .eq 7, 3) := by decide +kernel
theorem dj42m66_50 : decode jdk_42_method_66_code 50 = .ok (.iconst 1, 1) := by decide +kernel
theorem dj42m66_51 : decode jdk_42_method_66_code 51 = .ok (.goto 4, 3) := by decide +kernel
theorem dj42m66_55 : decode jdk_42_method_66_code 55 = .ok (.ireturn, 1) := by decide +kernel
theorem pd31 : parseMethodDescriptor "([B[B)Z" = some ⟨[(.array .byte), (.array .byte)], some .boolean⟩ := by decide +kernel
theorem dj42m149_0 : decode jdk_42_method_149_code 0 = .ok (.aload_n 0, 1) := by decide +kernel
theorem dj42m149_1 : decode jdk_42_method_149_code 1 = .ok (.invokespecial 1, 3) := by decide +kernel
theorem dj42m149_4 : decode jdk_42_method_149_code 4 = .ok (.iload_n 3, 1) := by decide +kernel
theorem dj42m149_5 : decode jdk_42_method_149_code 5 = .ok (.ifCond .ne 22, 3) := by decide +kernel
theorem dj42m149_8 : decode jdk_42_method_149_code 8 = .ok (.aload_n 0, 1) := by decide +kernel
theorem dj42m149_9 : decode jdk_42_method_149_code 9 = .ok (.ldc 7, 2) := by decide +kernel
theorem dj42m149_11 : decode jdk_42_method_149_code 11 = .ok (.getfield 9, 3) := by decide +kernel
theorem dj42m149_14 : decode jdk_42_method_149_code 14 = .ok (.putfield 9, 3) := by decide +kernel
theorem dj42m149_17 : decode jdk_42_method_149_code 17 = .ok (.aload_n 0, 1) := by decide +kernel
theorem dj42m149_18 : decode jdk_42_method_149_code 18 = .ok (.ldc 7, 2) := by decide +kernel
theorem dj42m149_20 : decode jdk_42_method_149_code 20 = .ok (.getfield 15, 3) := by decide +kernel
theorem dj42m149_23 : decode jdk_42_method_149_code 23 = .ok (.putfield 15, 3) := by decide +kernel
theorem dj42m149_26 : decode jdk_42_method_149_code 26 = .ok (.return_, 1) := by decide +kernel
theorem ef_RRIIN_6 (m : MethodId) (x0 : Addr) (x1 : Addr) (x2 : Int32) (x3 : Int32) : entryFrame m #[(.ref x0), (.ref x1), (.int x2), (.int x3), .null] 6 = mkF m 0 #[.val (.ref x0), .val (.ref x1), .val (.int x2), .val (.int x3), .val .null, .unset] [] := by first | (simp [entryFrame, mkF, argsToLocals, Value.category]; done) | rfl
theorem dj42m3_0 : decode jdk_42_method_3_code 0 = .ok (.aload_n 0, 1) := by decide +kernel
theorem dj42m3_1 : decode jdk_42_method_3_code 1 = .ok (.aload_n 1, 1) := by decide +kernel
theorem dj42m3_2 : decode jdk_42_method_3_code 2 = .ok (.iconst 0, 1) := by decide +kernel
theorem dj42m3_3 : decode jdk_42_method_3_code 3 = .ok (.aload_n 1, 1) := by decide +kernel
theorem dj42m3_4 : decode jdk_42_method_3_code 4 = .ok (.arraylength, 1) := by decide +kernel
theorem dj42m3_5 : decode jdk_42_method_3_code 5 = .ok (.aconst_null, 1) := by decide +kernel
theorem dj42m3_6 : decode jdk_42_method_3_code 6 = .ok (.invokespecial 27, 3) := by decide +kernel
theorem dj42m3_9 : decode jdk_42_method_3_code 9 = .ok (.return_, 1) := by decide +kernel
theorem pd32 : parseMethodDescriptor "([CIILjava/lang/Void;)V" = some ⟨[(.array .char), .int, .int, (.object "java/lang/Void")], none⟩ := by decide +kernel
theorem dj52m21_0 : decode jdk_52_method_21_code 0 = .ok (.iconst 0, 1) := by decide +kernel
theorem dj52m21_1 : decode jdk_52_method_21_code 1 = .ok (.istore 5, 2) := by decide +kernel
theorem dj52m21_3 : decode jdk_52_method_21_code 3 = .ok (.iload 5, 2) := by decide +kernel
theorem dj52m21_5 : decode jdk_52_method_21_code 5 = .ok (.iload 4, 2) := by decide +kernel
theorem dj52m21_7 : decode jdk_52_method_21_code 7 = .ok (.if_icmp .ge 37, 3) := by decide +kernel
theorem dj52m21_10 : decode jdk_52_method_21_code 10 = .ok (.aload_n 0, 1) := by decide +kernel
theorem dj52m21_11 : decode jdk_52_method_21_code 11 = .ok (.iload_n 1, 1) := by decide +kernel
theorem dj52m21_12 : decode jdk_52_method_21_code 12 = .ok (.caload, 1) := by decide +kernel
theorem dj52m21_13 : decode jdk_52_method_21_code 13 = .ok (.istore 6, 2) := by decide +kernel
theorem dj52m21_15 : decode jdk_52_method_21_code 15 = .ok (.iload 6, 2) := by decide +kernel
theorem dj52m21_17 : decode jdk_52_method_21_code 17 = .ok (.sipush 255, 3) := by decide +kernel
theorem dj52m21_20 : decode jdk_52_method_21_code 20 = .ok (.if_icmp .le 6, 3) := by decide +kernel
theorem dj52m21_23 : decode jdk_52_method_21_code 23 = .ok (.iload 5, 2) := by decide +kernel
theorem dj52m21_25 : decode jdk_52_method_21_code 25 = .ok (.ireturn, 1) := by decide +kernel
theorem dj52m21_26 : decode jdk_52_method_21_code 26 = .ok (.aload_n 2, 1) := by decide +kernel
theorem dj52m21_27 : decode jdk_52_method_21_code 27 = .ok (.iload_n 3, 1) := by decide +kernel
theorem dj52m21_28 : decode jdk_52_method_21_code 28 = .ok (.iload 6, 2) := by decide +kernel
theorem dj52m21_30 : decode jdk_52_method_21_code 30 = .ok (.i2b, 1) := by decide +kernel
theorem dj52m21_31 : decode jdk_52_method_21_code 31 = .ok (.bastore, 1) := by decide +kernel
theorem dj52m21_32 : decode jdk_52_method_21_code 32 = .ok (.iinc 1 1, 3) := by decide +kernel
theorem dj52m21_35 : decode jdk_52_method_21_code 35 = .ok (.iinc 3 1, 3) := by decide +kernel
theorem dj52m21_38 : decode jdk_52_method_21_code 38 = .ok (.iinc 5 1, 3) := by decide +kernel
theorem dj52m21_41 : decode jdk_52_method_21_code 41 = .ok (.goto (-38), 3) := by decide +kernel
theorem dj52m21_44 : decode jdk_52_method_21_code 44 = .ok (.iload 4, 2) := by decide +kernel
theorem dj52m21_46 : decode jdk_52_method_21_code 46 = .ok (.ireturn, 1) := by decide +kernel
theorem ef_RIRII_7 (m : MethodId) (x0 : Addr) (x1 : Int32) (x2 : Addr) (x3 : Int32) (x4 : Int32) : entryFrame m #[(.ref x0), (.int x1), (.ref x2), (.int x3), (.int x4)] 7 = mkF m 0 #[.val (.ref x0), .val (.int x1), .val (.ref x2), .val (.int x3), .val (.int x4), .unset, .unset] [] := by first | (simp [entryFrame, mkF, argsToLocals, Value.category]; done) | rfl
theorem dj52m14_0 : decode jdk_52_method_14_code 0 = .ok (.iload_n 2, 1) := by decide +kernel
theorem dj52m14_1 : decode jdk_52_method_14_code 1 = .ok (.invokestatic 107, 3) := by decide +kernel
theorem dj52m14_4 : decode jdk_52_method_14_code 4 = .ok (.astore_n 3, 1) := by decide +kernel
theorem dj52m14_5 : decode jdk_52_method_14_code 5 = .ok (.iconst 0, 1) := by decide +kernel
theorem dj52m14_6 : decode jdk_52_method_14_code 6 = .ok (.istore 4, 2) := by decide +kernel
theorem dj52m14_8 : decode jdk_52_method_14_code 8 = .ok (.iload 4, 2) := by decide +kernel
theorem dj52m14_10 : decode jdk_52_method_14_code 10 = .ok (.iload_n 2, 1) := by decide +kernel
theorem dj52m14_11 : decode jdk_52_method_14_code 11 = .ok (.if_icmp .ge 21, 3) := by decide +kernel
theorem dj52m14_14 : decode jdk_52_method_14_code 14 = .ok (.aload_n 3, 1) := by decide +kernel
theorem dj52m14_15 : decode jdk_52_method_14_code 15 = .ok (.iload 4, 2) := by decide +kernel
theorem dj52m14_17 : decode jdk_52_method_14_code 17 = .ok (.aload_n 0, 1) := by decide +kernel
theorem dj52m14_18 : decode jdk_52_method_14_code 18 = .ok (.iload_n 1, 1) := by decide +kernel
theorem dj52m14_19 : decode jdk_52_method_14_code 19 = .ok (.caload, 1) := by decide +kernel
theorem dj52m14_20 : decode jdk_52_method_14_code 20 = .ok (.invokestatic 111, 3) := by decide +kernel
theorem dj52m14_23 : decode jdk_52_method_14_code 23 = .ok (.iinc 1 1, 3) := by decide +kernel
theorem dj52m14_26 : decode jdk_52_method_14_code 26 = .ok (.iinc 4 1, 3) := by decide +kernel
theorem dj52m14_29 : decode jdk_52_method_14_code 29 = .ok (.goto (-21), 3) := by decide +kernel
theorem dj52m14_32 : decode jdk_52_method_14_code 32 = .ok (.aload_n 3, 1) := by decide +kernel
theorem dj52m14_33 : decode jdk_52_method_14_code 33 = .ok (.areturn, 1) := by decide +kernel
theorem dj52m16_0 : decode jdk_52_method_16_code 0 = .ok (.iload_n 2, 1) := by decide +kernel
theorem dj52m16_1 : decode jdk_52_method_16_code 1 = .ok (.newarray .byte, 2) := by decide +kernel
theorem dj52m16_3 : decode jdk_52_method_16_code 3 = .ok (.astore_n 3, 1) := by decide +kernel
theorem dj52m16_4 : decode jdk_52_method_16_code 4 = .ok (.aload_n 0, 1) := by decide +kernel
theorem dj52m16_5 : decode jdk_52_method_16_code 5 = .ok (.iload_n 1, 1) := by decide +kernel
theorem dj52m16_6 : decode jdk_52_method_16_code 6 = .ok (.aload_n 3, 1) := by decide +kernel
theorem dj52m16_7 : decode jdk_52_method_16_code 7 = .ok (.iconst 0, 1) := by decide +kernel
theorem dj52m16_8 : decode jdk_52_method_16_code 8 = .ok (.iload_n 2, 1) := by decide +kernel
theorem dj52m16_9 : decode jdk_52_method_16_code 9 = .ok (.invokestatic 115, 3) := by decide +kernel
theorem dj52m16_12 : decode jdk_52_method_16_code 12 = .ok (.istore 4, 2) := by decide +kernel
theorem dj52m16_14 : decode jdk_52_method_16_code 14 = .ok (.iload 4, 2) := by decide +kernel
theorem dj52m16_16 : decode jdk_52_method_16_code 16 = .ok (.iload_n 2, 1) := by decide +kernel
theorem dj52m16_17 : decode jdk_52_method_16_code 17 = .ok (.if_icmp .eq 40, 3) := by decide +kernel
theorem dj52m16_20 : decode jdk_52_method_16_code 20 = .ok (.aload_n 0, 1) := by decide +kernel
theorem dj52m16_21 : decode jdk_52_method_16_code 21 = .ok (.iload_n 1, 1) := by decide +kernel
theorem dj52m16_22 : decode jdk_52_method_16_code 22 = .ok (.iload_n 2, 1) := by decide +kernel
theorem dj52m16_23 : decode jdk_52_method_16_code 23 = .ok (.invokestatic 119, 3) := by decide +kernel
theorem dj52m16_26 : decode jdk_52_method_16_code 26 = .ok (.astore 5, 2) := by decide +kernel
theorem dj52m16_28 : decode jdk_52_method_16_code 28 = .ok (.aload 5, 2) := by decide +kernel
theorem dj52m16_30 : decode jdk_52_method_16_code 30 = .ok (.iload 4, 2) := by decide +kernel
theorem dj52m16_32 : decode jdk_52_method_16_code 32 = .ok (.invokestatic 71, 3) := by decide +kernel
theorem dj52m16_35 : decode jdk_52_method_16_code 35 = .ok (.sipush 255, 3) := by decide +kernel
theorem dj52m16_38 : decode jdk_52_method_16_code 38 = .ok (.if_icmp .gt 16, 3) := by decide +kernel
theorem dj52m16_54 : decode jdk_52_method_16_code 54 = .ok (.aload 5, 2) := by decide +kernel
theorem dj52m16_56 : decode jdk_52_method_16_code 56 = .ok (.areturn, 1) := by decide +kernel
theorem dj52m16_57 : decode jdk_52_method_16_code 57 = .ok (.aload_n 3, 1) := by decide +kernel
theorem dj52m16_58 : decode jdk_52_method_16_code 58 = .ok (.areturn, 1) := by decide +kernel
theorem pd33 : parseMethodDescriptor "([CI[BII)I" = some ⟨[(.array .char), .int, (.array .byte), .int, .int], some .int⟩ := by decide +kernel
theorem pd34 : parseMethodDescriptor "([CII)[B" = some ⟨[(.array .char), .int, .int], some (.array .byte)⟩ := by decide +kernel
theorem ef_RII_6 (m : MethodId) (x0 : Addr) (x1 : Int32) (x2 : Int32) : entryFrame m #[(.ref x0), (.int x1), (.int x2)] 6 = mkF m 0 #[.val (.ref x0), .val (.int x1), .val (.int x2), .unset, .unset, .unset] [] := by first | (simp [entryFrame, mkF, argsToLocals, Value.category]; done) | rfl
theorem dj52m15_0 : decode jdk_52_method_15_code 0 = .ok (.iload_n 1, 1) := by decide +kernel
theorem dj52m15_1 : decode jdk_52_method_15_code 1 = .ok (.aload_n 0, 1) := by decide +kernel
theorem dj52m15_2 : decode jdk_52_method_15_code 2 = .ok (.arraylength, 1) := by decide +kernel
theorem dj52m15_3 : decode jdk_52_method_15_code 3 = .ok (.isub, 1) := by decide +kernel
theorem dj52m15_4 : decode jdk_52_method_15_code 4 = .ok (.bipush 31, 2) := by decide +kernel
theorem dj52m15_6 : decode jdk_52_method_15_code 6 = .ok (.iushr, 1) := by decide +kernel
theorem dj52m15_7 : decode jdk_52_method_15_code 7 = .ok (.i2b, 1) := by decide +kernel
theorem dj52m15_8 : decode jdk_52_method_15_code 8 = .ok (.ireturn, 1) := by decide +kernel
theorem dj42m149_27 : decode jdk_42_method_149_code 27 = .ok (.getstatic 38, 3) := by decide +kernel
theorem dj42m149_30 : decode jdk_42_method_149_code 30 = .ok (.ifCond .eq 28, 3) := by decide +kernel
theorem dj42m149_33 : decode jdk_42_method_149_code 33 = .ok (.aload_n 1, 1) := by decide +kernel
theorem dj42m149_34 : decode jdk_42_method_149_code 34 = .ok (.iload_n 2, 1) := by decide +kernel
theorem dj42m149_35 : decode jdk_42_method_149_code 35 = .ok (.iload_n 3, 1) := by decide +kernel
theorem dj42m149_36 : decode jdk_42_method_149_code 36 = .ok (.invokestatic 177, 3) := by decide +kernel
theorem dj42m149_39 : decode jdk_42_method_149_code 39 = .ok (.astore 5, 2) := by decide +kernel
theorem dj42m149_41 : decode jdk_42_method_149_code 41 = .ok (.aload_n 0, 1) := by decide +kernel
theorem dj42m149_42 : decode jdk_42_method_149_code 42 = .ok (.aload 5, 2) := by decide +kernel
theorem dj42m149_44 : decode jdk_42_method_149_code 44 = .ok (.iload_n 3, 1) := by decide +kernel
theorem dj42m149_45 : decode jdk_42_method_149_code 45 = .ok (.invokestatic 47, 3) := by decide +kernel
theorem dj42m149_48 : decode jdk_42_method_149_code 48 = .ok (.putfield 15, 3) := by decide +kernel
theorem dj42m149_51 : decode jdk_42_method_149_code 51 = .ok (.aload_n 0, 1) := by decide +kernel
theorem dj42m149_52 : decode jdk_42_method_149_code 52 = .ok (.aload 5, 2) := by decide +kernel
theorem dj42m149_54 : decode jdk_42_method_149_code 54 = .ok (.putfield 9, 3) := by decide +kernel
theorem dj42m149_57 : decode jdk_42_method_149_code 57 = .ok (.return_, 1) := by decide +kernel
theorem pd35 : parseMethodDescriptor "([BI)B" = some ⟨[(.array .byte), .int], some .byte⟩ := by decide +kernel
theorem pn_com_example_kalends_kalends_FileNamesWhyNotFoundPinLaw : plainName "com/example/kalends/kalends/FileNamesWhyNotFoundPinLaw" = true := by first | (simp [plainName, overriddenIn]; done) | decide +kernel
theorem pd36 : parseMethodDescriptor "([C)V" = some ⟨[(.array .char)], none⟩ := by decide +kernel
theorem pd37 : parseMethodDescriptor "(Ljava/lang/String;Ljava/lang/String;)Ljava/lang/String;" = some ⟨[(.object "java/lang/String"), (.object "java/lang/String")], some (.object "java/lang/String")⟩ := by decide +kernel
theorem pd38 : parseMethodDescriptor "(Ljava/lang/Object;)Z" = some ⟨[(.object "java/lang/Object")], some .boolean⟩ := by decide +kernel
theorem ef_JII_maxLocals (m : MethodId) (x0 : Int64) (x1 : Int32) (x2 : Int32) : entryFrame m #[(.long x0), (.int x1), (.int x2)] maxLocals = mkF m 0 #[.val (.long x0), .second, .val (.int x1), .val (.int x2), .unset, .unset, .unset, .unset, .unset, .unset, .unset, .unset, .unset, .unset, .unset, .unset] [] := by first | (simp [entryFrame, mkF, argsToLocals, Value.category, maxLocals]; done) | rfl
/-! the wide end: String constants may have been loaded meanwhile -/
def own_FW (Z : State) (EL : List (String × Nat)) (s : State) (h0 : Heap) (Q : Option Value → Heap → List Loc → Prop) (k n : Nat) : State → Outcome → Prop :=
  fun s₂ o => ∃ v L, o = .returned v ∧ Q v s₂.heap L ∧ CHr Z EL s.vm h0 s₂.vm s₂.heap ∧ ReturnedEndW s o s₂ L k n
/-- what a wide walk bears along, at the tables vm0 and the heap h -/
def own_Wd (Z : State) (a0 : Array Value) (EL : List (String × Nat)) (s : State) (h0 : Heap) (vm0 : Vm) (h : Heap) : Prop :=
  ∃ k0, s.Since vm0 k0 ∧ k0 ≤ h.size ∧ Z.Warmed39 vm0 ∧ EW Z a0 EL ∧ CHr Z EL s.vm h0 vm0 h
section OwnWide
variable {p : Program} {l : Launch} {e : Env} {R : Room} {s : State} {m : MethodId} {args : Array Value} {below : List Frame} {meth : Method} {c : Code} {T : State} {locs : List Loc} {cells slots : Nat} {Q : Option Value → Heap → List Loc → Prop} {k n : Nat}
variable {Z : State} {a0 : Array Value} {EL : List (String × Nat)} {h0 h h' : Heap} {vm0 vm1 : Vm}
theorem own_Wd.start (hZ : Z.Warmed39 s.vm) (hE : EW Z a0 EL) (hC : CHv Z EL s.vm h0) : own_Wd Z a0 EL s h0 s.vm h0 := ⟨0, (State.WarmedH.refl s).since 0, Nat.zero_le _, hZ, hE, CHr.refl hC⟩
theorem own_Wd.hZ (W : own_Wd Z a0 EL s h0 vm0 h) : Z.Warmed39 vm0 := by obtain ⟨_, _, _, q, _⟩ := W; exact q
theorem own_Wd.hE (W : own_Wd Z a0 EL s h0 vm0 h) : EW Z a0 EL := by obtain ⟨_, _, _, _, q, _⟩ := W; exact q
theorem own_Wd.chr (W : own_Wd Z a0 EL s h0 vm0 h) : CHr Z EL s.vm h0 vm0 h := by obtain ⟨_, _, _, _, _, q⟩ := W; exact q
theorem own_Wd.chv (W : own_Wd Z a0 EL s h0 vm0 h) : CHv Z EL vm0 h := W.chr.1
theorem own_Wd.ext (W : own_Wd Z a0 EL s h0 vm0 h) (E : Ext h h') : own_Wd Z a0 EL s h0 vm0 h' := by
  obtain ⟨k0, a, b, c, d, q⟩ := W
  exact ⟨k0, a, Nat.le_trans b E.1, c, d, q.trans (CHr.ext E q.1)⟩
theorem own_Wd.wr {a : Addr} {sl : Nat} {v : Value} (W : own_Wd Z a0 EL s h0 vm0 h) (w : Wr h h' a sl v) (S : Safe Z EL vm0 h a) : own_Wd Z a0 EL s h0 vm0 h' := by
  obtain ⟨k0, a, b, c, d, q⟩ := W
  exact ⟨k0, a, Nat.le_trans b (Nat.le_of_eq w.size.symm), c, d, q.trans (CHr.wr w S q.1)⟩
theorem own_Wd.keep {ws : List Addr} (W : own_Wd Z a0 EL s h0 vm0 h) (K : Keep h h' ws) (hs : ∀ x ∈ ws, Safe Z EL vm0 h x) : own_Wd Z a0 EL s h0 vm0 h' := by
  obtain ⟨k0, a, b, c, d, q⟩ := W
  exact ⟨k0, a, Nat.le_trans b K.1, c, d, q.trans (CHr.keep K hs q.1)⟩
theorem own_Wd.call {U : State} (W : own_Wd Z a0 EL s h0 vm0 h) (hS : (s.setVm vm0).Since U.vm U.heap.size) (C : CHr Z EL vm0 h U.vm U.heap) : own_Wd Z a0 EL s h0 U.vm U.heap := by
  obtain ⟨k0, a, b, c, d, q⟩ := W
  exact ⟨_, a.trans hS (Nat.le_trans b C.2.1), Nat.le_refl _, State.Warmed39.trans (t := s.setVm vm0) c hS.1, d, q.trans C⟩
theorem own_since_own {own : String} {U : State} {c : ClassId} (hS : (s.setVm vm0).Since U.vm n) (hown : vm0.findClass own = some c) : U.vm.findClass own = some c := (hS.1.alike.findClass _ _).trans hown
theorem own_startW {A B : State} (hh : s.heap = h0) (g1 : ∀ t, Steps p.tables e below B t → Steps p.tables e below A t) (g : own_Goes p e below (own_FW Z EL s h0 Q k n) B) :
    ∃ s₂ o, Steps p.tables e below A s₂ ∧ s₂.status = .running ∧ Ended s₂ below o ∧ ∃ v L, o = .returned v ∧ Q v s₂.heap L ∧ CHr Z EL s.vm s.heap s₂.vm s₂.heap ∧ ReturnedEndW s o s₂ L k n := by
  subst hh; exact own_to g1 g
theorem own_REW {s t : State} {o : Outcome} {L : List Loc} {k k' n n' : Nat} (h : ReturnedEndW s o t L k n) (hk : k ≤ k') (hn : n ≤ n') : ReturnedEndW s o t L k' n' := ⟨h.1, h.2.1, h.2.2.1, h.2.2.2.mono hk hn⟩
theorem own_leaveW (X : Stand p l e R (s.setVm vm0) m args below meth c T locs cells slots) (eT : T.heap = h) (W : own_Wd Z a0 EL s h0 vm0 h) (hlk : meth.locks = false) (hk : cells ≤ k) (hn : slots ≤ n) {v : Option Value} (hv : meth.sig.returnType = none → v = none) (hQ : Q v h locs) :
    ∃ fs, (∀ (f : JFrame) (acts : List Action), f.method = m → f.locked = none → f.entered = [] → (doReturn e (T.setTop f) acts v).1 = T.setFrames fs) ∧ (T.setFrames fs).status = .running ∧ Ended (T.setFrames fs) below (.returned v) ∧ own_FW Z EL s h0 Q k n (T.setFrames fs) (.returned v) := by
  subst eT
  obtain ⟨k0, hS, hk0, hZ, hE, hC⟩ := W
  obtain ⟨fs, h1, h2, h3, h4⟩ := X.leaveW hS hk0 hv hlk
  exact ⟨fs, h1, h2, h3, v, locs, rfl, hQ, hC.trans (show CHr Z EL vm0 T.heap T.vm T.heap from CHv.at X hZ hE hC.1), own_REW h4 hk hn⟩
theorem own_retNW (X : Stand p l e R (s.setVm vm0) m args below meth c T locs cells slots) (hx : p.tables.exec = Jvm.exec) {pc : Nat} {Ls : Array Slot} {z : Int32} {t : FieldType} {rest : List Value} (hret : meth.sig.returnType = some t)
    (hd : decode c.code pc = .ok (.ireturn, 1)) (ht : t = .boolean ∨ t = .byte ∨ t = .char ∨ t = .short) (hlk : meth.locks = false) (hk : cells ≤ k) (hn : slots ≤ n) (eT : T.heap = h) (W : own_Wd Z a0 EL s h0 vm0 h) (hQ : Q (some (.int (nar t z))) h locs) :
    own_Goes p e below (own_FW Z EL s h0 Q k n) (T.setTop (mkF m pc Ls (.int z :: rest))) := by
  obtain ⟨fs, hr, hrun, hended, hF⟩ := own_leaveW X eT W hlk hk hn (v := some (.int (nar t z))) (fun q => by rw [hret] at q; cases q) hQ
  exact ⟨_, _, retN X hx hret ht hd hr, hrun, hended, hF⟩
theorem own_retIW (X : Stand p l e R (s.setVm vm0) m args below meth c T locs cells slots) (hx : p.tables.exec = Jvm.exec) {pc : Nat} {Ls : Array Slot} {z : Int32} {rest : List Value} (hret : meth.sig.returnType = some .int)
    (hd : decode c.code pc = .ok (.ireturn, 1)) (hlk : meth.locks = false) (hk : cells ≤ k) (hn : slots ≤ n) (eT : T.heap = h) (W : own_Wd Z a0 EL s h0 vm0 h) (hQ : Q (some (.int z)) h locs) :
    own_Goes p e below (own_FW Z EL s h0 Q k n) (T.setTop (mkF m pc Ls (.int z :: rest))) := by
  obtain ⟨fs, hr, hrun, hended, hF⟩ := own_leaveW X eT W hlk hk hn (v := some (.int z)) (fun q => by rw [hret] at q; cases q) hQ
  exact ⟨_, _, retOut X hx hret rfl (Or.inl ⟨rfl, Or.inl rfl, z, rfl⟩) hd hr, hrun, hended, hF⟩
theorem own_retRW (X : Stand p l e R (s.setVm vm0) m args below meth c T locs cells slots) (hx : p.tables.exec = Jvm.exec) {pc : Nat} {Ls : Array Slot} {w : Value} {t : FieldType} {rest : List Value} (hret : meth.sig.returnType = some t)
    (hd : decode c.code pc = .ok (.areturn, 1)) (ht : t.isReference = true) (hw : w.isRef = true) (hlk : meth.locks = false) (hk : cells ≤ k) (hn : slots ≤ n) (eT : T.heap = h) (W : own_Wd Z a0 EL s h0 vm0 h) (hQ : Q (some w) h locs) :
    own_Goes p e below (own_FW Z EL s h0 Q k n) (T.setTop (mkF m pc Ls (w :: rest))) := by
  obtain ⟨fs, hr, hrun, hended, hF⟩ := own_leaveW X eT W hlk hk hn (v := some w) (fun q => by rw [hret] at q; cases q) hQ
  exact ⟨_, _, retOut X hx hret (own_nref ht) (Or.inr (Or.inr (Or.inr (Or.inr ⟨rfl, ht, hw⟩)))) hd hr, hrun, hended, hF⟩
theorem own_retVW (X : Stand p l e R (s.setVm vm0) m args below meth c T locs cells slots) (hx : p.tables.exec = Jvm.exec) {pc : Nat} {Ls : Array Slot} (hret : meth.sig.returnType = none)
    (hd : decode c.code pc = .ok (.return_, 1)) (hlk : meth.locks = false) (hk : cells ≤ k) (hn : slots ≤ n) (eT : T.heap = h) (W : own_Wd Z a0 EL s h0 vm0 h) (hQ : Q none h locs) :
    own_Goes p e below (own_FW Z EL s h0 Q k n) (T.setTop (mkF m pc Ls [])) := by
  obtain ⟨fs, hr, hrun, hended, hF⟩ := own_leaveW X eT W hlk hk hn (v := none) (fun _ => rfl) hQ
  exact ⟨_, _, X.returnOut hx hret hd hr, hrun, hended, hF⟩
/-- ldc of a constant whose text is known -/
theorem own_ldc (X : Stand p l e R (s.setVm vm0) m args below meth c T locs cells slots) (hx : p.tables.exec = Jvm.exec) (W : own_Wd Z a0 EL s h0 vm0 h) {own text : String} {index : Nat} (hown : vm0.findClass own = some m.cls) (w : (Cond.stringLink own index text).before a0 Z = true) (wS : ∀ a ∈ Bundle.stringAtoms, a.before a0 Z = true)
    (eT : T.heap = h) (hmem : (own, index) ∈ EL) {vs : List Value} {z : Int32} (ht : (∀ c ∈ text.toList, c.toNat < 256) ∧ text.toList.map (fun c => Value.int (Jvm.Lit.byteI c.toNat.toUInt16)) = vs) (hz : ¬ z < 0) (hl : z.toNatClampNeg = vs.length)
    {g : JFrame} (hg : g.method = m) (hd : decode c.code g.pc = .ok (.ldc index, 2)) {n : Nat} (hn : 4 * text.toList.length ≤ n) (hbig : n ≤ 536870912) (hc : cells + 2 ≤ R.cells) (hl' : slots + (n + 4) ≤ R.slots) :
    ∃ (a : Addr) (T' : State) (h' : Heap) (b : Addr) (k : ClassId), Stand p l e R (s.setVm T'.vm) m args below meth c T' locs (cells + 2) (slots + (n + 4)) ∧ T'.heap = h' ∧ Ext h h' ∧ own_Wd Z a0 EL s h0 T'.vm h' ∧ T'.vm.findClass own = some m.cls ∧
      Exa Z h' a "java/lang/String" ∧ Fld Z h' a "java/lang/String" "coder" "B" (.int 0) ∧ Fld Z h' a "java/lang/String" "value" "[B" (.ref b) ∧ Arv Z h' b k .byte z vs (.int 0) ∧ CHr Z EL vm0 h T'.vm h' ∧ (∀ x, Safe Z EL T'.vm h' x → x ≠ a ∧ x ≠ b) ∧
      ∀ target, Steps p.tables e below (T'.setTop { g with pc := g.pc + 2, stack := .ref a :: g.stack }) target → Steps p.tables e below (T.setTop g) target := by
  obtain ⟨k0, hS, hk0, hZ, hE, hC⟩ := W
  obtain ⟨a, T', h', k1, b, k, r1, r2, r3, r4, r5, r6, r7, r8, r9, r10, r11, -, -, r14, -, r16, r17⟩ := ldcCH X hx hZ hown w wS eT hS hk0 hE hmem hC.1 ht hz hl hg hd hn hbig hc hl'
  exact ⟨a, T', h', b, k, r1, r2, r3, ⟨k1, r4, r5, r6, hE, hC.trans r14⟩, r7, r8, r9, r10, r11, r14, r16, r17⟩
/-- ldc of a constant whose text isn't asked -/
theorem own_ldcO (X : Stand p l e R (s.setVm vm0) m args below meth c T locs cells slots) (hx : p.tables.exec = Jvm.exec) (W : own_Wd Z a0 EL s h0 vm0 h) {own text : String} {index : Nat} (hown : vm0.findClass own = some m.cls) (w : (Cond.stringLink own index text).before a0 Z = true) (wS : ∀ a ∈ Bundle.stringAtoms, a.before a0 Z = true)
    (eT : T.heap = h) {g : JFrame} (hg : g.method = m) (hd : decode c.code g.pc = .ok (.ldc index, 2)) {n : Nat} (hn : 4 * text.toList.length ≤ n) (hbig : n ≤ 536870912) (hc : cells + 2 ≤ R.cells) (hl' : slots + (n + 4) ≤ R.slots) :
    ∃ (a : Addr) (T' : State) (h' : Heap), Stand p l e R (s.setVm T'.vm) m args below meth c T' locs (cells + 2) (slots + (n + 4)) ∧ T'.heap = h' ∧ Ext h h' ∧ own_Wd Z a0 EL s h0 T'.vm h' ∧ T'.vm.findClass own = some m.cls ∧ CHr Z EL vm0 h T'.vm h' ∧
      ∀ target, Steps p.tables e below (T'.setTop { g with pc := g.pc + 2, stack := .ref a :: g.stack }) target → Steps p.tables e below (T.setTop g) target := by
  obtain ⟨k0, hS, hk0, hZ, hE, hC⟩ := W
  obtain ⟨a, T', h', k1, r1, r2, r3, r4, r5, r6, r7, r8, -, r9⟩ := ldcOH X hx hZ hown w wS eT hS hk0 hE hC.1 hg hd hn hbig hc hl'
  exact ⟨a, T', h', r1, r2, r3, ⟨k1, r4, r5, r6, hE, hC.trans r8⟩, r7, r8, r9⟩
end OwnWide
/-- a body's contract where String constants may be loaded -/
abbrev own_MetW (EL : List (String × Nat)) (l : Launch) (y : MethodName) (bytes : ByteArray) (ml : Nat) (rt : Option FieldType) (ws : List Jvm.Cond) (rm : Room) (Z : State) (as' : Array Value) (h0 : Heap) (Q : Option Value → Heap → List Loc → Prop) : Prop :=
  MetFree l y (head1 (Jvm.Cond.code y bytes ml rt :: ws) rm) (fun a U => a = as' ∧ Z.Warmed39 U.vm ∧ U.heap = h0 ∧ CHv Z EL U.vm h0) (fun _ _ _ _ _ => True) (fun _ U o U' => ∃ v L, o = .returned v ∧ Q v U'.heap L ∧ CHr Z EL U.vm U.heap U'.vm U'.heap ∧ ReturnedEndW U o U' L rm.cells rm.slots)
theorem own_enterW {EL : List (String × Nat)} {l : Launch} {y : MethodName} {bytes : ByteArray} {ml : Nat} {rt : Option FieldType} {ws : List Jvm.Cond} {rm : Room} {Z : State} {as' : Array Value} {h0 : Heap} {Q : Option Value → Heap → List Loc → Prop} (L0 : Array Slot) (hp : plainFor y = true) (ef : ∀ m, entryFrame m as' ml = mkF m 0 L0 []) {a0 : Array Value} (hE : EW Z a0 EL)
    (go : ∀ (p : Program) (e : Env) (s : State) (m : MethodId) (below : List Frame) (meth : Method) (c : Code) (s₁ : State), p.tables.exec = Jvm.exec → c.code = bytes → c.maxLocals = ml → (s.setVm s.vm).vm.findClass y.cls = some m.cls → meth.name = y.name → Z.Warmed39 (s.setVm s.vm).vm → meth.sig.returnType = rt → meth.locks = false → Stand p l e rm (s.setVm s.vm) m as' below meth c s₁ [] 0 0 → s₁.heap = h0 → own_Wd Z a0 EL s h0 s.vm h0 → own_Goes p e below (own_FW Z EL s h0 Q rm.cells rm.slots) (s₁.setTop (mkF m 0 L0 []))) :
    own_MetW EL l y bytes ml rt ws rm Z as' h0 Q := by
  refine MetFree.of_bodySF hp hisR ?_
  intro p e s m args below meth c s₁ Bd hml0 hP hK
  obtain ⟨rfl, hZ, hh, hC⟩ := hP
  have g := go p e s m below meth c s₁ Bd.exec Bd.bytes hml0 (findClass_of_methodNamed Bd.named) (name_of_methodNamed Bd.named Bd.method).1 hZ Bd.returns Bd.notSynchronized (Stand.of_body Bd) (by rw [← hh, Bd.state]; rfl) (own_Wd.start hZ hE hC)
  exact own_startW hh (fun t k => castTop (ef m) k) g

def Q0 (h0 : Heap) (n0 : Nat) (v : Option Value) (h : Heap) (L : List Loc) : Prop := v = some (.int 1) ∧ Fr n0 L

theorem own_nb (x : Int32) : nar .byte (x.toInt8.toInt32) = x.toInt8.toInt32 := by
  show x.toInt8.toInt32.toInt8.toInt32 = _
  have a := c_i2b x
  have b := c_i2b x.toInt8.toInt32
  rw [← Int32.toInt_inj]
  omega
theorem own_nb2 (x : Int32) : x.toInt8.toInt32.toInt8.toInt32 = x.toInt8.toInt32 := own_nb x
theorem own_i2c {x : Int32} (h : 0 ≤ x.toInt ∧ x.toInt ≤ 65535) : x.toUInt32.toUInt16.toUInt32.toInt32 = x := by
  have q := c_i2c x
  rw [← Int32.toInt_inj]
  omega
theorem own_narc {x : Int32} (h : 0 ≤ x.toInt ∧ x.toInt ≤ 65535) : nar .char x = x := own_i2c h
theorem own_up {x : Int32} (h : 0 ≤ x.toInt ∧ x.toInt ≤ 255) : 0 ≤ x.toInt ∧ x.toInt ≤ 65535 := by omega

theorem own_shr0 (z : Int32) : z >>> ((0 : Int32) &&& 31) = z := by
  rw [← Int32.toInt_inj, c_ishr z 0 0 (by decide)]
  simp

theorem own_wS {a0 : Array Value} {Z : State} (hw : own_HW a0 Z) : ∀ a ∈ Bundle.stringAtoms, a.before a0 Z = true := fun d hd => hw d ((by decide +kernel : ∀ d ∈ Bundle.stringAtoms, d ∈ tables_1) d hd)
theorem own_safeV {Z : State} {EL : List (String × Nat)} {vm : Vm} {h : Heap} {x : Addr} {k : ClassId} {ty : FieldType} {z : Int32} {vs : List Value} {d : Value} (hal : Z.vm.Alike vm) (V : Arv Z h x k ty z vs d) (ht : ty ≠ .byte) : Safe Z EL vm h x := by
  obtain ⟨c, A, -⟩ := V
  exact Safe.arr hal A ht
def own_EL : List (String × Nat) := [("java/lang/String", 7), ("com/example/kalends/kalends/FileNames", 16), ("com/example/kalends/kalends/FileNames", 22), ("com/example/kalends/kalends/FileNames", 28)]

theorem own_safe0 {Z : State} {EL : List (String × Nat)} {vm : Vm} {h : Heap} {x : Addr} (hal : Z.vm.Alike vm) (E : Exa Z h x "java/lang/String") (F : Fld Z h x "java/lang/String" "value" "[B" .null) : Safe Z EL vm h x := fun B => by
  obtain ⟨cell, k, e1, e2, e3, -, -⟩ := E
  obtain ⟨cell', cf, k', i, f, f1, f2, f3, f4, f5, f6, f7⟩ := F
  cases e1.symm.trans f1
  obtain ⟨p, -, u, a, -, q, -, G, rfl | rfl⟩ := B
  · cases (show h[q.sa]? = some q.sC from G.ha).symm.trans e1
    obtain ⟨cS, ⟨⟨-, -, -, ⟨c1, k1, i1, g1, -⟩, -, -, -, v1, -⟩, -⟩, -⟩ := G
    obtain ⟨k3, e4, -⟩ := State.fieldFound?_setVm (s := Z) hal f2
    have e5 := (show (Wst Z vm h).fieldFound? _ _ _ = _ from e4).symm.trans g1
    simp only [Option.some.injEq, Prod.mk.injEq] at e5
    rw [← e5.2.2.2] at v1
    have e6 := f7.symm.trans v1
    cases e6
  · cases (show h[q.sd]? = some q.SA from G.hd).symm.trans e1
    obtain ⟨cS, -, -, g, -⟩ := G
    rw [show (Wst Z vm h).vm = vm from rfl, hal.findClass] at g
    obtain ⟨k1, q1, q2⟩ := Vm.findClass_spec g
    obtain ⟨k2, q3, q4⟩ := Vm.findClass_spec e2
    cases q1.symm.trans q3
    exact absurd (q2.symm.trans q4) (by decide)

theorem own_stI {s : State} {args : Array Value} {C n d : String} {z : Int32} (h : (Cond.eq (.static C n d) (.int z)).before args s = true) (hi : (Cond.initializedFor C n d).before args s = true) : Sta s s.heap C n d (.int z) := by
  have h := Cond.before_iff.mp h
  obtain ⟨x, y, e1, e2, -, k⟩ := cmp_v (Or.inl h)
  obtain rfl : y = .int z := (Option.some.inj ((Term.int_eval z).symm.trans e2)).symm
  obtain ⟨w, rfl⟩ : ∃ w, x = .int w := k
  have hz : w = z := gotT (Cond.eq_ints e1 (Term.int_eval z)) h
  subst hz
  exact Sta.start e1 (Or.inl hi)

abbrev own_b0 (c : Int32) : Int32 := (c >>> ((0 : Int32) &&& 31)).toInt8.toInt32
abbrev own_b1 (c : Int32) : Int32 := (c >>> ((8 : Int32) &&& 31)).toInt8.toInt32
abbrev own_lo (c : Int32) : Int32 := c.toInt8.toInt32
def own_lows : List Int32 → List Value
  | [] => []
  | c :: cs => .int (own_lo c) :: own_lows cs
def own_wide : List Int32 → List Value
  | [] => []
  | c :: cs => .int (own_b0 c) :: .int (own_b1 c) :: own_wide cs
def own_Cod (cs : List Int32) (cd N : Int32) (vs : List Value) : Prop := (cd = 0 ∧ N = Int32.ofNat cs.length ∧ vs = own_lows cs ∧ ∀ c ∈ cs, ¬ (255 : Int32) < c) ∨ (cd = 1 ∧ N = Int32.ofNat (2 * cs.length) ∧ vs = own_wide cs ∧ ∃ c ∈ cs, (255 : Int32) < c)
/-- the String at a bears the signs cs -/
def own_S (Z : State) (h : Heap) (a : Addr) (cs : List Int32) : Prop := ∃ (t : Addr) (kb : ClassId) (cd N : Int32) (vs : List Value), Exa Z h a "java/lang/String" ∧ Fld Z h a "java/lang/String" "value" "[B" (.ref t) ∧ Fld Z h a "java/lang/String" "coder" "B" (.int cd) ∧ Arv Z h t kb .byte N vs (.int (0 : Int32)) ∧ own_Cod cs cd N vs
theorem own_S.ext {Z : State} {h h' : Heap} {a : Addr} {cs : List Int32} (F : own_S Z h a cs) (E : Ext h h') : own_S Z h' a cs := by
  obtain ⟨t, kb, cd, N, vs, f1, f2, f3, f4, f5⟩ := F
  exact ⟨t, kb, cd, N, vs, f1.ext E, f2.ext E, f3.ext E, f4.ext E, f5⟩
theorem own_shr8 (c : Int32) (h : 0 ≤ c.toInt ∧ c.toInt ≤ 65535) : (c >>> ((8 : Int32) &&& 31)).toInt = c.toInt / 256 := c_ishr c 8 8 (by decide)
theorem own_and255 (x : Int32) : (x &&& 255).toInt = x.toInt % 256 := c_mask x 255 8 (by decide) (by decide)
theorem own_gc (c : Int32) (h : 0 ≤ c.toInt ∧ c.toInt ≤ 65535) : (((own_b0 c &&& (255 : Int32)) <<< ((0 : Int32) &&& 31)) ||| ((own_b1 c &&& (255 : Int32)) <<< ((8 : Int32) &&& 31))).toUInt32.toUInt16.toUInt32.toInt32 = c := by
  have e0 : c >>> ((0 : Int32) &&& 31) = c := own_shr0 c
  have a0 := c_i2b c
  have a1 := c_i2b (c >>> ((8 : Int32) &&& 31))
  have s8 := own_shr8 c h
  have m0 := own_and255 (own_b0 c)
  have m1 := own_and255 (own_b1 c)
  have l0 : ((own_b0 c &&& (255 : Int32)) <<< ((0 : Int32) &&& 31)).toInt = c.toInt % 256 := by
    have q := c_ishl (own_b0 c &&& (255 : Int32)) 0 0 (by decide)
    have r := rng32 ((own_b0 c &&& (255 : Int32)) <<< ((0 : Int32) &&& 31))
    have z : (own_b0 c).toInt = c.toInt8.toInt32.toInt := by rw [show own_b0 c = c.toInt8.toInt32 from by show (c >>> ((0 : Int32) &&& 31)).toInt8.toInt32 = _; rw [e0]]
    simp only [Nat.pow_zero] at q
    omega
  have l1 : ((own_b1 c &&& (255 : Int32)) <<< ((8 : Int32) &&& 31)).toInt = (c.toInt / 256) * 256 := by
    have q := c_ishl (own_b1 c &&& (255 : Int32)) 8 8 (by decide)
    have r := rng32 ((own_b1 c &&& (255 : Int32)) <<< ((8 : Int32) &&& 31))
    have z : (own_b1 c).toInt = (c >>> ((8 : Int32) &&& 31)).toInt8.toInt32.toInt := rfl
    have p : ((2 ^ 8 : Nat) : Int) = 256 := rfl
    rw [p] at q
    omega
  have o := c_or ((own_b1 c &&& (255 : Int32)) <<< ((8 : Int32) &&& 31)) ((own_b0 c &&& (255 : Int32)) <<< ((0 : Int32) &&& 31)) 8 (by decide) 256 rfl (by omega) (by omega) (by omega)
  have r := rng32 (((own_b0 c &&& (255 : Int32)) <<< ((0 : Int32) &&& 31)) ||| ((own_b1 c &&& (255 : Int32)) <<< ((8 : Int32) &&& 31)))
  have e : (((own_b0 c &&& (255 : Int32)) <<< ((0 : Int32) &&& 31)) ||| ((own_b1 c &&& (255 : Int32)) <<< ((8 : Int32) &&& 31))).toInt = c.toInt := by
    rw [Int32.or_comm]
    have r2 := rng32 (((own_b1 c &&& (255 : Int32)) <<< ((8 : Int32) &&& 31)) ||| ((own_b0 c &&& (255 : Int32)) <<< ((0 : Int32) &&& 31)))
    omega
  have q := c_i2c (((own_b0 c &&& (255 : Int32)) <<< ((0 : Int32) &&& 31)) ||| ((own_b1 c &&& (255 : Int32)) <<< ((8 : Int32) &&& 31)))
  rw [← Int32.toInt_inj]
  omega
theorem own_lo_inj {a b : Int32} (ha : 0 ≤ a.toInt ∧ a.toInt ≤ 255) (hb : 0 ≤ b.toInt ∧ b.toInt ≤ 255) : a.toInt8.toInt32 = b.toInt8.toInt32 ↔ a = b := by
  have p := c_i2b a
  have q := c_i2b b
  simp only [← Int32.toInt_inj]
  omega
theorem own_le255 {c : Int32} (h : ¬ (255 : Int32) < c) (hc : 0 ≤ c.toInt ∧ c.toInt ≤ 65535) : 0 ≤ c.toInt ∧ c.toInt ≤ 255 := by
  have e : (255 : Int32).toInt = 255 := rfl
  rw [Int32.lt_iff_toInt_lt, e] at h
  omega

def own_US (Z : State) (G1 : Int32) : Prop := ¬ G1 = (0 : Int32) ∧ Sta Z Z.heap "java/lang/String" "COMPACT_STRINGS" "Z" (.int G1) ∧ Sta Z Z.heap "java/lang/StringUTF16" "$assertionsDisabled" "Z" (.int (1 : Int32)) ∧ Sta Z Z.heap "java/lang/StringUTF16" "HI_BYTE_SHIFT" "I" (.int (0 : Int32)) ∧ Sta Z Z.heap "java/lang/StringUTF16" "LO_BYTE_SHIFT" "I" (.int (8 : Int32))
theorem own_succ (i : Nat) : Int32.ofNat i + (1 : Int32) = Int32.ofNat (i + 1) := by rw [Int32.ofNat_add]; rfl
theorem own_ofn {i : Nat} (h : i < 2 ^ 31) : ¬ Int32.ofNat i < 0 ∧ (Int32.ofNat i).toNatClampNeg = i := by
  have e : (Int32.ofNat i).toInt = i := Int32.toInt_ofNat_small h
  have e0 : (0 : Int32).toInt = 0 := rfl
  have hn : ¬ Int32.ofNat i < 0 := by rw [Int32.lt_iff_toInt_lt, e, e0]; omega
  have q := nat_of hn
  exact ⟨hn, by omega⟩
theorem own_shl1 {i : Nat} (h : i < 4000) : Int32.ofNat i <<< ((1 : Int32) &&& 31) = Int32.ofNat (2 * i) := by
  have q := c_ishl (Int32.ofNat i) 1 1 (by decide)
  have r := rng32 (Int32.ofNat i <<< ((1 : Int32) &&& 31))
  have p : ((2 ^ 1 : Nat) : Int) = 2 := rfl
  rw [Int32.toInt_ofNat_small (by omega), p] at q
  rw [← Int32.toInt_inj, Int32.toInt_ofNat_small (by omega)]
  omega
theorem own_inb {i n : Nat} (hn : n < 2 ^ 31) (h : i < n) : ¬ Int32.ofNat i < 0 ∧ Int32.ofNat i < Int32.ofNat n := by
  refine ⟨(own_ofn (by omega)).1, ?_⟩
  rw [Int32.lt_iff_toInt_lt, Int32.toInt_ofNat_small (by omega), Int32.toInt_ofNat_small hn]
  omega
theorem own_wide_0 (d : Value) : ∀ (cs : List Int32) (i : Nat), i < cs.length → (own_wide cs).getD (2 * i) d = .int (own_b0 (cs.getD i 0))
  | [], i, h => absurd h (by simp)
  | c :: cs, 0, h => rfl
  | c :: cs, i + 1, h => by
    have q := own_wide_0 d cs i (by simpa using h)
    show (own_wide (c :: cs)).getD (2 * i + 2) d = _
    exact q
theorem own_wide_1 (d : Value) : ∀ (cs : List Int32) (i : Nat), i < cs.length → (own_wide cs).getD (2 * i + 1) d = .int (own_b1 (cs.getD i 0))
  | [], i, h => absurd h (by simp)
  | c :: cs, 0, h => rfl
  | c :: cs, i + 1, h => by
    have q := own_wide_1 d cs i (by simpa using h)
    show (own_wide (c :: cs)).getD (2 * i + 3) d = _
    exact q

def own_R (ch : Int32) (cs : List Int32) (r : Int32) : Prop := (r < (0 : Int32) ∧ ch ∉ cs) ∨ (¬ r < (0 : Int32) ∧ ch ∈ cs)
theorem own_lows_at (d : Value) : ∀ (cs : List Int32) (i : Nat), i < cs.length → (own_lows cs).getD i d = .int (own_lo (cs.getD i 0))
  | [], i, h => absurd h (by simp)
  | c :: cs, 0, h => rfl
  | c :: cs, i + 1, h => own_lows_at d cs i (by simpa using h)
theorem own_mem (cs : List Int32) (i : Nat) (h : i < cs.length) : cs.getD i 0 ∈ cs := by
  rw [List.getD_eq_getElem?_getD, List.getElem?_eq_getElem h]
  exact List.getElem_mem h
theorem own_notin {cs : List Int32} {p : Int32} (h : ∀ j, j < cs.length → cs.getD j 0 ≠ p) : p ∉ cs := fun q => by
  obtain ⟨i, hi, e⟩ := List.getElem_of_mem q
  have k := h i hi
  rw [List.getD_eq_getElem?_getD, List.getElem?_eq_getElem hi] at k
  exact k e
theorem own_more {cs : List Int32} {p : Int32} {i : Nat} (h : ∀ j, j < i → cs.getD j 0 ≠ p) (q : cs.getD i 0 ≠ p) : ∀ j, j < i + 1 → cs.getD j 0 ≠ p := fun j hj => by
  by_cases e : j = i
  · rw [e]; exact q
  · exact h j (by omega)
theorem own_foundL {cs : List Int32} {p : Int32} {i : Nat} (hi : i < cs.length) (hcs : ∀ c ∈ cs, ¬ (255 : Int32) < c) (hch : ∀ c ∈ cs, 0 ≤ c.toInt ∧ c.toInt ≤ 65535) (hp : 0 ≤ p.toInt ∧ p.toInt ≤ 255) : own_lo (cs.getD i 0) = p.toInt8.toInt32 ↔ cs.getD i 0 = p :=
  own_lo_inj (own_le255 (hcs _ (own_mem cs i hi)) (hch _ (own_mem cs i hi))) hp
theorem own_ltn {i n : Nat} (hn : n ≤ 1000) (hi : i ≤ n) : Int32.ofNat i < Int32.ofNat n ↔ i < n := by
  rw [Int32.lt_iff_toInt_lt, Int32.toInt_ofNat_small (by omega), Int32.toInt_ofNat_small (by omega)]
  omega
theorem own_shr1 {n : Nat} (hn : n ≤ 1000) : (Int32.ofNat (2 * n)) >>> ((1 : Int32) &&& 31) = Int32.ofNat n := by
  have q := c_ishr (Int32.ofNat (2 * n)) 1 1 (by decide)
  rw [← Int32.toInt_inj, q, Int32.toInt_ofNat_small (by omega), Int32.toInt_ofNat_small (by omega)]
  have p : ((2 ^ 1 : Nat) : Int) = 2 := rfl
  omega

theorem own_cl0 : ∀ n : Nat, n < 97 → (((Int32.ofNat n - Int32.ofNat n).toUInt32 >>> ((31 : Int32) &&& 31).toUInt32).toInt32).toInt8.toInt32 = (0 : Int32) := by decide +kernel
theorem own_cl1 : ∀ n : Nat, n < 97 → 0 < n → (((Int32.ofNat n - Int32.ofNat (2 * n)).toUInt32 >>> ((31 : Int32) &&& 31).toUInt32).toInt32).toInt8.toInt32 = (1 : Int32) := by decide +kernel
theorem own_nbl {n : Nat} (h : n ≤ 150) : Int32.ofNat n < (1073741823 : Int32) := by
  have e : (1073741823 : Int32).toInt = 1073741823 := rfl
  rw [Int32.lt_iff_toInt_lt, Int32.toInt_ofNat_small (by omega), e]
  omega
theorem own_nz {n : Nat} (h : n ≤ 96) (h0 : 0 < n) : ¬ (Int32.ofNat n = (0 : Int32)) := by
  have e : (0 : Int32).toInt = 0 := rfl
  rw [← Int32.toInt_inj, Int32.toInt_ofNat_small (by omega), e]
  omega
theorem own_nei {i n : Nat} (h : n ≤ 96) (hi : i < n) : ¬ (Int32.ofNat i = Int32.ofNat n) := by
  rw [← Int32.toInt_inj, Int32.toInt_ofNat_small (by omega), Int32.toInt_ofNat_small (by omega)]
  omega
theorem own_decl {y : MethodName} {bytes : ByteArray} {ml : Nat} {rt : Option FieldType} {a : Array Value} {s : State} (h : (Cond.instanceMethod y).before a s = true) (hc : (Cond.code y bytes ml rt).before a s = true) : (Cond.declares y).before a s = true := by
  obtain ⟨mk, me, hn, hm, hst, -⟩ := Cond.instanceMethod_spec h
  obtain ⟨me', c, q1, -, -, -, -, -, -, hsig⟩ := Cond.code_spec hn hc
  cases hm.symm.trans q1
  show ((s.methodNamed? y).bind s.vm.method?).map (fun meth => !meth.isStatic && decide (parseMethodDescriptor y.desc = some meth.sig)) == some true
  rw [hn, Option.bind_some, hm, Option.map_some, hst, hsig]
  simp
theorem own_same {y : MethodName} {C : String} {z : MethodName} {a : Array Value} {s : State} (hd : (Cond.declares y).before a s = true) (hs : (Cond.selects C z z).before a s = true) (hz : z.cls = y.cls) (hy : y.cls ≠ "java/lang/invoke/MethodHandle" ∧ y.cls ≠ "java/lang/invoke/VarHandle") : (Cond.sameMethod y.cls y.cls y.name y.desc).before a s = true := by
  obtain ⟨m, me, hn, hm, -, -⟩ := Cond.declares_spec hd
  have hf := State.methodFound?_of_named hn hy
  have hc := findClass_of_methodNamed hn
  obtain ⟨c2, r2, m2, q1, q2, q3, q4, kP, hkP, hkPi⟩ := Cond.selects_spec hs
  have hc2 := findClass_of_methodNamed q3
  rw [hz] at hc2
  have e : m.cls = m2.cls := Option.some.inj (hc.symm.trans hc2)
  show (match s.vm.findClass y.cls, s.methodFound? y.cls y.name y.desc, s.methodNamed? ⟨y.cls, y.name, y.desc⟩ with
    | some c, some r, some m => some (decide (r = m) && (s.vm.classes[c]?).any (!·.isInterface))
    | _, _, _ => none) == some true
  have hn' : s.methodNamed? ⟨y.cls, y.name, y.desc⟩ = some m := hn
  rw [hc, hf, hn']
  simp only [decide_true, Bool.true_and]
  rw [e, hkP]
  simp [hkPi]
/-! arrays said place by place -/
def own_A (m : Nat) (f : Nat → Value) : List Value := (List.range m).map f
def own_fL (ps : List Int32) (i : Nat) : Value := .int (own_lo (ps.getD i 0))
def own_fW (ps : List Int32) (j : Nat) : Value := if j % 2 = 0 then .int (own_b0 (ps.getD (j / 2) 0)) else .int (own_b1 (ps.getD (j / 2) 0))
theorem own_A_len (m : Nat) (f : Nat → Value) : (own_A m f).length = m := by simp [own_A]
theorem own_A_at {m : Nat} {f : Nat → Value} {i : Nat} (d : Value) (h : i < m) : (own_A m f).getD i d = f i := by
  rw [own_A, List.getD_eq_getElem?_getD, List.getElem?_map, List.getElem?_range h]
  rfl
theorem own_ext {A B : List Value} (d : Value) (hl : A.length = B.length) (h : ∀ i, i < A.length → A.getD i d = B.getD i d) : A = B := by
  apply List.ext_getElem hl
  intro i h1 h2
  have q := h i h1
  rw [List.getD_eq_getElem?_getD, List.getD_eq_getElem?_getD, List.getElem?_eq_getElem h1, List.getElem?_eq_getElem h2] at q
  exact q
theorem own_A_of {A : List Value} {m : Nat} {f : Nat → Value} (hl : A.length = m) (h : ∀ i, i < m → A.getD i (.int (0 : Int32)) = f i) : A = own_A m f :=
  own_ext (.int (0 : Int32)) (by rw [hl, own_A_len]) (fun i hi => by rw [own_A_at _ (by omega)]; exact h i (by omega))
theorem own_A_ext {m : Nat} {f g : Nat → Value} (h : ∀ i, i < m → f i = g i) : own_A m f = own_A m g := own_A_of (own_A_len m f) (fun i hi => by rw [own_A_at _ hi]; exact h i hi)
theorem own_lows_len : ∀ cs : List Int32, (own_lows cs).length = cs.length
  | [] => rfl
  | c :: cs => by
    show (own_lows cs).length + 1 = cs.length + 1
    rw [own_lows_len cs]
theorem own_wide_len : ∀ cs : List Int32, (own_wide cs).length = 2 * cs.length
  | [] => rfl
  | c :: cs => by
    show (own_wide cs).length + 1 + 1 = 2 * (cs.length + 1)
    rw [own_wide_len cs]
    omega
theorem own_lowsA (cs : List Int32) : own_lows cs = own_A cs.length (own_fL cs) := own_A_of (own_lows_len cs) (fun i hi => own_lows_at _ cs i hi)
theorem own_wideA (cs : List Int32) : own_wide cs = own_A (2 * cs.length) (own_fW cs) := own_A_of (own_wide_len cs) (fun j hj => by
  unfold own_fW
  by_cases e : j % 2 = 0
  · rw [if_pos e]
    have q := own_wide_0 (.int (0 : Int32)) cs (j / 2) (by omega)
    rw [show 2 * (j / 2) = j by omega] at q
    exact q
  · rw [if_neg e]
    have q := own_wide_1 (.int (0 : Int32)) cs (j / 2) (by omega)
    rw [show 2 * (j / 2) + 1 = j by omega] at q
    exact q)
theorem own_nilD (i : Nat) : ([] : List Int32).getD i 0 = 0 := by simp
theorem own_fL0 (i : Nat) : own_fL [] i = .int (0 : Int32) := by
  unfold own_fL
  rw [own_nilD, show own_lo 0 = 0 from by decide]
theorem own_fW0 (i : Nat) : own_fW [] i = .int (0 : Int32) := by
  unfold own_fW
  rw [own_nilD, show own_b0 0 = 0 from by decide, show own_b1 0 = 0 from by decide]
  split <;> rfl
theorem own_repD (m i : Nat) (h : i < m) : (List.replicate m (Value.int (0 : Int32))).getD i (.int (0 : Int32)) = .int (0 : Int32) := by
  rw [List.getD_eq_getElem?_getD, List.getElem?_replicate, if_pos h]
  rfl
theorem own_repL (m : Nat) : List.replicate m (Value.int (0 : Int32)) = own_A m (own_fL []) := own_A_of (by simp) (fun i hi => by rw [own_fL0]; exact own_repD m i hi)
theorem own_repW (m : Nat) : List.replicate m (Value.int (0 : Int32)) = own_A m (own_fW []) := own_A_of (by simp) (fun i hi => by rw [own_fW0]; exact own_repD m i hi)
theorem own_A_set {m : Nat} {f : Nat → Value} {i : Nat} (v : Value) (h : i < m) : (own_A m f).set i v = own_A m (fun j => if j = i then v else f j) := own_A_of (by rw [List.length_set, own_A_len]) (fun j hj => by
  rw [List.getD_eq_getElem?_getD]
  by_cases e : j = i
  · subst e
    rw [List.getElem?_set_self (by rw [own_A_len]; exact hj), if_pos rfl]
    rfl
  · rw [List.getElem?_set_ne (fun q => e q.symm), if_neg e, ← List.getD_eq_getElem?_getD]
    exact own_A_at _ hj)
theorem own_tkD (cs : List Int32) (i j : Nat) : (cs.take i).getD j 0 = if j < i then cs.getD j 0 else 0 := by
  rw [List.getD_eq_getElem?_getD, List.getElem?_take]
  by_cases h : j < i
  · rw [if_pos h, if_pos h, List.getD_eq_getElem?_getD]
  · rw [if_neg h, if_neg h]
    rfl
theorem own_setL {cs : List Int32} {n i : Nat} (h : i < n) : (own_A n (own_fL (cs.take i))).set i (.int (own_lo (cs.getD i 0))) = own_A n (own_fL (cs.take (i + 1))) := by
  rw [own_A_set _ h]
  refine own_A_ext (fun j _ => ?_)
  unfold own_fL
  rw [own_tkD, own_tkD]
  by_cases e : j = i
  · subst e
    rw [if_pos rfl, if_pos (by omega)]
  · rw [if_neg e]
    by_cases q : j < i
    · rw [if_pos q, if_pos (by omega)]
    · rw [if_neg q, if_neg (by omega)]
theorem own_setW {cs : List Int32} {n i : Nat} (h : i < n) : ((own_A (2 * n) (own_fW (cs.take i))).set (2 * i) (.int (own_b0 (cs.getD i 0)))).set (2 * i + 1) (.int (own_b1 (cs.getD i 0))) = own_A (2 * n) (own_fW (cs.take (i + 1))) := by
  rw [own_A_set _ (by omega), own_A_set _ (by omega)]
  refine own_A_ext (fun j _ => ?_)
  unfold own_fW
  rw [own_tkD, own_tkD]
  by_cases e1 : j = 2 * i + 1
  · subst e1
    rw [if_pos rfl, if_neg (by omega), show (2 * i + 1) / 2 = i by omega, if_pos (by omega)]
  · rw [if_neg e1]
    by_cases e0 : j = 2 * i
    · subst e0
      rw [if_pos rfl, if_pos (by omega), show (2 * i) / 2 = i by omega, if_pos (by omega)]
    · rw [if_neg e0]
      by_cases q : j / 2 < i
      · rw [if_pos q, if_pos (show j / 2 < i + 1 by omega)]
      · rw [if_neg q, if_neg (show ¬ j / 2 < i + 1 by omega)]
/-- a copy of n places of vs to place p of ws -/
def own_put (ws : List Value) (p n : Nat) (vs : List Value) : List Value := own_A ws.length (fun k => if p ≤ k ∧ k < p + n then vs.getD (k - p) (.int (0 : Int32)) else ws.getD k (.int (0 : Int32)))
theorem own_putA {m m1 p n : Nat} {f g : Nat → Value} (h1 : n ≤ m1) : own_put (own_A m f) p n (own_A m1 g) = own_A m (fun k => if p ≤ k ∧ k < p + n then g (k - p) else f k) := by
  unfold own_put
  rw [own_A_len]
  refine own_A_ext (fun k hk => ?_)
  by_cases e : p ≤ k ∧ k < p + n
  · rw [if_pos e, if_pos e, own_A_at _ (by omega)]
  · rw [if_neg e, if_neg e, own_A_at _ hk]
/-- Latin-1: the signs ds behind the first p of cs -/
theorem own_catL {cs ds : List Int32} {m m1 p n : Nat} (h1 : n ≤ m1) (hd : ∀ j, j < n → ds.getD j 0 = cs.getD (p + j) 0) : own_put (own_A m (own_fL (cs.take p))) p n (own_A m1 (own_fL ds)) = own_A m (own_fL (cs.take (p + n))) := by
  rw [own_putA h1]
  refine own_A_ext (fun k _ => ?_)
  unfold own_fL
  rw [own_tkD, own_tkD]
  by_cases e : p ≤ k ∧ k < p + n
  · rw [if_pos e, if_pos e.2, hd (k - p) (by omega), show p + (k - p) = k by omega]
  · rw [if_neg e]
    by_cases q : k < p
    · rw [if_pos q, if_pos (by omega)]
    · rw [if_neg q, if_neg (by omega)]
theorem own_catW {cs ds : List Int32} {m m1 p n : Nat} (h1 : 2 * n ≤ m1) (hd : ∀ j, j < n → ds.getD j 0 = cs.getD (p + j) 0) : own_put (own_A m (own_fW (cs.take p))) (2 * p) (2 * n) (own_A m1 (own_fW ds)) = own_A m (own_fW (cs.take (p + n))) := by
  rw [own_putA h1]
  refine own_A_ext (fun k _ => ?_)
  unfold own_fW
  rw [own_tkD, own_tkD]
  by_cases e : 2 * p ≤ k ∧ k < 2 * p + 2 * n
  · rw [if_pos e, if_pos (show k / 2 < p + n by omega), hd ((k - 2 * p) / 2) (by omega), show p + (k - 2 * p) / 2 = k / 2 by omega, show (k - 2 * p) % 2 = k % 2 by omega]
  · rw [if_neg e]
    by_cases q : k / 2 < p
    · rw [if_pos q, if_pos (show k / 2 < p + n by omega)]
    · rw [if_neg q, if_neg (show ¬ k / 2 < p + n by omega)]
/-- the whole of a shorter array into a longer one of noughts; or its first n places, where all signs are among them -/
theorem own_growL {cs : List Int32} {m m1 n k : Nat} (h1 : n ≤ m1) (hk : k ≤ n) : own_put (own_A m (own_fL [])) 0 n (own_A m1 (own_fL (cs.take k))) = own_A m (own_fL (cs.take k)) := by
  rw [own_putA h1]
  refine own_A_ext (fun j _ => ?_)
  by_cases e : 0 ≤ j ∧ j < 0 + n
  · rw [if_pos e, Nat.sub_zero]
  · rw [if_neg e, own_fL0]
    unfold own_fL
    rw [own_tkD, if_neg (by omega), show own_lo 0 = 0 from by decide]
theorem own_growW {cs : List Int32} {m m1 n k : Nat} (h1 : n ≤ m1) (hk : 2 * k ≤ n) : own_put (own_A m (own_fW [])) 0 n (own_A m1 (own_fW (cs.take k))) = own_A m (own_fW (cs.take k)) := by
  rw [own_putA h1]
  refine own_A_ext (fun j _ => ?_)
  by_cases e : 0 ≤ j ∧ j < 0 + n
  · rw [if_pos e, Nat.sub_zero]
  · rw [if_neg e, own_fW0]
    unfold own_fW
    have q : ¬ j / 2 < k := by omega
    rw [own_tkD, if_neg q, show own_b0 0 = 0 from by decide, show own_b1 0 = 0 from by decide]
    split <;> rfl
theorem own_getN {a : Array Value} {i : Nat} {v : Value} (h : a[i]? = some v) : a.getD i .null = v := Jvm.Free.SBG.getD_of h
section OwnCopy
variable {p : Program} {l : Launch} {e : Env} {R : Room} {s : State} {m : MethodId} {args : Array Value} {below : List Frame} {meth : Method} {c : Code} {T : State} {locs : List Loc} {cells slots : Nat} {Z : State} {a0 : Array Value} {h : Heap}
theorem own_acopy (X : Stand p l e R s m args below meth c T locs cells slots) (hx : p.tables.exec = Jvm.exec) (hZ : Z.Warmed39 s.vm) {own : String} {index : Nat} (hown : s.vm.findClass own = some m.cls)
    (w1 : (Cond.methodLink own index arraycopyName).before a0 Z = true) (w2 : (Cond.native arraycopyName).before a0 Z = true) (w3 : (Cond.static arraycopyName).before a0 Z = true) (w4 : (Cond.initialized "java/lang/System").before a0 Z = true)
    (eT : T.heap = h) {src dst : Addr} {k1 k2 : ClassId} {z1 z2 : Int32} {vs ws : List Value} (V1 : Arv Z h src k1 .byte z1 vs (.int (0 : Int32))) (V2 : Arv Z h dst k2 .byte z2 ws (.int (0 : Int32)))
    (dp n : Nat) (h31 : dp + n < 2 ^ 31) (hs : n ≤ z1.toNatClampNeg) (hd : dp + n ≤ z2.toNatClampNeg) (hl : ws.length = z2.toNatClampNeg)
    {g : JFrame} (hg : g.method = m) (hsize : g.locals.size = c.maxLocals) {rest : List Value} (hst : g.stack = .int (Int32.ofNat n) :: .int (Int32.ofNat dp) :: .ref dst :: .int (0 : Int32) :: .ref src :: rest) (hdg : decode c.code g.pc = .ok (.invokestatic index, 3))
    (hf : 1 ≤ R.frames) {W : Nat} (hW : 2 * g.monitorRoom + (rest.map fun v => v.category).sum ≤ W) (hlo : W + (nativeFrameWords "java/lang/System" "arraycopy" 5 + 11) ≤ R.locals) :
    ∃ (T' : State) (h' : Heap) (L' : List Loc), Stand p l e R s m args below meth c T' (locs ++ L') cells slots ∧ T'.heap = h' ∧ Keep h h' [dst] ∧ (∀ y ∈ L', y.base = dst) ∧ Arv Z h' dst k2 .byte z2 (own_put ws dp n vs) (.int (0 : Int32)) ∧
      ∀ target, Steps p.tables e below (T'.setTop { g with pc := g.pc + 3, stack := rest }) target → Steps p.tables e below (T.setTop g) target := by
  obtain ⟨c1, A1, q1, S1, N1, H1, G1⟩ := V1
  obtain ⟨c2, A2, q2, S2, N2, H2, G2⟩ := V2
  obtain ⟨t1, ks, hks, sc, hsk⟩ := State.isArrayOf_alike hZ.alike A1.2.1
  obtain ⟨t2, kd, hkd, dc, hdk⟩ := State.isArrayOf_alike hZ.alike A2.2.1
  have on := own_ofn (i := n) (by omega)
  have op := own_ofn (i := dp) (by omega)
  have en : (Int32.ofNat n).toInt = n := Int32.toInt_ofNat_small (by omega)
  have ep : (Int32.ofNat dp).toInt = dp := Int32.toInt_ofNat_small (by omega)
  have e0 : (0 : Int32).toInt = 0 := rfl
  have e00 : (0 : Int32).toNatClampNeg = 0 := rfl
  have gv : ∀ j, j < c1.slots.size → c1.slots.getD j .null = vs.getD j (.int (0 : Int32)) := fun j hj => own_getN (H1 j hj)
  have ht : c1.vm ≠ .unknown := A1.2.2
  have hc1 : T.heap[src]? = some c1 := by rw [eT]; exact A1.1
  have hc2 : T.heap[dst]? = some c2 := by rw [eT]; exact A2.1
  obtain ⟨vm', X', st⟩ := X.arraycopy hx hown (mv hZ w1) (mv hZ w2) (mv hZ w3) (mv hZ w4) (src := src) (dst := dst) (srcPos := (0 : Int32)) (destPos := Int32.ofNat dp) (n := Int32.ofNat n) (cs := c1) (cd := c2) (ks := ks) (kd := kd) (sComp := sc) (dComp := dc) (sType := .byte) (dType := .byte)
    hc1 hc2 t1 t2 ht A2.2.2 hks hkd hsk hdk (by decide) (by decide) op.1 on.1
    (by rw [e0, en]; omega) (by rw [ep, en]; omega)
    (fun vm'' _ i hi => by
      rw [on.2] at hi
      rw [e00, Nat.zero_add, gv i (by omega)]
      have q := G1 i (by omega)
      refine ⟨q, ?_⟩
      obtain ⟨x, hx'⟩ := fit_I q (Or.inr (Or.inr (Or.inl rfl)))
      rw [hx']
      trivial)
    hg hsize hst hdg hf (by omega)
  have F := Jvm.Free.SB.copied_facts c1 c2 0 (Int32.ofNat dp) (Int32.ofNat n)
  have lt : dst < h.size := A2.lt
  have hN : (h.setIfInBounds dst (copied c1 c2 0 (Int32.ofNat dp) (Int32.ofNat n)))[dst]? = some (copied c1 c2 0 (Int32.ofNat dp) (Int32.ofNat n)) := by rw [Array.getElem?_setIfInBounds_self_of_lt lt]
  have hat : ∀ k, k < c2.slots.size → (copied c1 c2 0 (Int32.ofNat dp) (Int32.ofNat n)).slots[k]? = some ((own_put ws dp n vs).getD k (.int (0 : Int32))) := fun k hk => by
    rw [Jvm.Free.SBG.copied_at (by omega) (by omega) (by omega) k]
    unfold own_put
    rw [own_A_at _ (by omega)]
    by_cases q : dp ≤ k ∧ k < dp + n
    · rw [if_pos q, if_pos q, gv (k - dp) (by omega)]
    · rw [if_neg q, if_neg q]
      exact H2 k hk
  refine ⟨_, h.setIfInBounds dst (copied c1 c2 0 (Int32.ofNat dp) (Int32.ofNat n)), _, X', ?_, ?_, ?_, ⟨copied c1 c2 0 (Int32.ofNat dp) (Int32.ofNat n), ⟨hN, ?_, ?_⟩, F.1.trans q2, F.2.2.trans S2, N2, fun k hk => hat k (by rw [F.2.2] at hk; exact hk), fun k hk => ?_⟩, st⟩
  · rw [← eT]; rfl
  · refine ⟨by simp, fun x c' q r => ?_, fun x c' q => ?_⟩
    · have hne : dst ≠ x := fun z => r (by simp [z])
      rw [Array.getElem?_setIfInBounds_ne hne]; exact q
    · by_cases z : dst = x
      · subst z
        cases A2.1.symm.trans q
        exact ⟨_, hN, F.1, F.2.1, F.2.2⟩
      · exact ⟨c', by rw [Array.getElem?_setIfInBounds_ne z]; exact q, rfl, rfl, rfl⟩
  · intro y hy
    obtain ⟨q, -, rfl⟩ := List.mem_map.mp hy
    rfl
  · obtain ⟨u1, u2, u3, u4⟩ := A2.2.1
    exact ⟨fun k z => u1 k (F.2.1 ▸ z), u2, by rw [F.1]; exact u3, u4⟩
  · rw [F.2.1]; exact A2.2.2
  · rw [F.2.2] at hk
    unfold own_put
    rw [own_A_at _ (by omega)]
    by_cases q : dp ≤ k ∧ k < dp + n
    · rw [if_pos q]; exact G1 _ (by omega)
    · rw [if_neg q]; exact G2 k hk
end OwnCopy
theorem own_mapV (cs : List Int32) (i : Nat) (d : Value) (h : i < cs.length) : (cs.map Value.int).getD i d = .int (cs.getD i 0) := by
  rw [List.getD_eq_getElem?_getD, List.getElem?_map, List.getElem?_eq_getElem h, List.getD_eq_getElem?_getD, List.getElem?_eq_getElem h]
  rfl
theorem own_allN {cs : List Int32} (h : ∀ j, j < cs.length → ¬ (255 : Int32) < cs.getD j 0) : ∀ c ∈ cs, ¬ (255 : Int32) < c := fun c hc => by
  obtain ⟨i, hi, e⟩ := List.getElem_of_mem hc
  have k := h i hi
  rw [List.getD_eq_getElem?_getD, List.getElem?_eq_getElem hi] at k
  rw [← e]
  exact k
theorem own_moreN {cs : List Int32} {i : Nat} (h : ∀ j, j < i → ¬ (255 : Int32) < cs.getD j 0) (q : ¬ (255 : Int32) < cs.getD i 0) : ∀ j, j < i + 1 → ¬ (255 : Int32) < cs.getD j 0 := fun j hj => by
  by_cases e : j = i
  · rw [e]; exact q
  · exact h j (by omega)
theorem own_ascii : ∀ cs : List Int32, (∀ c ∈ cs, own_lo c = c) → cs.map Value.int = own_lows cs
  | [], _ => rfl
  | c :: cs, h => by
    show Value.int c :: cs.map Value.int = Value.int (own_lo c) :: own_lows cs
    rw [own_ascii cs (fun x hx => h x (List.mem_cons_of_mem _ hx)), h c (List.mem_cons_self ..)]
theorem own_nf {args : Array Value} {s : State} {C : String} {y z : MethodName} (hs : (Cond.selects C z z).before args s = true) (hz : z.cls = y.cls) : NotFace s y := fun r0 h0 => by
  obtain ⟨c2, r2, m2, q1, q2, q3, q4, kP, hkP, hkPi⟩ := Cond.selects_spec hs
  have hc := findClass_of_methodNamed h0
  have hc2 := findClass_of_methodNamed q3
  rw [hz] at hc2
  have e : r0.cls = m2.cls := Option.some.inj (hc.symm.trans hc2)
  exact ⟨kP, by rw [e]; exact hkP, hkPi⟩
theorem own_finL {ts : List Int32} {k : Nat} (h : ts.length = k) : own_A k (own_fL (ts.take k)) = own_lows ts := by
  subst h
  rw [List.take_of_length_le (Nat.le_refl _), own_lowsA]
theorem own_finW {ts : List Int32} {m k : Nat} (hm : m = 2 * k) (h : ts.length = k) : own_A m (own_fW (ts.take k)) = own_wide ts := by
  subst hm h
  rw [List.take_of_length_le (Nat.le_refl _), own_wideA]
theorem own_intAt {Z : State} {h : Heap} {b : Addr} {k : ClassId} {N : Int32} {vs : List Value} {dv : Value} (V : Arv Z h b k .byte N vs dv) {i : Nat} (hi : i < N.toNatClampNeg) : ∃ x, vs.getD i dv = .int x := by
  obtain ⟨c, A, q, S, Nn, H, G⟩ := V
  exact fit_I (G i (by omega)) (Or.inr (Or.inr (Or.inl rfl)))
section OwnCst
variable {p : Program} {l : Launch} {e : Env} {R : Room} {s : State} {m : MethodId} {args : Array Value} {below : List Frame} {meth : Method} {c : Code} {T : State} {locs : List Loc} {cells slots : Nat} {Z : State} {h : Heap}
def own_fC (ps : List Int32) (i : Nat) : Value := .int (ps.getD i 0)
theorem own_repC {m : Nat} {cs : List Int32} : List.replicate m (Value.int (0 : Int32)) = own_A m (own_fC (cs.take 0)) := own_A_of (by simp) (fun i hi => by rw [own_repD m i hi]; unfold own_fC; rw [own_tkD, if_neg (by omega)])
theorem own_setC {cs : List Int32} {n i : Nat} (h : i < n) : (own_A n (own_fC (cs.take i))).set i (.int (cs.getD i 0)) = own_A n (own_fC (cs.take (i + 1))) := by
  rw [own_A_set _ h]
  refine own_A_ext (fun j _ => ?_)
  unfold own_fC
  rw [own_tkD, own_tkD]
  by_cases e : j = i
  · subst e
    rw [if_pos rfl, if_pos (by omega)]
  · rw [if_neg e]
    by_cases q : j < i
    · rw [if_pos q, if_pos (by omega)]
    · rw [if_neg q, if_neg (by omega)]
theorem own_fullC {cs : List Int32} {n : Nat} (h : cs.length = n) : own_A n (own_fC (cs.take n)) = cs.map Value.int := by
  subst h
  rw [List.take_of_length_le (Nat.le_refl _)]
  exact (own_A_of (by simp) (fun i hi => own_mapV cs i _ hi)).symm
/-- a sign is stored at the next place of a char array that is being filled (wide) -/
theorem own_cst {EL : List (String × Nat)} {a0 : Array Value} {vm0 : Vm} {h0 hb hf : Heap} {n0 n i : Nat} {b : Addr} {k : ClassId} {cs : List Int32} {z x : Int32} (X : Stand p l e R (s.setVm vm0) m args below meth c T locs cells slots) (hx : p.tables.exec = Jvm.exec) (hZ : Z.Warmed39 (s.setVm vm0).vm) (eT : T.heap = h) (V : Arv Z h b k .char z (own_A n (own_fC (cs.take i))) (.int (0 : Int32)))
    (W : own_Wd Z a0 EL s h0 vm0 h) (N : Fr n0 locs) (O : Old Z n0 h) (Z0 : n0 ≤ h.size) (K : Keep hb h []) (K2 : Keep hf h [b]) (ge : n0 ≤ b) (sz : hb.size ≤ b) (hi : i < n) (hz : (Int32.ofNat i).toNatClampNeg = i ∧ ¬ Int32.ofNat i < (0 : Int32) ∧ Int32.ofNat i < z) (hv : cs.getD i 0 = x) (hc : 0 ≤ x.toInt ∧ x.toInt ≤ 65535)
    {pc : Nat} {Ls : Array Slot} {rest : List Value} (hd : decode c.code pc = .ok (.castore, 1)) :
    ∃ (T' : State) (h' : Heap) (L' : List Loc), Stand p l e R (s.setVm vm0) m args below meth c T' L' cells slots ∧ T'.heap = h' ∧ Arv Z h' b k .char z (own_A n (own_fC (cs.take (i + 1)))) (.int (0 : Int32)) ∧ own_Wd Z a0 EL s h0 vm0 h' ∧ Fr n0 L' ∧ Old Z n0 h' ∧ n0 ≤ h'.size ∧ Keep hb h' [] ∧ Keep hf h' [b] ∧
      ∀ t, Steps p.tables e below (T'.setTop (mkF m (pc + 1) Ls rest)) t → Steps p.tables e below (T.setTop (mkF m pc Ls (.int x :: .int (Int32.ofNat i) :: .ref b :: rest))) t := by
  have V0 := V
  obtain ⟨cl, Ar, q, S, Nn, H, G⟩ := V
  have hin : ¬ (Int32.ofNat i < 0 ∨ cl.slots.size ≤ (Int32.ofNat i).toNatClampNeg) := inb_of S hz.2
  obtain ⟨T1, h1, X1, e1, W1, st⟩ := stC X hx hZ eT Ar (j := Int32.ofNat i) hin (g := mkF m pc Ls (.int x :: .int (Int32.ofNat i) :: .ref b :: rest)) rfl rfl hd
  have V1 := Arv.set Ar q S Nn H G (fits_nar_char _) W1 i hz.1 (by rw [own_A_len]; exact hi)
  have V2 : Arv Z h1 b k .char z ((own_A n (own_fC (cs.take i))).set i (.int (cs.getD i 0))) (.int (0 : Int32)) := by
    have q := V1
    first
      | (rw [own_narc hc] at q; rw [hv]; exact q)
      | (rw [own_i2c hc] at q; rw [hv]; exact q)
  rw [own_setC hi] at V2
  exact ⟨T1, h1, _, X1, e1, V2, W.wr W1 (own_safeV hZ.alike V0 (by simp)), Fr.snoc X1 N ge, Old.wr O W1 ge, Nat.le_trans Z0 (Nat.le_of_eq W1.size.symm), K.wr W1 (Or.inr sz), K2.wr W1 (Or.inl (List.mem_singleton.mpr rfl)), st⟩
end OwnCst

def own_K0 : List Int32 := [116, 104, 101, 114, 101, 32, 105, 115, 32, 110, 111, 32, 115, 117, 99, 104, 32]
def own_K1 : List Int32 := [105, 116, 115, 32, 110, 97, 109, 101, 32, 104, 111, 108, 100, 115, 32, 98, 121, 116, 101, 115, 32, 116, 104, 97, 116, 32, 116, 104, 101, 32, 108, 111, 99, 97, 108, 101, 39, 115, 32, 99, 104, 97, 114, 97, 99, 116, 101, 114, 32, 115, 101, 116, 32, 99, 97, 110, 110, 111, 116, 32, 100, 101, 99, 111, 100, 101, 44, 32, 115, 111, 32, 110, 111, 32]
def own_K2 : List Int32 := [32, 99, 97, 110, 32, 98, 101, 32, 111, 112, 101, 110, 101, 100, 32, 98, 121, 32, 105, 116]
def own_T19 (w0 w1 : Int32) : List Int32 := own_K0 ++ [w0, w1]
def own_T96 (w0 w1 : Int32) : List Int32 := (own_K1 ++ [w0, w1]) ++ own_K2
theorem own_appD {xs ys : List Int32} {j : Nat} (h : j < xs.length) : (xs ++ ys).getD j 0 = xs.getD j 0 := by
  rw [List.getD_eq_getElem?_getD, List.getElem?_append_left h, List.getD_eq_getElem?_getD]
theorem own_appE {xs ys : List Int32} {n : Nat} (hn : xs.length = n) (j : Nat) : (xs ++ ys).getD (n + j) 0 = ys.getD j 0 := by
  subst hn
  rw [List.getD_eq_getElem?_getD, List.getElem?_append_right (by omega), Nat.add_sub_cancel_left, List.getD_eq_getElem?_getD]
theorem own_d1a (w0 w1 : Int32) : ∀ j, j < 17 → own_K0.getD j 0 = (own_T19 w0 w1).getD (0 + j) 0 := fun j hj => by rw [Nat.zero_add]; exact (own_appD (show j < own_K0.length from hj)).symm
theorem own_d1b (w0 w1 : Int32) : ∀ j, j < 2 → ([w0, w1] : List Int32).getD j 0 = (own_T19 w0 w1).getD (17 + j) 0 := fun j _ => (own_appE (xs := own_K0) rfl j).symm
theorem own_d2a (w0 w1 : Int32) : ∀ j, j < 74 → own_K1.getD j 0 = (own_T96 w0 w1).getD (0 + j) 0 := fun j hj => by
  rw [Nat.zero_add]
  exact ((own_appD (show j < (own_K1 ++ [w0, w1]).length by rw [List.length_append]; exact Nat.lt_of_lt_of_le hj (Nat.le_add_right 74 2))).trans (own_appD (show j < own_K1.length from hj))).symm
theorem own_d2b (w0 w1 : Int32) : ∀ j, j < 2 → ([w0, w1] : List Int32).getD j 0 = (own_T96 w0 w1).getD (74 + j) 0 := fun j hj =>
  ((own_appD (show 74 + j < (own_K1 ++ [w0, w1]).length by rw [List.length_append]; exact Nat.add_lt_add_left hj 74)).trans (own_appE (xs := own_K1) rfl j)).symm
theorem own_d2c (w0 w1 : Int32) : ∀ j, j < 20 → own_K2.getD j 0 = (own_T96 w0 w1).getD (76 + j) 0 := fun j _ => (own_appE (xs := own_K1 ++ [w0, w1]) rfl j).symm
theorem own_ask0 : ∀ c ∈ own_K0, own_lo c = c ∧ ¬ (255 : Int32) < c ∧ (0 ≤ c.toInt ∧ c.toInt ≤ 65535) := by decide +kernel
theorem own_ask1 : ∀ c ∈ own_K1, own_lo c = c ∧ ¬ (255 : Int32) < c ∧ (0 ≤ c.toInt ∧ c.toInt ≤ 65535) := by decide +kernel
theorem own_ask2 : ∀ c ∈ own_K2, own_lo c = c ∧ ¬ (255 : Int32) < c ∧ (0 ≤ c.toInt ∧ c.toInt ≤ 65535) := by decide +kernel
theorem own_T19m {w0 w1 c : Int32} (h : c ∈ own_T19 w0 w1) : c ∈ own_K0 ∨ c = w0 ∨ c = w1 := by
  rcases List.mem_append.mp h with q | q
  · exact Or.inl q
  · simp only [List.mem_cons, List.not_mem_nil, or_false] at q
    exact Or.inr q
theorem own_T96m {w0 w1 c : Int32} (h : c ∈ own_T96 w0 w1) : (c ∈ own_K1 ∨ c ∈ own_K2) ∨ c = w0 ∨ c = w1 := by
  rcases List.mem_append.mp h with q | q
  · rcases List.mem_append.mp q with q | q
    · exact Or.inl (Or.inl q)
    · simp only [List.mem_cons, List.not_mem_nil, or_false] at q
      exact Or.inr q
  · exact Or.inl (Or.inr q)
theorem own_T19c {w0 w1 : Int32} (h0 : 0 ≤ w0.toInt ∧ w0.toInt ≤ 65535) (h1 : 0 ≤ w1.toInt ∧ w1.toInt ≤ 65535) : ∀ c ∈ own_T19 w0 w1, 0 ≤ c.toInt ∧ c.toInt ≤ 65535 := fun c hc => by
  rcases own_T19m hc with q | rfl | rfl
  · exact (own_ask0 c q).2.2
  · exact h0
  · exact h1
theorem own_T96c {w0 w1 : Int32} (h0 : 0 ≤ w0.toInt ∧ w0.toInt ≤ 65535) (h1 : 0 ≤ w1.toInt ∧ w1.toInt ≤ 65535) : ∀ c ∈ own_T96 w0 w1, 0 ≤ c.toInt ∧ c.toInt ≤ 65535 := fun c hc => by
  rcases own_T96m hc with (q | q) | rfl | rfl
  · exact (own_ask1 c q).2.2
  · exact (own_ask2 c q).2.2
  · exact h0
  · exact h1
theorem own_T19l {w0 w1 : Int32} (h : ∀ c ∈ ([w0, w1] : List Int32), ¬ (255 : Int32) < c) : ∀ c ∈ own_T19 w0 w1, ¬ (255 : Int32) < c := fun c hc => by
  rcases own_T19m hc with q | rfl | rfl
  · exact (own_ask0 c q).2.1
  · exact h _ (by simp)
  · exact h _ (by simp)
theorem own_T96l {w0 w1 : Int32} (h : ∀ c ∈ ([w0, w1] : List Int32), ¬ (255 : Int32) < c) : ∀ c ∈ own_T96 w0 w1, ¬ (255 : Int32) < c := fun c hc => by
  rcases own_T96m hc with (q | q) | rfl | rfl
  · exact (own_ask1 c q).2.1
  · exact (own_ask2 c q).2.1
  · exact h _ (by simp)
  · exact h _ (by simp)
theorem own_T19w {w0 w1 : Int32} (h : ∃ c ∈ ([w0, w1] : List Int32), (255 : Int32) < c) : ∃ c ∈ own_T19 w0 w1, (255 : Int32) < c := by
  obtain ⟨c, hc, q⟩ := h
  exact ⟨c, List.mem_append.mpr (Or.inr hc), q⟩
theorem own_T96w {w0 w1 : Int32} (h : ∃ c ∈ ([w0, w1] : List Int32), (255 : Int32) < c) : ∃ c ∈ own_T96 w0 w1, (255 : Int32) < c := by
  obtain ⟨c, hc, q⟩ := h
  exact ⟨c, List.mem_append.mpr (Or.inl (List.mem_append.mpr (Or.inr hc))), q⟩
def own_TX (u w0 w1 : Int32) : List Int32 := if u = 0 then own_T19 w0 w1 else own_T96 w0 w1
def own_ud (cs : List Int32) : Int32 := if (65533 : Int32) ∈ cs then 1 else 0
def own_tk (n c0 c1 c2 : Int32) : List Int32 := if n = 0 then [] else if n = 1 then [c0] else if n = 2 then [c0, c1] else [c0, c1, c2]
theorem own_c16 (z : Int32) : 0 ≤ (z.toUInt32.toUInt16.toUInt32.toInt32).toInt ∧ (z.toUInt32.toUInt16.toUInt32.toInt32).toInt ≤ 65535 := by
  have q := c_i2c z
  omega
theorem own_lo255 {c : Int32} (h : 0 ≤ c.toInt ∧ c.toInt ≤ 255) : own_lo c &&& (255 : Int32) = c := by
  have a := own_and255 (own_lo c)
  have b := c_i2b c
  rw [← Int32.toInt_inj, a]
  show (c.toInt8.toInt32).toInt % 256 = _
  omega
theorem own_S.exa {Z : State} {h : Heap} {a : Addr} {cs : List Int32} (F : own_S Z h a cs) : Exa Z h a "java/lang/String" := by
  obtain ⟨t, kb, cd, N, vs, f1, f2, f3, f4, f5⟩ := F
  exact f1
theorem own_S.keep0 {Z : State} {h h' : Heap} {a : Addr} {cs : List Int32} (F : own_S Z h a cs) (K : Keep h h' []) : own_S Z h' a cs := by
  obtain ⟨t, kb, cd, N, vs, f1, f2, f3, f4, f5⟩ := F
  exact ⟨t, kb, cd, N, vs, f1.keep K, f2.keep K nin0, f3.keep K nin0, f4.keep K nin0, f5⟩
theorem own_CodU {cs : List Int32} {cd N cd' N' : Int32} {vs vs' : List Value} (h : own_Cod cs cd N vs) (h' : own_Cod cs cd' N' vs') : cd = cd' ∧ N = N' ∧ vs = vs' := by
  rcases h with ⟨rfl, rfl, rfl, q⟩ | ⟨rfl, rfl, rfl, q⟩ <;> rcases h' with ⟨rfl, rfl, rfl, q'⟩ | ⟨rfl, rfl, rfl, q'⟩
  · exact ⟨rfl, rfl, rfl⟩
  · obtain ⟨c, hc, k⟩ := q'; exact absurd k (q c hc)
  · obtain ⟨c, hc, k⟩ := q; exact absurd k (q' c hc)
  · exact ⟨rfl, rfl, rfl⟩
theorem own_ltz {i n : Nat} (hn : n ≤ 1000) (hi : i ≤ n) : Int32.ofNat i < Int32.ofNat n ↔ i < n := own_ltn hn hi

def Q300 (r : Int32) (h0 : Heap) (n0 : Nat) (v : Option Value) (h : Heap) (L : List Loc) : Prop := v = some (.int r) ∧ Fr n0 L ∧ h = h0

theorem rm300 (l : Launch) (Z : State) (a0 : Array Value) (hw : own_HW a0 Z) (ws : List Jvm.Cond) (b1 : Addr) (k1 : ClassId) (i : Nat) (cs : List Int32) (h0 : Heap) (n0 : Nat) (hi : i < cs.length) (hl : cs.length ≤ 1000) (hc : 0 ≤ (cs.getD i 0).toInt ∧ (cs.getD i 0).toInt ≤ 65535) (V1 : Arv Z h0 b1 k1 .byte (Int32.ofNat (2 * cs.length)) (own_wide cs) (.int (0 : Int32))) (G1 : Int32) (US : own_US Z G1) (O0 : Old Z n0 h0) :
  own_Met l own_M0 jdk_52_method_5_code 2 (some .char) ws own_R_0_0_0_0 Z #[(.ref b1), (.int (Int32.ofNat i))] h0 (Q300 (cs.getD i 0) h0 n0) := by
 refine own_enter #[.val (.ref b1), .val (.int (Int32.ofNat i))] (plainFor_of_name pn_java_lang_StringUTF16) (fun m => ef_RI_2 m b1 (Int32.ofNat i)) ?_
 intro p e s m below meth c s₁ hx hby hml hown hnm hZ hrt hlk X0 e0
 have w := @own_w _ _ hw
 have N0 := Fr.nil n0
 obtain ⟨T51, X51, e51, st51⟩ := getS2 X0 hx hZ hown (host := "") (Or.inl (w 217 rfl)) Via.refl e0 (US.2.2.1.ext O0.2) (g := (mkF m 0 #[.val (.ref b1), .val (.int (Int32.ofNat i))] [])) rfl (hb hby dj52m5_0)
 refine own_tp (.int (1 : Int32)) 3 st51 ?_
 refine own_d1 28 (fun _ q => XS.ifYes X51.here hx rfl (pc0 := 3) (pc' := 28) rfl (hb hby dj52m5_3) rfl ((if0 _ _).trans (feq (by decide : ¬ ((1 : Int32) = (0 : Int32)))).2) (by decide) (by decide) q) ?_
 refine own_tp (.int (Int32.ofNat i)) 29 (fun _ q => XS.iloadN X51.here hx rfl (hb hby dj52m5_28) rfl q) ?_
 refine own_tp (.int (1 : Int32)) 30 (fun _ q => XS.iconst X51.here hx rfl (hb hby dj52m5_29) q) ?_
 refine own_t2 (.int ((Int32.ofNat i) <<< ((1 : Int32) &&& 31))) 31 (fun _ q => XS.ishl X51.here hx rfl (hb hby dj52m5_30) rfl q) ?_
 rw [own_shl1 (by omega)]
 refine own_ls #[.val (.ref b1), .val (.int (Int32.ofNat (2 * i)))] 32 (fun _ q => XS.istoreN X51.here hx rfl (hb hby dj52m5_31) rfl (l' := #[.val (.ref b1), .val (.int (Int32.ofNat (2 * i)))]) rfl q) ?_
 refine own_tp (.ref b1) 33 (fun _ q => XS.aloadN X51.here hx rfl (hb hby dj52m5_32) rfl rfl q) ?_
 refine own_tp (.int (Int32.ofNat (2 * i))) 34 (fun _ q => XS.iloadN X51.here hx rfl (hb hby dj52m5_33) rfl q) ?_
 refine own_li #[.val (.ref b1), .val (.int ((Int32.ofNat (2 * i)) + (1 : Int32)))] 37 (fun _ q => XS.iinc X51.here hx rfl (hb hby dj52m5_34) rfl (l' := #[.val (.ref b1), .val (.int ((Int32.ofNat (2 * i)) + (1 : Int32)))]) rfl q) ?_
 rw [own_succ]
 obtain ⟨cl52, Ar52, q52, S52, Nn52, H52, G52⟩ := (id V1)
 have hin52 : ¬ ((Int32.ofNat (2 * i)) < 0 ∨ cl52.slots.size ≤ ((Int32.ofNat (2 * i))).toNatClampNeg) := inb_of S52 (own_inb (by omega) (by omega))
 have hat52 : cl52.slots[((Int32.ofNat (2 * i))).toNatClampNeg]? = some (.int (own_b0 (cs.getD i 0))) := H52.at hin52 (by rw [(own_ofn (by omega)).2]; exact own_wide_0 _ cs i hi)
 refine own_t2 (.int (own_b0 (cs.getD i 0))) 38 (fun _ q => X51.baloadBytes hx (j := (Int32.ofNat (2 * i))) (v := (.int (own_b0 (cs.getD i 0)))) (by rw [e51]; exact Ar52.1) (State.isArrayOf_alike hZ.alike Ar52.2.1) Ar52.2.2 hin52 hat52 (g := (mkF m 37 #[.val (.ref b1), .val (.int (Int32.ofNat (2 * i + 1)))] [(.int (Int32.ofNat (2 * i))), (.ref b1)])) rfl rfl (hb hby dj52m5_37) _ q) ?_
 refine own_tp (.int (255 : Int32)) 41 (fun _ q => XS.sipush X51.here hx rfl (hb hby dj52m5_38) q) ?_
 refine own_t2 (.int ((own_b0 (cs.getD i 0)) &&& (255 : Int32))) 42 (fun _ q => XS.iand X51.here hx rfl (hb hby dj52m5_41) rfl q) ?_
 obtain ⟨T53, X53, e53, st53⟩ := getS2 X51 hx hZ hown (host := "") (Or.inl (w 218 rfl)) Via.refl e51 (US.2.2.2.1.ext O0.2) (g := (mkF m 42 #[.val (.ref b1), .val (.int (Int32.ofNat (2 * i + 1)))] [(.int ((own_b0 (cs.getD i 0)) &&& (255 : Int32)))])) rfl (hb hby dj52m5_42)
 refine own_tp (.int (0 : Int32)) 45 st53 ?_
 refine own_t2 (.int (((own_b0 (cs.getD i 0)) &&& (255 : Int32)) <<< ((0 : Int32) &&& 31))) 46 (fun _ q => XS.ishl X53.here hx rfl (hb hby dj52m5_45) rfl q) ?_
 refine own_tp (.ref b1) 47 (fun _ q => XS.aloadN X53.here hx rfl (hb hby dj52m5_46) rfl rfl q) ?_
 refine own_tp (.int (Int32.ofNat (2 * i + 1))) 48 (fun _ q => XS.iloadN X53.here hx rfl (hb hby dj52m5_47) rfl q) ?_
 obtain ⟨cl54, Ar54, q54, S54, Nn54, H54, G54⟩ := (id V1)
 have hin54 : ¬ ((Int32.ofNat (2 * i + 1)) < 0 ∨ cl54.slots.size ≤ ((Int32.ofNat (2 * i + 1))).toNatClampNeg) := inb_of S54 (own_inb (by omega) (by omega))
 have hat54 : cl54.slots[((Int32.ofNat (2 * i + 1))).toNatClampNeg]? = some (.int (own_b1 (cs.getD i 0))) := H54.at hin54 (by rw [(own_ofn (by omega)).2]; exact own_wide_1 _ cs i hi)
 refine own_t2 (.int (own_b1 (cs.getD i 0))) 49 (fun _ q => X53.baloadBytes hx (j := (Int32.ofNat (2 * i + 1))) (v := (.int (own_b1 (cs.getD i 0)))) (by rw [e53]; exact Ar54.1) (State.isArrayOf_alike hZ.alike Ar54.2.1) Ar54.2.2 hin54 hat54 (g := (mkF m 48 #[.val (.ref b1), .val (.int (Int32.ofNat (2 * i + 1)))] [(.int (Int32.ofNat (2 * i + 1))), (.ref b1), (.int (((own_b0 (cs.getD i 0)) &&& (255 : Int32)) <<< ((0 : Int32) &&& 31)))])) rfl rfl (hb hby dj52m5_48) _ q) ?_
 refine own_tp (.int (255 : Int32)) 52 (fun _ q => XS.sipush X53.here hx rfl (hb hby dj52m5_49) q) ?_
 refine own_t2 (.int ((own_b1 (cs.getD i 0)) &&& (255 : Int32))) 53 (fun _ q => XS.iand X53.here hx rfl (hb hby dj52m5_52) rfl q) ?_
 obtain ⟨T55, X55, e55, st55⟩ := getS2 X53 hx hZ hown (host := "") (Or.inl (w 219 rfl)) Via.refl e53 (US.2.2.2.2.ext O0.2) (g := (mkF m 53 #[.val (.ref b1), .val (.int (Int32.ofNat (2 * i + 1)))] [(.int ((own_b1 (cs.getD i 0)) &&& (255 : Int32))), (.int (((own_b0 (cs.getD i 0)) &&& (255 : Int32)) <<< ((0 : Int32) &&& 31)))])) rfl (hb hby dj52m5_53)
 refine own_tp (.int (8 : Int32)) 56 st55 ?_
 refine own_t2 (.int (((own_b1 (cs.getD i 0)) &&& (255 : Int32)) <<< ((8 : Int32) &&& 31))) 57 (fun _ q => XS.ishl X55.here hx rfl (hb hby dj52m5_56) rfl q) ?_
 refine own_t2 (.int ((((own_b0 (cs.getD i 0)) &&& (255 : Int32)) <<< ((0 : Int32) &&& 31)) ||| (((own_b1 (cs.getD i 0)) &&& (255 : Int32)) <<< ((8 : Int32) &&& 31)))) 58 (fun _ q => XS.ior X55.here hx rfl (hb hby dj52m5_57) rfl q) ?_
 refine own_t1 (.int (((((own_b0 (cs.getD i 0)) &&& (255 : Int32)) <<< ((0 : Int32) &&& 31)) ||| (((own_b1 (cs.getD i 0)) &&& (255 : Int32)) <<< ((8 : Int32) &&& 31))).toUInt32.toUInt16.toUInt32.toInt32)) 59 (fun _ q => XS.i2c X55.here hx rfl (hb hby dj52m5_58) rfl q) ?_
 exact own_retN (t := .char) X55 hx hrt (hb hby dj52m5_59) (by simp) hlk (by decide) (by decide) e55 (⟨by rw [own_gc (cs.getD i 0) hc, own_narc hc], N0, rfl⟩)

def Q1 (z : Int32) (h0 : Heap) (n0 : Nat) (v : Option Value) (h : Heap) (L : List Loc) : Prop := v = some (.int z) ∧ Fr n0 L ∧ h = h0

theorem rm1 (l : Launch) (Z : State) (a0 : Array Value) (hw : own_HW a0 Z) (ws : List Jvm.Cond) (p1 p2 z : Int32) (h0 : Heap) (n0 : Nat) (hz : (p1 < p2 → z = p2) ∧ (¬ p1 < p2 → z = p1)) :
  own_Met l own_M1 jdk_29_method_65_code 2 (some .int) ws own_R_0_0_0_0 Z #[(.int p1), (.int p2)] h0 (Q1 z h0 n0) := by
 refine own_enter #[.val (.int p1), .val (.int p2)] (Jvm.Free.JP.mathPlain rfl (by decide +kernel)) (fun m => ef_II_2 m p1 p2) ?_
 intro p e s m below meth c s₁ hx hby hml hown hnm hZ hrt hlk X0 e0
 have w := @own_w _ _ hw
 have N0 := Fr.nil n0
 refine own_tp (.int p1) 1 (fun _ q => XS.iloadN X0.here hx rfl (hb hby dj29m65_0) rfl q) ?_
 refine own_tp (.int p2) 2 (fun _ q => XS.iloadN X0.here hx rfl (hb hby dj29m65_1) rfl q) ?_
 by_cases c51 : p1 < p2
 ·
  refine own_d2 9 (fun _ q => XS.icmpYes X0.here hx rfl (pc0 := 2) (pc' := 9) rfl (hb hby dj29m65_2) rfl (tlt c51).1 (by decide) (by decide) q) ?_
  refine own_tp (.int p2) 10 (fun _ q => XS.iloadN X0.here hx rfl (hb hby dj29m65_9) rfl q) ?_
  exact own_retI X0 hx hrt (hb hby dj29m65_10) hlk (by decide) (by decide) e0 (⟨by rw [hz.1 c51], N0, rfl⟩)
 ·
  refine own_d2 5 (fun _ q => XS.icmpNo X0.here hx rfl (hb hby dj29m65_2) rfl (flt c51).1 q) ?_
  refine own_tp (.int p1) 6 (fun _ q => XS.iloadN X0.here hx rfl (hb hby dj29m65_5) rfl q) ?_
  refine own_d0 10 (fun _ q => XS.goto X0.here hx rfl (pc0 := 6) (pc' := 10) rfl (hb hby dj29m65_6) (by decide) (by decide) q) ?_
  exact own_retI X0 hx hrt (hb hby dj29m65_10) hlk (by decide) (by decide) e0 (⟨by rw [hz.2 c51], N0, rfl⟩)

def Q2 (z : Int32) (h0 : Heap) (n0 : Nat) (v : Option Value) (h : Heap) (L : List Loc) : Prop := v = some (.int z) ∧ Fr n0 L ∧ h = h0

theorem rm2 (l : Launch) (Z : State) (a0 : Array Value) (hw : own_HW a0 Z) (ws : List Jvm.Cond) (p1 p2 z : Int32) (h0 : Heap) (n0 : Nat) (hz : (p2 < p1 → z = p2) ∧ (¬ p2 < p1 → z = p1)) :
  own_Met l own_M2 jdk_29_method_69_code 2 (some .int) ws own_R_0_0_0_0 Z #[(.int p1), (.int p2)] h0 (Q2 z h0 n0) := by
 refine own_enter #[.val (.int p1), .val (.int p2)] (Jvm.Free.JP.mathPlain rfl (by decide +kernel)) (fun m => ef_II_2 m p1 p2) ?_
 intro p e s m below meth c s₁ hx hby hml hown hnm hZ hrt hlk X0 e0
 have w := @own_w _ _ hw
 have N0 := Fr.nil n0
 refine own_tp (.int p1) 1 (fun _ q => XS.iloadN X0.here hx rfl (hb hby dj29m69_0) rfl q) ?_
 refine own_tp (.int p2) 2 (fun _ q => XS.iloadN X0.here hx rfl (hb hby dj29m69_1) rfl q) ?_
 by_cases c51 : p2 < p1
 ·
  refine own_d2 9 (fun _ q => XS.icmpYes X0.here hx rfl (pc0 := 2) (pc' := 9) rfl (hb hby dj29m69_2) rfl (tlt c51).2.2.1 (by decide) (by decide) q) ?_
  refine own_tp (.int p2) 10 (fun _ q => XS.iloadN X0.here hx rfl (hb hby dj29m69_9) rfl q) ?_
  exact own_retI X0 hx hrt (hb hby dj29m69_10) hlk (by decide) (by decide) e0 (⟨by rw [hz.1 c51], N0, rfl⟩)
 ·
  refine own_d2 5 (fun _ q => XS.icmpNo X0.here hx rfl (hb hby dj29m69_2) rfl (flt c51).2.2.1 q) ?_
  refine own_tp (.int p1) 6 (fun _ q => XS.iloadN X0.here hx rfl (hb hby dj29m69_5) rfl q) ?_
  refine own_d0 10 (fun _ q => XS.goto X0.here hx rfl (pc0 := 6) (pc' := 10) rfl (hb hby dj29m69_6) (by decide) (by decide) q) ?_
  exact own_retI X0 hx hrt (hb hby dj29m69_10) hlk (by decide) (by decide) e0 (⟨by rw [hz.2 c51], N0, rfl⟩)

def Q3  (h0 : Heap) (n0 : Nat) (v : Option Value) (h : Heap) (L : List Loc) : Prop := v = some (.int (0 : Int32)) ∧ Fr n0 L ∧ h = h0

theorem rm3 (l : Launch) (Z : State) (a0 : Array Value) (hw : own_HW a0 Z) (ws : List Jvm.Cond)  (h0 : Heap) (n0 : Nat)  :
  own_Met l own_M3 jdk_43_method_4_code 1 (some .boolean) ws own_R_0_0_0_0 Z #[(.int (65533 : Int32))] h0 (Q3 h0 n0) := by
 refine own_enter #[.val (.int (65533 : Int32))] (plainFor_of_name pn_java_lang_StringLatin1) (fun m => ef_I_1 m (65533 : Int32)) ?_
 intro p e s m below meth c s₁ hx hby hml hown hnm hZ hrt hlk X0 e0
 have w := @own_w _ _ hw
 have N0 := Fr.nil n0
 refine own_tp (.int (65533 : Int32)) 1 (fun _ q => XS.iloadN X0.here hx rfl (hb hby dj43m4_0) rfl q) ?_
 refine own_d1 4 (fun _ q => XS.ifNo X0.here hx rfl (hb hby dj43m4_1) rfl ((if0 _ _).trans (flt (by decide : ¬ ((65533 : Int32) < (0 : Int32)))).1) q) ?_
 refine own_tp (.int (65533 : Int32)) 5 (fun _ q => XS.iloadN X0.here hx rfl (hb hby dj43m4_4) rfl q) ?_
 refine own_tp (.int (255 : Int32)) 8 (fun _ q => XS.sipush X0.here hx rfl (hb hby dj43m4_5) q) ?_
 refine own_d2 15 (fun _ q => XS.icmpYes X0.here hx rfl (pc0 := 8) (pc' := 15) rfl (hb hby dj43m4_8) rfl (tlt (by decide : (255 : Int32) < (65533 : Int32))).2.2.1 (by decide) (by decide) q) ?_
 refine own_tp (.int (0 : Int32)) 16 (fun _ q => XS.iconst X0.here hx rfl (hb hby dj43m4_15) q) ?_
 exact own_retN (t := .boolean) X0 hx hrt (hb hby dj43m4_16) (by simp) hlk (by decide) (by decide) e0 (⟨rfl, N0, rfl⟩)

def Q4 (cs : List Int32) (h0 : Heap) (n0 : Nat) (v : Option Value) (h : Heap) (L : List Loc) : Prop := ∃ r : Int32, v = some (.int r) ∧ own_R (65533 : Int32) cs r ∧ Fr n0 L ∧ h = h0

theorem rm4 (l : Launch) (Z : State) (a0 : Array Value) (hw : own_HW a0 Z) (ws : List Jvm.Cond) (b1 : Addr) (k1 : ClassId) (cs : List Int32) (h0 : Heap) (n0 : Nat) (hl : cs.length ≤ 1000) (hch : ∀ c ∈ cs, 0 ≤ c.toInt ∧ c.toInt ≤ 65535) (hcs : ∀ c ∈ cs, ¬ (255 : Int32) < c) (V1 : Arv Z h0 b1 k1 .byte (Int32.ofNat cs.length) (own_lows cs) (.int (0 : Int32))) :
  own_Met l own_M4 jdk_43_method_22_code 4 (some .int) ws own_R_1_0_0_12 Z #[(.ref b1), (.int (65533 : Int32)), (.int (0 : Int32)), (.int (Int32.ofNat cs.length))] h0 (Q4 cs h0 n0) := by
 refine own_enter #[.val (.ref b1), .val (.int (65533 : Int32)), .val (.int (0 : Int32)), .val (.int (Int32.ofNat cs.length))] (plainFor_of_name pn_java_lang_StringLatin1) (fun m => ef_RIII_4 m b1 (65533 : Int32) (0 : Int32) (Int32.ofNat cs.length)) ?_
 intro p e s m below meth c s₁ hx hby hml hown hnm hZ hrt hlk X0 e0
 have w := @own_w _ _ hw
 have N0 := Fr.nil n0
 refine own_tp (.int (65533 : Int32)) 1 (fun _ q => XS.iloadN X0.here hx rfl (hb hby dj43m22_0) rfl q) ?_
 obtain ⟨_, _, ⟨T51, L51, k51, n51⟩, -, X51, ⟨Lc51, hQ51, l51, y51, z51⟩, st51⟩ := Jvm.LawKit.callS X0 hx (y := own_M3) hown (mvT hZ (w 73 rfl)) (mvT hZ (w 74 rfl)) (mvT hZ (w 71 rfl)) (mvT hZ (w 75 rfl)) (by decide) (backOf (W := 0) (rm3 l Z a0 hw [] h0 n0) hZ (w 75 rfl) (w 71 rfl) (by decide) (by decide)) (g := (mkF m 1 #[.val (.ref b1), .val (.int (65533 : Int32)), .val (.int (0 : Int32)), .val (.int (Int32.ofNat cs.length))] [(.int (65533 : Int32))])) rfl (by rw [hml]; rfl) (argsL := [(.int (65533 : Int32))]) (rest := []) (lenOf pd0 rfl) rfl (by show 2 * 0 + _ ≤ _; exact Nat.le_of_eq rfl) (hb hby dj43m22_1) (fun _ _ => ⟨rfl, e0, (by decide : 0 + 0 ≤ _), (by decide : 0 + 0 ≤ _)⟩)
 dsimp only [Pt.U, Pt.locs, Pt.cells, Pt.slots] at X51 l51 y51 z51 st51 hQ51
 subst l51 y51 z51
 obtain ⟨rfl, Nq51, eq51⟩ := hQ51
 have N51 := Fr.app N0 Nq51
 refine own_t1 (.int (0 : Int32)) 4 st51 ?_
 refine own_d1 7 (fun _ q => XS.ifNo X51.here hx rfl (hb hby dj43m22_4) rfl ((if0 _ _).trans (teq (by decide : (0 : Int32) = (0 : Int32))).2) q) ?_
 refine own_tp (.int (-1 : Int32)) 8 (fun _ q => XS.iconst X51.here hx rfl (hb hby dj43m22_7) q) ?_
 exact own_retI X51 hx hrt (hb hby dj43m22_8) hlk (by decide) (by decide) eq51 (⟨(-1 : Int32), rfl, Or.inl ⟨by decide, fun q => hcs _ q (by decide)⟩, N51, rfl⟩)

def Q5 (z : Int32) (h0 : Heap) (n0 : Nat) (v : Option Value) (h : Heap) (L : List Loc) : Prop := v = some (.int z) ∧ Fr n0 L ∧ h = h0

theorem rm5 (l : Launch) (Z : State) (a0 : Array Value) (hw : own_HW a0 Z) (ws : List Jvm.Cond) (b1 : Addr) (k1 : ClassId) (cs : List Int32) (h0 : Heap) (n0 : Nat) (hl : cs.length ≤ 1000) (V1 : Arv Z h0 b1 k1 .byte (Int32.ofNat (2 * cs.length)) (own_wide cs) (.int (0 : Int32))) :
  own_Met l own_M5 jdk_52_method_6_code 1 (some .int) ws own_R_0_0_0_0 Z #[(.ref b1)] h0 (Q5 (Int32.ofNat cs.length) h0 n0) := by
 refine own_enter #[.val (.ref b1)] (plainFor_of_name pn_java_lang_StringUTF16) (fun m => ef_R_1 m b1) ?_
 intro p e s m below meth c s₁ hx hby hml hown hnm hZ hrt hlk X0 e0
 have w := @own_w _ _ hw
 have N0 := Fr.nil n0
 refine own_tp (.ref b1) 1 (fun _ q => XS.aloadN X0.here hx rfl (hb hby dj52m6_0) rfl rfl q) ?_
 obtain ⟨cl51, Ar51, -, Sz51, Nn51, -, -⟩ := (id V1)
 refine own_t1 (.int (Int32.ofNat (2 * cs.length))) 2 (fun t q => X0.arraylength hx (by rw [e0]; exact Ar51.1) (State.isArrayOf_alike hZ.alike Ar51.2.1) (g := (mkF m 1 #[.val (.ref b1)] [(.ref b1)])) rfl rfl (hb hby dj52m6_1) _ (by rw [len_of Sz51 Nn51]; exact q)) ?_
 refine own_tp (.int (1 : Int32)) 3 (fun _ q => XS.iconst X0.here hx rfl (hb hby dj52m6_2) q) ?_
 refine own_t2 (.int ((Int32.ofNat (2 * cs.length)) >>> ((1 : Int32) &&& 31))) 4 (fun _ q => XS.ishr X0.here hx rfl (hb hby dj52m6_3) rfl q) ?_
 exact own_retI X0 hx hrt (hb hby dj52m6_4) hlk (by decide) (by decide) e0 (⟨by rw [own_shr1 hl], N0, rfl⟩)

theorem own_nlt {z : Int32} : ¬ z < z := by rw [Int32.lt_iff_toInt_lt]; omega
theorem own_n0 {n : Nat} (h : n ≤ 1000) : ¬ Int32.ofNat n < (0 : Int32) := (own_ofn (by omega)).1
theorem own_none {cs : List Int32} {p : Int32} (hl : cs.length ≤ 1000) (h : ¬ (0 : Int32) < Int32.ofNat cs.length) : p ∉ cs := by
  have q := (own_ltn (i := 0) hl (Nat.zero_le _)).mpr
  cases cs with
  | nil => simp
  | cons a r => exact absurd (q (by simp)) h

def Q6  (h0 : Heap) (n0 : Nat) (v : Option Value) (h : Heap) (L : List Loc) : Prop := v = some (.int (0 : Int32)) ∧ Fr n0 L ∧ h = h0

theorem rm6 (l : Launch) (Z : State) (a0 : Array Value) (hw : own_HW a0 Z) (ws : List Jvm.Cond) (cs : List Int32) (G3 : Value) (h0 : Heap) (n0 : Nat) (rG3 : G3.isRef = true) (hl : cs.length ≤ 1000) :
  own_Met l own_M6 jdk_41_method_12_code 4 (some .int) ws own_R_0_0_0_0 Z #[(.int (0 : Int32)), (.int (Int32.ofNat cs.length)), (.int (Int32.ofNat cs.length)), G3] h0 (Q6 h0 n0) := by
 refine own_enter #[.val (.int (0 : Int32)), .val (.int (Int32.ofNat cs.length)), .val (.int (Int32.ofNat cs.length)), .val G3] (plainFor_of_name pn_jdk_internal_util_Preconditions) (fun m => ef_IIIV_4 m (0 : Int32) (Int32.ofNat cs.length) (Int32.ofNat cs.length) G3 rG3) ?_
 intro p e s m below meth c s₁ hx hby hml hown hnm hZ hrt hlk X0 e0
 have w := @own_w _ _ hw
 have N0 := Fr.nil n0
 refine own_tp (.int (0 : Int32)) 1 (fun _ q => XS.iloadN X0.here hx rfl (hb hby dj41m12_0) rfl q) ?_
 refine own_d1 4 (fun _ q => XS.ifNo X0.here hx rfl (hb hby dj41m12_1) rfl ((if0 _ _).trans (flt (by decide : ¬ ((0 : Int32) < (0 : Int32)))).1) q) ?_
 refine own_tp (.int (0 : Int32)) 5 (fun _ q => XS.iloadN X0.here hx rfl (hb hby dj41m12_4) rfl q) ?_
 refine own_tp (.int (Int32.ofNat cs.length)) 6 (fun _ q => XS.iloadN X0.here hx rfl (hb hby dj41m12_5) rfl q) ?_
 refine own_d2 9 (fun _ q => XS.icmpNo X0.here hx rfl (hb hby dj41m12_6) rfl (flt (own_n0 hl)).2.2.1 q) ?_
 refine own_tp (.int (Int32.ofNat cs.length)) 10 (fun _ q => XS.iloadN X0.here hx rfl (hb hby dj41m12_9) rfl q) ?_
 refine own_tp (.int (Int32.ofNat cs.length)) 11 (fun _ q => XS.iloadN X0.here hx rfl (hb hby dj41m12_10) rfl q) ?_
 refine own_d2 22 (fun _ q => XS.icmpYes X0.here hx rfl (pc0 := 11) (pc' := 22) rfl (hb hby dj41m12_11) rfl (flt own_nlt).2.2.2 (by decide) (by decide) q) ?_
 refine own_tp (.int (0 : Int32)) 23 (fun _ q => XS.iloadN X0.here hx rfl (hb hby dj41m12_22) rfl q) ?_
 exact own_retI X0 hx hrt (hb hby dj41m12_23) hlk (by decide) (by decide) e0 (⟨rfl, N0, rfl⟩)

def Q7  (h0 : Heap) (n0 : Nat) (v : Option Value) (h : Heap) (L : List Loc) : Prop := v = none ∧ Fr n0 L ∧ h = h0

theorem rm7 (l : Launch) (Z : State) (a0 : Array Value) (hw : own_HW a0 Z) (ws : List Jvm.Cond) (cs : List Int32) (h0 : Heap) (n0 : Nat) (hl : cs.length ≤ 1000) (O0 : Old Z n0 h0) (G3 : Value) (rG3 : G3.isRef = true) (Sf : own_SF Z G3) :
  own_Met l own_M7 jdk_42_method_158_code 3 none ws own_R_1_0_0_15 Z #[(.int (0 : Int32)), (.int (Int32.ofNat cs.length)), (.int (Int32.ofNat cs.length))] h0 (Q7 h0 n0) := by
 refine own_enter #[.val (.int (0 : Int32)), .val (.int (Int32.ofNat cs.length)), .val (.int (Int32.ofNat cs.length))] (plainFor_of_name pn_java_lang_String) (fun m => ef_III_3 m (0 : Int32) (Int32.ofNat cs.length) (Int32.ofNat cs.length)) ?_
 intro p e s m below meth c s₁ hx hby hml hown hnm hZ hrt hlk X0 e0
 have w := @own_w _ _ hw
 have N0 := Fr.nil n0
 refine own_tp (.int (0 : Int32)) 1 (fun _ q => XS.iloadN X0.here hx rfl (hb hby dj42m158_0) rfl q) ?_
 refine own_tp (.int (Int32.ofNat cs.length)) 2 (fun _ q => XS.iloadN X0.here hx rfl (hb hby dj42m158_1) rfl q) ?_
 refine own_tp (.int (Int32.ofNat cs.length)) 3 (fun _ q => XS.iloadN X0.here hx rfl (hb hby dj42m158_2) rfl q) ?_
 obtain ⟨T51, X51, e51, st51⟩ := getS2 X0 hx hZ hown (host := "") (Or.inl (w 241 rfl)) Via.refl e0 (Sf.ext O0.2) (g := (mkF m 3 #[.val (.int (0 : Int32)), .val (.int (Int32.ofNat cs.length)), .val (.int (Int32.ofNat cs.length))] [(.int (Int32.ofNat cs.length)), (.int (Int32.ofNat cs.length)), (.int (0 : Int32))])) rfl (hb hby dj42m158_3)
 refine own_tp G3 6 st51 ?_
 obtain ⟨_, _, ⟨T52, L52, k52, n52⟩, -, X52, ⟨Lc52, hQ52, l52, y52, z52⟩, st52⟩ := Jvm.LawKit.callS X51 hx (y := own_M6) hown (mvT hZ (w 243 rfl)) (mvT hZ (w 244 rfl)) (mvT hZ (w 242 rfl)) (mvT hZ (w 245 rfl)) (by decide) (backOf (W := 0) (rm6 l Z a0 hw [] cs G3 h0 n0 rG3 hl) hZ (w 245 rfl) (w 242 rfl) (by decide) (by decide)) (g := (mkF m 6 #[.val (.int (0 : Int32)), .val (.int (Int32.ofNat cs.length)), .val (.int (Int32.ofNat cs.length))] [G3, (.int (Int32.ofNat cs.length)), (.int (Int32.ofNat cs.length)), (.int (0 : Int32))])) rfl (by rw [hml]; rfl) (argsL := [(.int (0 : Int32)), (.int (Int32.ofNat cs.length)), (.int (Int32.ofNat cs.length)), G3]) (rest := []) (lenOf pd1 rfl) rfl (by show 2 * 0 + _ ≤ _; exact Nat.le_of_eq rfl) (hb hby dj42m158_6) (fun _ _ => ⟨rfl, e51, (by decide : 0 + 0 ≤ _), (by decide : 0 + 0 ≤ _)⟩)
 dsimp only [Pt.U, Pt.locs, Pt.cells, Pt.slots] at X52 l52 y52 z52 st52 hQ52
 subst l52 y52 z52
 obtain ⟨rfl, Nq52, eq52⟩ := hQ52
 have N52 := Fr.app N0 Nq52
 refine own_cs [(.int (0 : Int32))] 9 st52 ?_
 refine own_d1 10 (fun _ q => XS.pop X52.here hx rfl (hb hby dj42m158_9) rfl rfl q) ?_
 exact own_retV X52 hx hrt (hb hby dj42m158_10) hlk (by decide) (by decide) eq52 (⟨rfl, N52, rfl⟩)

def Q8  (h0 : Heap) (n0 : Nat) (v : Option Value) (h : Heap) (L : List Loc) : Prop := v = none ∧ Fr n0 L ∧ h = h0

theorem rm8 (l : Launch) (Z : State) (a0 : Array Value) (hw : own_HW a0 Z) (ws : List Jvm.Cond) (b1 : Addr) (k1 : ClassId) (cs : List Int32) (h0 : Heap) (n0 : Nat) (hl : cs.length ≤ 1000) (O0 : Old Z n0 h0) (V1 : Arv Z h0 b1 k1 .byte (Int32.ofNat (2 * cs.length)) (own_wide cs) (.int (0 : Int32))) (G3 : Value) (rG3 : G3.isRef = true) (Sf : own_SF Z G3) :
  own_Met l own_M8 jdk_52_method_93_code 3 none ws own_R_2_0_0_31 Z #[(.int (0 : Int32)), (.int (Int32.ofNat cs.length)), (.ref b1)] h0 (Q8 h0 n0) := by
 refine own_enter #[.val (.int (0 : Int32)), .val (.int (Int32.ofNat cs.length)), .val (.ref b1)] (plainFor_of_name pn_java_lang_StringUTF16) (fun m => ef_IIR_3 m (0 : Int32) (Int32.ofNat cs.length) b1) ?_
 intro p e s m below meth c s₁ hx hby hml hown hnm hZ hrt hlk X0 e0
 have w := @own_w _ _ hw
 have N0 := Fr.nil n0
 refine own_tp (.int (0 : Int32)) 1 (fun _ q => XS.iloadN X0.here hx rfl (hb hby dj52m93_0) rfl q) ?_
 refine own_tp (.int (Int32.ofNat cs.length)) 2 (fun _ q => XS.iloadN X0.here hx rfl (hb hby dj52m93_1) rfl q) ?_
 refine own_tp (.ref b1) 3 (fun _ q => XS.aloadN X0.here hx rfl (hb hby dj52m93_2) rfl rfl q) ?_
 obtain ⟨_, _, ⟨T51, L51, k51, n51⟩, -, X51, ⟨Lc51, hQ51, l51, y51, z51⟩, st51⟩ := Jvm.LawKit.callS X0 hx (y := own_M5) hown (mvT hZ (w 235 rfl)) (mvT hZ (w 236 rfl)) (mvT hZ (w 28 rfl)) (mvT hZ (w 237 rfl)) (by decide) (backOf (W := 2) (rm5 l Z a0 hw [] b1 k1 cs h0 n0 hl V1) hZ (w 237 rfl) (w 28 rfl) (by decide) (by decide)) (g := (mkF m 3 #[.val (.int (0 : Int32)), .val (.int (Int32.ofNat cs.length)), .val (.ref b1)] [(.ref b1), (.int (Int32.ofNat cs.length)), (.int (0 : Int32))])) rfl (by rw [hml]; rfl) (argsL := [(.ref b1)]) (rest := [(.int (Int32.ofNat cs.length)), (.int (0 : Int32))]) (lenOf pd2 rfl) rfl (by show 2 * 0 + _ ≤ _; exact Nat.le_of_eq rfl) (hb hby dj52m93_3) (fun _ _ => ⟨rfl, e0, (by decide : 0 + 0 ≤ _), (by decide : 0 + 0 ≤ _)⟩)
 dsimp only [Pt.U, Pt.locs, Pt.cells, Pt.slots] at X51 l51 y51 z51 st51 hQ51
 subst l51 y51 z51
 obtain ⟨rfl, Nq51, eq51⟩ := hQ51
 have N51 := Fr.app N0 Nq51
 refine own_t1 (.int (Int32.ofNat cs.length)) 6 st51 ?_
 obtain ⟨_, _, ⟨T52, L52, k52, n52⟩, -, X52, ⟨Lc52, hQ52, l52, y52, z52⟩, st52⟩ := Jvm.LawKit.callS X51 hx (y := own_M7) hown (mvT hZ (w 238 rfl)) (mvT hZ (w 239 rfl)) (mvT hZ (w 5 rfl)) (mvT hZ (w 240 rfl)) (by decide) (backOf (W := 0) (rm7 l Z a0 hw [] cs h0 n0 hl O0 G3 rG3 Sf) hZ (w 240 rfl) (w 5 rfl) (by decide) (by decide)) (g := (mkF m 6 #[.val (.int (0 : Int32)), .val (.int (Int32.ofNat cs.length)), .val (.ref b1)] [(.int (Int32.ofNat cs.length)), (.int (Int32.ofNat cs.length)), (.int (0 : Int32))])) rfl (by rw [hml]; rfl) (argsL := [(.int (0 : Int32)), (.int (Int32.ofNat cs.length)), (.int (Int32.ofNat cs.length))]) (rest := []) (lenOf pd3 rfl) rfl (by show 2 * 0 + _ ≤ _; exact Nat.le_of_eq rfl) (hb hby dj52m93_6) (fun _ _ => ⟨rfl, eq51, (by decide : 0 + 0 ≤ _), (by decide : 0 + 0 ≤ _)⟩)
 dsimp only [Pt.U, Pt.locs, Pt.cells, Pt.slots] at X52 l52 y52 z52 st52 hQ52
 subst l52 y52 z52
 obtain ⟨rfl, Nq52, eq52⟩ := hQ52
 have N52 := Fr.app N51 Nq52
 refine own_cs [] 9 st52 ?_
 exact own_retV X52 hx hrt (hb hby dj52m93_9) hlk (by decide) (by decide) eq52 (⟨rfl, N52, rfl⟩)

def Q9 (cs : List Int32) (h0 : Heap) (n0 : Nat) (v : Option Value) (h : Heap) (L : List Loc) : Prop := ∃ r : Int32, v = some (.int r) ∧ own_R (65533 : Int32) cs r ∧ Fr n0 L ∧ h = h0

theorem rm9 (l : Launch) (Z : State) (a0 : Array Value) (hw : own_HW a0 Z) (ws : List Jvm.Cond) (b1 : Addr) (k1 : ClassId) (cs : List Int32) (h0 : Heap) (n0 : Nat) (hl : cs.length ≤ 1000) (hch : ∀ c ∈ cs, 0 ≤ c.toInt ∧ c.toInt ≤ 65535) (V1 : Arv Z h0 b1 k1 .byte (Int32.ofNat (2 * cs.length)) (own_wide cs) (.int (0 : Int32))) (G1 : Int32) (US : own_US Z G1) (O0 : Old Z n0 h0) :
  own_Met l own_M9 jdk_52_method_48_code 5 (some .int) ws own_R_1_0_0_13 Z #[(.ref b1), (.int (65533 : Int32)), (.int (0 : Int32)), (.int (Int32.ofNat cs.length))] h0 (Q9 cs h0 n0) := by
 refine own_enter #[.val (.ref b1), .val (.int (65533 : Int32)), .val (.int (0 : Int32)), .val (.int (Int32.ofNat cs.length)), .unset] (plainFor_of_name pn_java_lang_StringUTF16) (fun m => ef_RIII_5 m b1 (65533 : Int32) (0 : Int32) (Int32.ofNat cs.length)) ?_
 intro p e s m below meth c s₁ hx hby hml hown hnm hZ hrt hlk X0 e0
 have w := @own_w _ _ hw
 have N0 := Fr.nil n0
 refine own_tp (.int (0 : Int32)) 1 (fun _ q => XS.iloadN X0.here hx rfl (hb hby dj52m48_0) rfl q) ?_
 refine own_ls #[.val (.ref b1), .val (.int (65533 : Int32)), .val (.int (0 : Int32)), .val (.int (Int32.ofNat cs.length)), .val (.int (0 : Int32))] 3 (fun _ q => XS.istore X0.here hx rfl (hb hby dj52m48_1) rfl (l' := #[.val (.ref b1), .val (.int (65533 : Int32)), .val (.int (0 : Int32)), .val (.int (Int32.ofNat cs.length)), .val (.int (0 : Int32))]) rfl q) ?_
 have loop : ∀ (r i : Nat) (Tj : State) (lj : List Loc), i + r = cs.length → (∀ j, j < i → cs.getD j 0 ≠ (65533 : Int32)) → Stand p l e own_R_1_0_0_13 s m #[(.ref b1), (.int (65533 : Int32)), (.int (0 : Int32)), (.int (Int32.ofNat cs.length))] below meth c Tj lj 0 0 → Fr n0 lj → Tj.heap = h0 → own_Goes p e below (own_FN s (Q9 cs h0 n0) own_R_1_0_0_13.cells own_R_1_0_0_13.slots) (Tj.setTop (mkF m 3 #[.val (.ref b1), .val (.int (65533 : Int32)), .val (.int (0 : Int32)), .val (.int (Int32.ofNat cs.length)), .val (.int (Int32.ofNat i))] [])) := by
  intro r
  induction r with
  | zero =>
   intro i Tj lj hi hno Xj Nj ej
   have hlt : ¬ ((Int32.ofNat i) < (Int32.ofNat cs.length)) := fun q => by have := (own_ltn (by omega) (by omega)).mp q; omega
   refine own_tp (.int (Int32.ofNat i)) 5 (fun _ q => XS.iload Xj.here hx rfl (hb hby dj52m48_3) rfl q) ?_
   refine own_tp (.int (Int32.ofNat cs.length)) 6 (fun _ q => XS.iloadN Xj.here hx rfl (hb hby dj52m48_5) rfl q) ?_
   refine own_d2 28 (fun _ q => XS.icmpYes Xj.here hx rfl (pc0 := 6) (pc' := 28) rfl (hb hby dj52m48_6) rfl (flt hlt).2.1 (by decide) (by decide) q) ?_
   refine own_tp (.int (-1 : Int32)) 29 (fun _ q => XS.iconst Xj.here hx rfl (hb hby dj52m48_28) q) ?_
   exact own_retI Xj hx hrt (hb hby dj52m48_29) hlk (by decide) (by decide) ej (⟨(-1 : Int32), rfl, Or.inl ⟨by decide, own_notin (fun j hj => hno j (by omega))⟩, Nj, rfl⟩)
  | succ r ih =>
   intro i Tj lj hi hno Xj Nj ej
   have hlt : (Int32.ofNat i) < (Int32.ofNat cs.length) := (own_ltn (by omega) (by omega)).mpr (by omega)
   refine own_tp (.int (Int32.ofNat i)) 5 (fun _ q => XS.iload Xj.here hx rfl (hb hby dj52m48_3) rfl q) ?_
   refine own_tp (.int (Int32.ofNat cs.length)) 6 (fun _ q => XS.iloadN Xj.here hx rfl (hb hby dj52m48_5) rfl q) ?_
   refine own_d2 9 (fun _ q => XS.icmpNo Xj.here hx rfl (hb hby dj52m48_6) rfl (tlt hlt).2.1 q) ?_
   refine own_tp (.ref b1) 10 (fun _ q => XS.aloadN Xj.here hx rfl (hb hby dj52m48_9) rfl rfl q) ?_
   refine own_tp (.int (Int32.ofNat i)) 12 (fun _ q => XS.iload Xj.here hx rfl (hb hby dj52m48_10) rfl q) ?_
   obtain ⟨_, _, ⟨T51, L51, k51, n51⟩, -, X51, ⟨Lc51, hQ51, l51, y51, z51⟩, st51⟩ := Jvm.LawKit.callS Xj hx (y := own_M0) hown (mvT hZ (w 220 rfl)) (mvT hZ (w 221 rfl)) (mvT hZ (w 28 rfl)) (mvT hZ (w 222 rfl)) (by decide) (backOf (W := 0) (rm300 l Z a0 hw [] b1 k1 i cs h0 n0 (by omega) hl (hch _ (own_mem cs i (by omega))) V1 G1 US O0) hZ (w 222 rfl) (w 28 rfl) (by decide) (by decide)) (g := (mkF m 12 #[.val (.ref b1), .val (.int (65533 : Int32)), .val (.int (0 : Int32)), .val (.int (Int32.ofNat cs.length)), .val (.int (Int32.ofNat i))] [(.int (Int32.ofNat i)), (.ref b1)])) rfl (by rw [hml]; rfl) (argsL := [(.ref b1), (.int (Int32.ofNat i))]) (rest := []) (lenOf pd4 rfl) rfl (by show 2 * 0 + _ ≤ _; exact Nat.le_of_eq rfl) (hb hby dj52m48_12) (fun _ _ => ⟨rfl, ej, (by decide : 0 + 0 ≤ _), (by decide : 0 + 0 ≤ _)⟩)
   dsimp only [Pt.U, Pt.locs, Pt.cells, Pt.slots] at X51 l51 y51 z51 st51 hQ51
   subst l51 y51 z51
   obtain ⟨rfl, Nq51, eq51⟩ := hQ51
   have N51 := Fr.app Nj Nq51
   refine own_t2 (.int (cs.getD i 0)) 15 st51 ?_
   refine own_tp (.int (65533 : Int32)) 16 (fun _ q => XS.iloadN X51.here hx rfl (hb hby dj52m48_15) rfl q) ?_
   by_cases c52 : (cs.getD i 0) = (65533 : Int32)
   ·
    refine own_d2 19 (fun _ q => XS.icmpNo X51.here hx rfl (hb hby dj52m48_16) rfl (teq c52).2 q) ?_
    refine own_tp (.int (Int32.ofNat i)) 21 (fun _ q => XS.iload X51.here hx rfl (hb hby dj52m48_19) rfl q) ?_
    exact own_retI X51 hx hrt (hb hby dj52m48_21) hlk (by decide) (by decide) eq51 (⟨(Int32.ofNat i), rfl, Or.inr ⟨(own_ofn (by omega)).1, c52 ▸ own_mem cs i (by omega)⟩, N51, rfl⟩)
   ·
    refine own_d2 22 (fun _ q => XS.icmpYes X51.here hx rfl (pc0 := 16) (pc' := 22) rfl (hb hby dj52m48_16) rfl (feq c52).2 (by decide) (by decide) q) ?_
    refine own_li #[.val (.ref b1), .val (.int (65533 : Int32)), .val (.int (0 : Int32)), .val (.int (Int32.ofNat cs.length)), .val (.int ((Int32.ofNat i) + (1 : Int32)))] 25 (fun _ q => XS.iinc X51.here hx rfl (hb hby dj52m48_22) rfl (l' := #[.val (.ref b1), .val (.int (65533 : Int32)), .val (.int (0 : Int32)), .val (.int (Int32.ofNat cs.length)), .val (.int ((Int32.ofNat i) + (1 : Int32)))]) rfl q) ?_
    refine own_d0 3 (fun _ q => XS.goto X51.here hx rfl (pc0 := 25) (pc' := 3) rfl (hb hby dj52m48_25) (by decide) (by decide) q) ?_
    rw [own_succ]
    exact ih (i + 1) T51 _ (by omega) (own_more hno c52) X51 N51 eq51
 exact loop cs.length 0 s₁ _ (by omega) (fun j hj => absurd hj (Nat.not_lt_zero j)) X0 N0 e0

def Q10 (cs : List Int32) (h0 : Heap) (n0 : Nat) (v : Option Value) (h : Heap) (L : List Loc) : Prop := ∃ r : Int32, v = some (.int r) ∧ own_R (65533 : Int32) cs r ∧ Fr n0 L ∧ h = h0

theorem rm10 (l : Launch) (Z : State) (a0 : Array Value) (hw : own_HW a0 Z) (ws : List Jvm.Cond) (b1 : Addr) (k1 : ClassId) (cs : List Int32) (h0 : Heap) (n0 : Nat) (hl : cs.length ≤ 1000) (hch : ∀ c ∈ cs, 0 ≤ c.toInt ∧ c.toInt ≤ 65535) (V1 : Arv Z h0 b1 k1 .byte (Int32.ofNat (2 * cs.length)) (own_wide cs) (.int (0 : Int32))) (G1 : Int32) (US : own_US Z G1) (O0 : Old Z n0 h0) (G3 : Value) (rG3 : G3.isRef = true) (Sf : own_SF Z G3) :
  own_Met l own_M10 jdk_52_method_47_code 4 (some .int) ws own_R_3_0_0_45 Z #[(.ref b1), (.int (65533 : Int32)), (.int (0 : Int32)), (.int (Int32.ofNat cs.length))] h0 (Q10 cs h0 n0) := by
 refine own_enter #[.val (.ref b1), .val (.int (65533 : Int32)), .val (.int (0 : Int32)), .val (.int (Int32.ofNat cs.length))] (plainFor_of_name pn_java_lang_StringUTF16) (fun m => ef_RIII_4 m b1 (65533 : Int32) (0 : Int32) (Int32.ofNat cs.length)) ?_
 intro p e s m below meth c s₁ hx hby hml hown hnm hZ hrt hlk X0 e0
 have w := @own_w _ _ hw
 have N0 := Fr.nil n0
 refine own_tp (.int (0 : Int32)) 1 (fun _ q => XS.iloadN X0.here hx rfl (hb hby dj52m47_0) rfl q) ?_
 refine own_tp (.int (Int32.ofNat cs.length)) 2 (fun _ q => XS.iloadN X0.here hx rfl (hb hby dj52m47_1) rfl q) ?_
 refine own_tp (.ref b1) 3 (fun _ q => XS.aloadN X0.here hx rfl (hb hby dj52m47_2) rfl rfl q) ?_
 obtain ⟨_, _, ⟨T51, L51, k51, n51⟩, -, X51, ⟨Lc51, hQ51, l51, y51, z51⟩, st51⟩ := Jvm.LawKit.callS X0 hx (y := own_M8) hown (mvT hZ (w 232 rfl)) (mvT hZ (w 233 rfl)) (mvT hZ (w 28 rfl)) (mvT hZ (w 234 rfl)) (by decide) (backOf (W := 0) (rm8 l Z a0 hw [] b1 k1 cs h0 n0 hl O0 V1 G3 rG3 Sf) hZ (w 234 rfl) (w 28 rfl) (by decide) (by decide)) (g := (mkF m 3 #[.val (.ref b1), .val (.int (65533 : Int32)), .val (.int (0 : Int32)), .val (.int (Int32.ofNat cs.length))] [(.ref b1), (.int (Int32.ofNat cs.length)), (.int (0 : Int32))])) rfl (by rw [hml]; rfl) (argsL := [(.int (0 : Int32)), (.int (Int32.ofNat cs.length)), (.ref b1)]) (rest := []) (lenOf pd5 rfl) rfl (by show 2 * 0 + _ ≤ _; exact Nat.le_of_eq rfl) (hb hby dj52m47_3) (fun _ _ => ⟨rfl, e0, (by decide : 0 + 0 ≤ _), (by decide : 0 + 0 ≤ _)⟩)
 dsimp only [Pt.U, Pt.locs, Pt.cells, Pt.slots] at X51 l51 y51 z51 st51 hQ51
 subst l51 y51 z51
 obtain ⟨rfl, Nq51, eq51⟩ := hQ51
 have N51 := Fr.app N0 Nq51
 refine own_cs [] 6 st51 ?_
 refine own_tp (.ref b1) 7 (fun _ q => XS.aloadN X51.here hx rfl (hb hby dj52m47_6) rfl rfl q) ?_
 refine own_tp (.int (65533 : Int32)) 8 (fun _ q => XS.iloadN X51.here hx rfl (hb hby dj52m47_7) rfl q) ?_
 refine own_tp (.int (0 : Int32)) 9 (fun _ q => XS.iloadN X51.here hx rfl (hb hby dj52m47_8) rfl q) ?_
 refine own_tp (.int (Int32.ofNat cs.length)) 10 (fun _ q => XS.iloadN X51.here hx rfl (hb hby dj52m47_9) rfl q) ?_
 obtain ⟨_, _, ⟨T52, L52, k52, n52⟩, -, X52, ⟨Lc52, hQ52, l52, y52, z52⟩, st52⟩ := Jvm.LawKit.callS X51 hx (y := own_M9) hown (mvT hZ (w 246 rfl)) (mvT hZ (w 247 rfl)) (mvT hZ (w 28 rfl)) (mvT hZ (w 248 rfl)) (by decide) (backOf (W := 0) (rm9 l Z a0 hw [] b1 k1 cs h0 n0 hl hch V1 G1 US O0) hZ (w 248 rfl) (w 28 rfl) (by decide) (by decide)) (g := (mkF m 10 #[.val (.ref b1), .val (.int (65533 : Int32)), .val (.int (0 : Int32)), .val (.int (Int32.ofNat cs.length))] [(.int (Int32.ofNat cs.length)), (.int (0 : Int32)), (.int (65533 : Int32)), (.ref b1)])) rfl (by rw [hml]; rfl) (argsL := [(.ref b1), (.int (65533 : Int32)), (.int (0 : Int32)), (.int (Int32.ofNat cs.length))]) (rest := []) (lenOf pd6 rfl) rfl (by show 2 * 0 + _ ≤ _; exact Nat.le_of_eq rfl) (hb hby dj52m47_10) (fun _ _ => ⟨rfl, eq51, (by decide : 0 + 0 ≤ _), (by decide : 0 + 0 ≤ _)⟩)
 dsimp only [Pt.U, Pt.locs, Pt.cells, Pt.slots] at X52 l52 y52 z52 st52 hQ52
 subst l52 y52 z52
 obtain ⟨r52, rfl, hR52, Nq52, eq52⟩ := hQ52
 have N52 := Fr.app N51 Nq52
 refine own_cs [(.int r52)] 13 st52 ?_
 exact own_retI X52 hx hrt (hb hby dj52m47_13) hlk (by decide) (by decide) eq52 (⟨r52, rfl, hR52, N52, rfl⟩)

def Q11 (cs : List Int32) (h0 : Heap) (n0 : Nat) (v : Option Value) (h : Heap) (L : List Loc) : Prop := ∃ r : Int32, v = some (.int r) ∧ own_R (65533 : Int32) cs r ∧ Fr n0 L ∧ h = h0

theorem rm11 (l : Launch) (Z : State) (a0 : Array Value) (hw : own_HW a0 Z) (ws : List Jvm.Cond) (b1 : Addr) (k1 : ClassId) (cs : List Int32) (h0 : Heap) (n0 : Nat) (hl : cs.length ≤ 1000) (hch : ∀ c ∈ cs, 0 ≤ c.toInt ∧ c.toInt ≤ 65535) (V1 : Arv Z h0 b1 k1 .byte (Int32.ofNat (2 * cs.length)) (own_wide cs) (.int (0 : Int32))) (G1 : Int32) (US : own_US Z G1) (O0 : Old Z n0 h0) (G3 : Value) (rG3 : G3.isRef = true) (Sf : own_SF Z G3) :
  own_Met l own_M11 jdk_52_method_40_code 4 (some .int) ws own_R_4_0_0_60 Z #[(.ref b1), (.int (65533 : Int32)), (.int (0 : Int32)), (.int (Int32.ofNat cs.length))] h0 (Q11 cs h0 n0) := by
 refine own_enter #[.val (.ref b1), .val (.int (65533 : Int32)), .val (.int (0 : Int32)), .val (.int (Int32.ofNat cs.length))] (plainFor_of_name pn_java_lang_StringUTF16) (fun m => ef_RIII_4 m b1 (65533 : Int32) (0 : Int32) (Int32.ofNat cs.length)) ?_
 intro p e s m below meth c s₁ hx hby hml hown hnm hZ hrt hlk X0 e0
 have w := @own_w _ _ hw
 have N0 := Fr.nil n0
 refine own_tp (.int (0 : Int32)) 1 (fun _ q => XS.iloadN X0.here hx rfl (hb hby dj52m40_0) rfl q) ?_
 refine own_tp (.int (0 : Int32)) 2 (fun _ q => XS.iconst X0.here hx rfl (hb hby dj52m40_1) q) ?_
 obtain ⟨_, _, ⟨T51, L51, k51, n51⟩, -, X51, ⟨Lc51, hQ51, l51, y51, z51⟩, st51⟩ := Jvm.LawKit.callS X0 hx (y := own_M1) hown (mvT hZ (w 226 rfl)) (mvT hZ (w 123 rfl)) (mvT hZ (w 124 rfl)) (mvT hZ (w 125 rfl)) (by decide) (backOf (W := 0) (rm1 l Z a0 hw [] (0 : Int32) (0 : Int32) (0 : Int32) h0 n0 ⟨fun _ => rfl, fun _ => rfl⟩) hZ (w 125 rfl) (w 124 rfl) (by decide) (by decide)) (g := (mkF m 2 #[.val (.ref b1), .val (.int (65533 : Int32)), .val (.int (0 : Int32)), .val (.int (Int32.ofNat cs.length))] [(.int (0 : Int32)), (.int (0 : Int32))])) rfl (by rw [hml]; rfl) (argsL := [(.int (0 : Int32)), (.int (0 : Int32))]) (rest := []) (lenOf pd7 rfl) rfl (by show 2 * 0 + _ ≤ _; exact Nat.le_of_eq rfl) (hb hby dj52m40_2) (fun _ _ => ⟨rfl, e0, (by decide : 0 + 0 ≤ _), (by decide : 0 + 0 ≤ _)⟩)
 dsimp only [Pt.U, Pt.locs, Pt.cells, Pt.slots] at X51 l51 y51 z51 st51 hQ51
 subst l51 y51 z51
 obtain ⟨rfl, Nq51, eq51⟩ := hQ51
 have N51 := Fr.app N0 Nq51
 refine own_d1 5 st51 ?_
 refine own_d1 6 (fun _ q => XS.istoreN X51.here hx rfl (hb hby dj52m40_5) rfl (l' := #[.val (.ref b1), .val (.int (65533 : Int32)), .val (.int (0 : Int32)), .val (.int (Int32.ofNat cs.length))]) rfl q) ?_
 refine own_tp (.int (Int32.ofNat cs.length)) 7 (fun _ q => XS.iloadN X51.here hx rfl (hb hby dj52m40_6) rfl q) ?_
 refine own_tp (.ref b1) 8 (fun _ q => XS.aloadN X51.here hx rfl (hb hby dj52m40_7) rfl rfl q) ?_
 obtain ⟨cl52, Ar52, -, Sz52, Nn52, -, -⟩ := (id V1)
 refine own_t1 (.int (Int32.ofNat (2 * cs.length))) 9 (fun t q => X51.arraylength hx (by rw [eq51]; exact Ar52.1) (State.isArrayOf_alike hZ.alike Ar52.2.1) (g := (mkF m 8 #[.val (.ref b1), .val (.int (65533 : Int32)), .val (.int (0 : Int32)), .val (.int (Int32.ofNat cs.length))] [(.ref b1), (.int (Int32.ofNat cs.length))])) rfl rfl (hb hby dj52m40_8) _ (by rw [len_of Sz52 Nn52]; exact q)) ?_
 refine own_tp (.int (1 : Int32)) 10 (fun _ q => XS.iconst X51.here hx rfl (hb hby dj52m40_9) q) ?_
 refine own_t2 (.int ((Int32.ofNat (2 * cs.length)) >>> ((1 : Int32) &&& 31))) 11 (fun _ q => XS.ishr X51.here hx rfl (hb hby dj52m40_10) rfl q) ?_
 rw [own_shr1 hl]
 obtain ⟨_, _, ⟨T53, L53, k53, n53⟩, -, X53, ⟨Lc53, hQ53, l53, y53, z53⟩, st53⟩ := Jvm.LawKit.callS X51 hx (y := own_M2) hown (mvT hZ (w 227 rfl)) (mvT hZ (w 133 rfl)) (mvT hZ (w 124 rfl)) (mvT hZ (w 134 rfl)) (by decide) (backOf (W := 0) (rm2 l Z a0 hw [] (Int32.ofNat cs.length) (Int32.ofNat cs.length) (Int32.ofNat cs.length) h0 n0 ⟨fun _ => rfl, fun _ => rfl⟩) hZ (w 134 rfl) (w 124 rfl) (by decide) (by decide)) (g := (mkF m 11 #[.val (.ref b1), .val (.int (65533 : Int32)), .val (.int (0 : Int32)), .val (.int (Int32.ofNat cs.length))] [(.int (Int32.ofNat cs.length)), (.int (Int32.ofNat cs.length))])) rfl (by rw [hml]; rfl) (argsL := [(.int (Int32.ofNat cs.length)), (.int (Int32.ofNat cs.length))]) (rest := []) (lenOf pd7 rfl) rfl (by show 2 * 0 + _ ≤ _; exact Nat.le_of_eq rfl) (hb hby dj52m40_11) (fun _ _ => ⟨rfl, eq51, (by decide : 0 + 0 ≤ _), (by decide : 0 + 0 ≤ _)⟩)
 dsimp only [Pt.U, Pt.locs, Pt.cells, Pt.slots] at X53 l53 y53 z53 st53 hQ53
 subst l53 y53 z53
 obtain ⟨rfl, Nq53, eq53⟩ := hQ53
 have N53 := Fr.app N51 Nq53
 refine own_d1 14 st53 ?_
 refine own_d1 15 (fun _ q => XS.istoreN X53.here hx rfl (hb hby dj52m40_14) rfl (l' := #[.val (.ref b1), .val (.int (65533 : Int32)), .val (.int (0 : Int32)), .val (.int (Int32.ofNat cs.length))]) rfl q) ?_
 refine own_tp (.int (0 : Int32)) 16 (fun _ q => XS.iloadN X53.here hx rfl (hb hby dj52m40_15) rfl q) ?_
 refine own_tp (.int (Int32.ofNat cs.length)) 17 (fun _ q => XS.iloadN X53.here hx rfl (hb hby dj52m40_16) rfl q) ?_
 by_cases c54 : (0 : Int32) < (Int32.ofNat cs.length)
 ·
  refine own_d2 22 (fun _ q => XS.icmpYes X53.here hx rfl (pc0 := 17) (pc' := 22) rfl (hb hby dj52m40_17) rfl (tlt c54).1 (by decide) (by decide) q) ?_
  refine own_tp (.int (65533 : Int32)) 23 (fun _ q => XS.iloadN X53.here hx rfl (hb hby dj52m40_22) rfl q) ?_
  refine own_tp (.int (65536 : Int32)) 25 (fun _ q => X53.ldcInt hx hown (mvT hZ (w 228 rfl)) (g := (mkF m 23 #[.val (.ref b1), .val (.int (65533 : Int32)), .val (.int (0 : Int32)), .val (.int (Int32.ofNat cs.length))] [(.int (65533 : Int32))])) rfl (hb hby dj52m40_23) _ q) ?_
  refine own_d2 28 (fun _ q => XS.icmpNo X53.here hx rfl (hb hby dj52m40_25) rfl (tlt (by decide : (65533 : Int32) < (65536 : Int32))).2.1 q) ?_
  refine own_tp (.ref b1) 29 (fun _ q => XS.aloadN X53.here hx rfl (hb hby dj52m40_28) rfl rfl q) ?_
  refine own_tp (.int (65533 : Int32)) 30 (fun _ q => XS.iloadN X53.here hx rfl (hb hby dj52m40_29) rfl q) ?_
  refine own_tp (.int (0 : Int32)) 31 (fun _ q => XS.iloadN X53.here hx rfl (hb hby dj52m40_30) rfl q) ?_
  refine own_tp (.int (Int32.ofNat cs.length)) 32 (fun _ q => XS.iloadN X53.here hx rfl (hb hby dj52m40_31) rfl q) ?_
  obtain ⟨_, _, ⟨T55, L55, k55, n55⟩, -, X55, ⟨Lc55, hQ55, l55, y55, z55⟩, st55⟩ := Jvm.LawKit.callS X53 hx (y := own_M10) hown (mvT hZ (w 229 rfl)) (mvT hZ (w 230 rfl)) (mvT hZ (w 28 rfl)) (mvT hZ (w 231 rfl)) (by decide) (backOf (W := 0) (rm10 l Z a0 hw [] b1 k1 cs h0 n0 hl hch V1 G1 US O0 G3 rG3 Sf) hZ (w 231 rfl) (w 28 rfl) (by decide) (by decide)) (g := (mkF m 32 #[.val (.ref b1), .val (.int (65533 : Int32)), .val (.int (0 : Int32)), .val (.int (Int32.ofNat cs.length))] [(.int (Int32.ofNat cs.length)), (.int (0 : Int32)), (.int (65533 : Int32)), (.ref b1)])) rfl (by rw [hml]; rfl) (argsL := [(.ref b1), (.int (65533 : Int32)), (.int (0 : Int32)), (.int (Int32.ofNat cs.length))]) (rest := []) (lenOf pd6 rfl) rfl (by show 2 * 0 + _ ≤ _; exact Nat.le_of_eq rfl) (hb hby dj52m40_32) (fun _ _ => ⟨rfl, eq53, (by decide : 0 + 0 ≤ _), (by decide : 0 + 0 ≤ _)⟩)
  dsimp only [Pt.U, Pt.locs, Pt.cells, Pt.slots] at X55 l55 y55 z55 st55 hQ55
  subst l55 y55 z55
  obtain ⟨r55, rfl, hR55, Nq55, eq55⟩ := hQ55
  have N55 := Fr.app N53 Nq55
  refine own_cs [(.int r55)] 35 st55 ?_
  exact own_retI X55 hx hrt (hb hby dj52m40_35) hlk (by decide) (by decide) eq55 (⟨r55, rfl, hR55, N55, rfl⟩)
 ·
  refine own_d2 20 (fun _ q => XS.icmpNo X53.here hx rfl (hb hby dj52m40_17) rfl (flt c54).1 q) ?_
  refine own_tp (.int (-1 : Int32)) 21 (fun _ q => XS.iconst X53.here hx rfl (hb hby dj52m40_20) q) ?_
  exact own_retI X53 hx hrt (hb hby dj52m40_21) hlk (by decide) (by decide) eq53 (⟨(-1 : Int32), rfl, Or.inl ⟨by decide, own_none hl c54⟩, N53, rfl⟩)

def Q12 (z : Int32) (h0 : Heap) (n0 : Nat) (v : Option Value) (h : Heap) (L : List Loc) : Prop := v = some (.int z) ∧ Fr n0 L ∧ h = h0

def Q13 (cs : List Int32) (h0 : Heap) (n0 : Nat) (v : Option Value) (h : Heap) (L : List Loc) : Prop := ∃ r : Int32, v = some (.int r) ∧ own_R (65533 : Int32) cs r ∧ Fr n0 L ∧ h = h0

theorem rm15 (l : Launch) (Z : State) (a0 : Array Value) (hw : own_HW a0 Z) (ws : List Jvm.Cond) (a1 b1 : Addr) (k1 : ClassId) (cs : List Int32) (h0 : Heap) (n0 : Nat) (hl : cs.length ≤ 1000) (hch : ∀ c ∈ cs, 0 ≤ c.toInt ∧ c.toInt ≤ 65535) (G1 : Int32) (US : own_US Z G1) (O0 : Old Z n0 h0) (G3 : Value) (rG3 : G3.isRef = true) (Sf : own_SF Z G3) (E1 : Exa Z h0 a1 "java/lang/String") (C1 : Fld Z h0 a1 "java/lang/String" "coder" "B" (.int (0 : Int32))) (L1 : Fld Z h0 a1 "java/lang/String" "value" "[B" (.ref b1)) (hcs : ∀ c ∈ cs, ¬ (255 : Int32) < c) (V1 : Arv Z h0 b1 k1 .byte (Int32.ofNat cs.length) (own_lows cs) (.int (0 : Int32))) :
  own_Met l own_M12 jdk_42_method_152_code 1 (some .byte) ws own_R_0_0_0_0 Z #[(.ref a1)] h0 (Q12 (0 : Int32) h0 n0) := by
 refine own_enter #[.val (.ref a1)] (plainFor_of_name pn_java_lang_String) (fun m => ef_R_1 m a1) ?_
 intro p e s m below meth c s₁ hx hby hml hown hnm hZ hrt hlk X0 e0
 have w := @own_w _ _ hw
 have N0 := Fr.nil n0
 obtain ⟨T51, X51, e51, st51⟩ := getS2 X0 hx hZ hown (host := "") (Or.inl (w 25 rfl)) Via.refl e0 (US.2.1.ext O0.2) (g := (mkF m 0 #[.val (.ref a1)] [])) rfl (hb hby dj42m152_0)
 refine own_tp (.int G1) 3 st51 ?_
 refine own_d1 6 (fun _ q => XS.ifNo X51.here hx rfl (hb hby dj42m152_3) rfl ((if0 _ _).trans (feq US.1).1) q) ?_
 refine own_tp (.ref a1) 7 (fun _ q => XS.aloadN X51.here hx rfl (hb hby dj42m152_6) rfl rfl q) ?_
 obtain ⟨T52, X52, e52, st52⟩ := getF X51 hx hZ hown (host := "") (Or.inl (w 23 rfl)) Via.refl e51 C1 (g := (mkF m 7 #[.val (.ref a1)] [(.ref a1)])) rfl rfl (hb hby dj42m152_7)
 refine own_t1 (.int (0 : Int32)) 10 st52 ?_
 refine own_d0 14 (fun _ q => XS.goto X52.here hx rfl (pc0 := 10) (pc' := 14) rfl (hb hby dj42m152_10) (by decide) (by decide) q) ?_
 exact own_retN (t := .byte) X52 hx hrt (hb hby dj42m152_14) (by simp) hlk (by decide) (by decide) e52 (⟨rfl, N0, rfl⟩)

theorem rm16 (l : Launch) (Z : State) (a0 : Array Value) (hw : own_HW a0 Z) (ws : List Jvm.Cond) (a1 b1 : Addr) (k1 : ClassId) (cs : List Int32) (h0 : Heap) (n0 : Nat) (hl : cs.length ≤ 1000) (hch : ∀ c ∈ cs, 0 ≤ c.toInt ∧ c.toInt ≤ 65535) (G1 : Int32) (US : own_US Z G1) (O0 : Old Z n0 h0) (G3 : Value) (rG3 : G3.isRef = true) (Sf : own_SF Z G3) (E1 : Exa Z h0 a1 "java/lang/String") (C1 : Fld Z h0 a1 "java/lang/String" "coder" "B" (.int (0 : Int32))) (L1 : Fld Z h0 a1 "java/lang/String" "value" "[B" (.ref b1)) (hcs : ∀ c ∈ cs, ¬ (255 : Int32) < c) (V1 : Arv Z h0 b1 k1 .byte (Int32.ofNat cs.length) (own_lows cs) (.int (0 : Int32))) :
  own_Met l own_M13 jdk_42_method_154_code 1 (some .boolean) ws own_R_0_0_0_0 Z #[(.ref a1)] h0 (Q12 (1 : Int32) h0 n0) := by
 refine own_enter #[.val (.ref a1)] (plainFor_of_name pn_java_lang_String) (fun m => ef_R_1 m a1) ?_
 intro p e s m below meth c s₁ hx hby hml hown hnm hZ hrt hlk X0 e0
 have w := @own_w _ _ hw
 have N0 := Fr.nil n0
 obtain ⟨T51, X51, e51, st51⟩ := getS2 X0 hx hZ hown (host := "") (Or.inl (w 25 rfl)) Via.refl e0 (US.2.1.ext O0.2) (g := (mkF m 0 #[.val (.ref a1)] [])) rfl (hb hby dj42m154_0)
 refine own_tp (.int G1) 3 st51 ?_
 refine own_d1 6 (fun _ q => XS.ifNo X51.here hx rfl (hb hby dj42m154_3) rfl ((if0 _ _).trans (feq US.1).1) q) ?_
 refine own_tp (.ref a1) 7 (fun _ q => XS.aloadN X51.here hx rfl (hb hby dj42m154_6) rfl rfl q) ?_
 obtain ⟨T52, X52, e52, st52⟩ := getF X51 hx hZ hown (host := "") (Or.inl (w 23 rfl)) Via.refl e51 C1 (g := (mkF m 7 #[.val (.ref a1)] [(.ref a1)])) rfl rfl (hb hby dj42m154_7)
 refine own_t1 (.int (0 : Int32)) 10 st52 ?_
 refine own_d1 13 (fun _ q => XS.ifNo X52.here hx rfl (hb hby dj42m154_10) rfl ((if0 _ _).trans (teq (by decide : (0 : Int32) = (0 : Int32))).2) q) ?_
 refine own_tp (.int (1 : Int32)) 14 (fun _ q => XS.iconst X52.here hx rfl (hb hby dj42m154_13) q) ?_
 refine own_d0 18 (fun _ q => XS.goto X52.here hx rfl (pc0 := 14) (pc' := 18) rfl (hb hby dj42m154_14) (by decide) (by decide) q) ?_
 exact own_retN (t := .boolean) X52 hx hrt (hb hby dj42m154_18) (by simp) hlk (by decide) (by decide) e52 (⟨rfl, N0, rfl⟩)

theorem rm17 (l : Launch) (Z : State) (a0 : Array Value) (hw : own_HW a0 Z) (ws : List Jvm.Cond) (a1 b1 : Addr) (k1 : ClassId) (cs : List Int32) (h0 : Heap) (n0 : Nat) (hl : cs.length ≤ 1000) (hch : ∀ c ∈ cs, 0 ≤ c.toInt ∧ c.toInt ≤ 65535) (G1 : Int32) (US : own_US Z G1) (O0 : Old Z n0 h0) (G3 : Value) (rG3 : G3.isRef = true) (Sf : own_SF Z G3) (E1 : Exa Z h0 a1 "java/lang/String") (C1 : Fld Z h0 a1 "java/lang/String" "coder" "B" (.int (0 : Int32))) (L1 : Fld Z h0 a1 "java/lang/String" "value" "[B" (.ref b1)) (hcs : ∀ c ∈ cs, ¬ (255 : Int32) < c) (V1 : Arv Z h0 b1 k1 .byte (Int32.ofNat cs.length) (own_lows cs) (.int (0 : Int32))) :
  own_Met l own_M14 jdk_42_method_54_code 1 (some .int) ws own_R_1_0_0_13 Z #[(.ref a1)] h0 (Q12 (Int32.ofNat cs.length) h0 n0) := by
 refine own_enter #[.val (.ref a1)] (plainFor_of_name pn_java_lang_String) (fun m => ef_R_1 m a1) ?_
 intro p e s m below meth c s₁ hx hby hml hown hnm hZ hrt hlk X0 e0
 have w := @own_w _ _ hw
 have N0 := Fr.nil n0
 refine own_tp (.ref a1) 1 (fun _ q => XS.aloadN X0.here hx rfl (hb hby dj42m54_0) rfl rfl q) ?_
 obtain ⟨T51, X51, e51, st51⟩ := getF X0 hx hZ hown (host := "") (Or.inl (w 22 rfl)) Via.refl e0 L1 (g := (mkF m 1 #[.val (.ref a1)] [(.ref a1)])) rfl rfl (hb hby dj42m54_1)
 refine own_t1 (.ref b1) 4 st51 ?_
 obtain ⟨cl52, Ar52, -, Sz52, Nn52, -, -⟩ := (id V1)
 refine own_t1 (.int (Int32.ofNat cs.length)) 5 (fun t q => X51.arraylength hx (by rw [e51]; exact Ar52.1) (State.isArrayOf_alike hZ.alike Ar52.2.1) (g := (mkF m 4 #[.val (.ref a1)] [(.ref b1)])) rfl rfl (hb hby dj42m54_4) _ (by rw [len_of Sz52 Nn52]; exact q)) ?_
 refine own_tp (.ref a1) 6 (fun _ q => XS.aloadN X51.here hx rfl (hb hby dj42m54_5) rfl rfl q) ?_
 obtain ⟨cq53, kq53, q53a, q53b, q53c⟩ := isOf hZ e51 E1
 obtain ⟨_, _, ⟨T53, L53, k53, n53⟩, -, X53, ⟨Lc53, hQ53, l53, y53, z53⟩, st53⟩ := X51.virtualBack hx (y := own_M12) (z := own_M12) hown (mvT hZ (w 64 rfl)) (mvT hZ (w 65 rfl)) (notFace_of_selects (args := #[]) (mvT hZ (w 67 rfl))) (mvT hZ (w 67 rfl)) (mvT hZ (w 66 rfl)) (by decide) (backOf (W := 1) (rm15 l Z a0 hw [] a1 b1 k1 cs h0 n0 hl hch G1 US O0 G3 rG3 Sf E1 C1 L1 hcs V1) hZ (w 68 rfl) (w 5 rfl) (by decide) (by decide)) q53a q53c (g := (mkF m 6 #[.val (.ref a1)] [(.ref a1), (.int (Int32.ofNat cs.length))])) rfl (by rw [hml]; rfl) (Steps.refl _) (argsL := []) (rest := [(.int (Int32.ofNat cs.length))]) (lenOf pd8 rfl) rfl (by show 2 * 0 + _ ≤ _; exact Nat.le_of_eq rfl) (hb hby dj42m54_6) (fun _ _ => ⟨rfl, e51, (by decide : 0 + 0 ≤ _), (by decide : 0 + 0 ≤ _)⟩)
 dsimp only [Pt.U, Pt.locs, Pt.cells, Pt.slots] at X53 l53 y53 z53 st53 hQ53
 subst l53 y53 z53
 obtain ⟨rfl, Nq53, eq53⟩ := hQ53
 have N53 := Fr.app N0 Nq53
 refine own_csR [(.int (0 : Int32)), (.int (Int32.ofNat cs.length))] 9 st53 ?_
 refine own_t2 (.int ((Int32.ofNat cs.length) >>> ((0 : Int32) &&& 31))) 10 (fun _ q => XS.ishr X53.here hx rfl (hb hby dj42m54_9) rfl q) ?_
 exact own_retI X53 hx hrt (hb hby dj42m54_10) hlk (by decide) (by decide) eq53 (⟨by rw [own_shr0], N53, rfl⟩)

theorem rm18 (l : Launch) (Z : State) (a0 : Array Value) (hw : own_HW a0 Z) (ws : List Jvm.Cond) (a1 b1 : Addr) (k1 : ClassId) (cs : List Int32) (h0 : Heap) (n0 : Nat) (hl : cs.length ≤ 1000) (hch : ∀ c ∈ cs, 0 ≤ c.toInt ∧ c.toInt ≤ 65535) (G1 : Int32) (US : own_US Z G1) (O0 : Old Z n0 h0) (G3 : Value) (rG3 : G3.isRef = true) (Sf : own_SF Z G3) (E1 : Exa Z h0 a1 "java/lang/String") (C1 : Fld Z h0 a1 "java/lang/String" "coder" "B" (.int (0 : Int32))) (L1 : Fld Z h0 a1 "java/lang/String" "value" "[B" (.ref b1)) (hcs : ∀ c ∈ cs, ¬ (255 : Int32) < c) (V1 : Arv Z h0 b1 k1 .byte (Int32.ofNat cs.length) (own_lows cs) (.int (0 : Int32))) :
  own_Met l own_M15 jdk_42_method_80_code 3 (some .int) ws own_R_5_0_0_75 Z #[(.ref a1), (.int (65533 : Int32)), (.int (0 : Int32))] h0 (Q13 cs h0 n0) := by
 refine own_enter #[.val (.ref a1), .val (.int (65533 : Int32)), .val (.int (0 : Int32))] (plainFor_of_name pn_java_lang_String) (fun m => ef_RII_3 m a1 (65533 : Int32) (0 : Int32)) ?_
 intro p e s m below meth c s₁ hx hby hml hown hnm hZ hrt hlk X0 e0
 have w := @own_w _ _ hw
 have N0 := Fr.nil n0
 refine own_tp (.ref a1) 1 (fun _ q => XS.aloadN X0.here hx rfl (hb hby dj42m80_0) rfl rfl q) ?_
 obtain ⟨cq51, kq51, q51a, q51b, q51c⟩ := isOf hZ e0 E1
 obtain ⟨_, _, ⟨T51, L51, k51, n51⟩, -, X51, ⟨Lc51, hQ51, l51, y51, z51⟩, st51⟩ := X0.virtualBack hx (y := own_M13) (z := own_M13) hown (mvT hZ (w 54 rfl)) (mvT hZ (w 55 rfl)) (notFace_of_selects (args := #[]) (mvT hZ (w 57 rfl))) (mvT hZ (w 57 rfl)) (mvT hZ (w 56 rfl)) (by decide) (backOf (W := 0) (rm16 l Z a0 hw [] a1 b1 k1 cs h0 n0 hl hch G1 US O0 G3 rG3 Sf E1 C1 L1 hcs V1) hZ (w 58 rfl) (w 5 rfl) (by decide) (by decide)) q51a q51c (g := (mkF m 1 #[.val (.ref a1), .val (.int (65533 : Int32)), .val (.int (0 : Int32))] [(.ref a1)])) rfl (by rw [hml]; rfl) (Steps.refl _) (argsL := []) (rest := []) (lenOf pd9 rfl) rfl (by show 2 * 0 + _ ≤ _; exact Nat.le_of_eq rfl) (hb hby dj42m80_1) (fun _ _ => ⟨rfl, e0, (by decide : 0 + 0 ≤ _), (by decide : 0 + 0 ≤ _)⟩)
 dsimp only [Pt.U, Pt.locs, Pt.cells, Pt.slots] at X51 l51 y51 z51 st51 hQ51
 subst l51 y51 z51
 obtain ⟨rfl, Nq51, eq51⟩ := hQ51
 have N51 := Fr.app N0 Nq51
 refine own_csR [(.int (1 : Int32))] 4 st51 ?_
 refine own_d1 7 (fun _ q => XS.ifNo X51.here hx rfl (hb hby dj42m80_4) rfl ((if0 _ _).trans (feq (by decide : ¬ ((1 : Int32) = (0 : Int32)))).1) q) ?_
 refine own_tp (.ref a1) 8 (fun _ q => XS.aloadN X51.here hx rfl (hb hby dj42m80_7) rfl rfl q) ?_
 obtain ⟨T52, X52, e52, st52⟩ := getF X51 hx hZ hown (host := "") (Or.inl (w 22 rfl)) Via.refl eq51 L1 (g := (mkF m 8 #[.val (.ref a1), .val (.int (65533 : Int32)), .val (.int (0 : Int32))] [(.ref a1)])) rfl rfl (hb hby dj42m80_8)
 refine own_t1 (.ref b1) 11 st52 ?_
 refine own_tp (.int (65533 : Int32)) 12 (fun _ q => XS.iloadN X52.here hx rfl (hb hby dj42m80_11) rfl q) ?_
 refine own_tp (.int (0 : Int32)) 13 (fun _ q => XS.iloadN X52.here hx rfl (hb hby dj42m80_12) rfl q) ?_
 refine own_tp (.ref a1) 14 (fun _ q => XS.aloadN X52.here hx rfl (hb hby dj42m80_13) rfl rfl q) ?_
 obtain ⟨cq53, kq53, q53a, q53b, q53c⟩ := isOf hZ e52 E1
 obtain ⟨_, _, ⟨T53, L53, k53, n53⟩, -, X53, ⟨Lc53, hQ53, l53, y53, z53⟩, st53⟩ := X52.virtualBack hx (y := own_M14) (z := own_M14) hown (mvT hZ (w 59 rfl)) (mvT hZ (w 60 rfl)) (notFace_of_selects (args := #[]) (mvT hZ (w 62 rfl))) (mvT hZ (w 62 rfl)) (mvT hZ (w 61 rfl)) (by decide) (backOf (W := 3) (rm17 l Z a0 hw [] a1 b1 k1 cs h0 n0 hl hch G1 US O0 G3 rG3 Sf E1 C1 L1 hcs V1) hZ (w 63 rfl) (w 5 rfl) (by decide) (by decide)) q53a q53c (g := (mkF m 14 #[.val (.ref a1), .val (.int (65533 : Int32)), .val (.int (0 : Int32))] [(.ref a1), (.int (0 : Int32)), (.int (65533 : Int32)), (.ref b1)])) rfl (by rw [hml]; rfl) (Steps.refl _) (argsL := []) (rest := [(.int (0 : Int32)), (.int (65533 : Int32)), (.ref b1)]) (lenOf pd10 rfl) rfl (by show 2 * 0 + _ ≤ _; exact Nat.le_of_eq rfl) (hb hby dj42m80_14) (fun _ _ => ⟨rfl, e52, (by decide : 0 + 0 ≤ _), (by decide : 0 + 0 ≤ _)⟩)
 dsimp only [Pt.U, Pt.locs, Pt.cells, Pt.slots] at X53 l53 y53 z53 st53 hQ53
 subst l53 y53 z53
 obtain ⟨rfl, Nq53, eq53⟩ := hQ53
 have N53 := Fr.app N51 Nq53
 refine own_csR [(.int (Int32.ofNat cs.length)), (.int (0 : Int32)), (.int (65533 : Int32)), (.ref b1)] 17 st53 ?_
 obtain ⟨_, _, ⟨T54, L54, k54, n54⟩, -, X54, ⟨Lc54, hQ54, l54, y54, z54⟩, st54⟩ := Jvm.LawKit.callS X53 hx (y := own_M4) hown (mvT hZ (w 69 rfl)) (mvT hZ (w 70 rfl)) (mvT hZ (w 71 rfl)) (mvT hZ (w 72 rfl)) (by decide) (backOf (W := 0) (rm4 l Z a0 hw [] b1 k1 cs h0 n0 hl hch hcs V1) hZ (w 72 rfl) (w 71 rfl) (by decide) (by decide)) (g := (mkF m 17 #[.val (.ref a1), .val (.int (65533 : Int32)), .val (.int (0 : Int32))] [(.int (Int32.ofNat cs.length)), (.int (0 : Int32)), (.int (65533 : Int32)), (.ref b1)])) rfl (by rw [hml]; rfl) (argsL := [(.ref b1), (.int (65533 : Int32)), (.int (0 : Int32)), (.int (Int32.ofNat cs.length))]) (rest := []) (lenOf pd6 rfl) rfl (by show 2 * 0 + _ ≤ _; exact Nat.le_of_eq rfl) (hb hby dj42m80_17) (fun _ _ => ⟨rfl, eq53, (by decide : 0 + 0 ≤ _), (by decide : 0 + 0 ≤ _)⟩)
 dsimp only [Pt.U, Pt.locs, Pt.cells, Pt.slots] at X54 l54 y54 z54 st54 hQ54
 subst l54 y54 z54
 obtain ⟨r54, rfl, hR54, Nq54, eq54⟩ := hQ54
 have N54 := Fr.app N53 Nq54
 refine own_cs [(.int r54)] 20 st54 ?_
 refine own_d0 36 (fun _ q => XS.goto X54.here hx rfl (pc0 := 20) (pc' := 36) rfl (hb hby dj42m80_20) (by decide) (by decide) q) ?_
 exact own_retI X54 hx hrt (hb hby dj42m80_36) hlk (by decide) (by decide) eq54 (⟨r54, rfl, hR54, N54, rfl⟩)

theorem rm19 (l : Launch) (Z : State) (a0 : Array Value) (hw : own_HW a0 Z) (ws : List Jvm.Cond) (a1 b1 : Addr) (k1 : ClassId) (cs : List Int32) (h0 : Heap) (n0 : Nat) (hl : cs.length ≤ 1000) (hch : ∀ c ∈ cs, 0 ≤ c.toInt ∧ c.toInt ≤ 65535) (G1 : Int32) (US : own_US Z G1) (O0 : Old Z n0 h0) (G3 : Value) (rG3 : G3.isRef = true) (Sf : own_SF Z G3) (E1 : Exa Z h0 a1 "java/lang/String") (C1 : Fld Z h0 a1 "java/lang/String" "coder" "B" (.int (0 : Int32))) (L1 : Fld Z h0 a1 "java/lang/String" "value" "[B" (.ref b1)) (hcs : ∀ c ∈ cs, ¬ (255 : Int32) < c) (V1 : Arv Z h0 b1 k1 .byte (Int32.ofNat cs.length) (own_lows cs) (.int (0 : Int32))) :
  own_Met l own_M16 jdk_42_method_79_code 2 (some .int) ws own_R_6_0_0_89 Z #[(.ref a1), (.int (65533 : Int32))] h0 (Q13 cs h0 n0) := by
 refine own_enter #[.val (.ref a1), .val (.int (65533 : Int32))] (plainFor_of_name pn_java_lang_String) (fun m => ef_RI_2 m a1 (65533 : Int32)) ?_
 intro p e s m below meth c s₁ hx hby hml hown hnm hZ hrt hlk X0 e0
 have w := @own_w _ _ hw
 have N0 := Fr.nil n0
 refine own_tp (.ref a1) 1 (fun _ q => XS.aloadN X0.here hx rfl (hb hby dj42m79_0) rfl rfl q) ?_
 refine own_tp (.int (65533 : Int32)) 2 (fun _ q => XS.iloadN X0.here hx rfl (hb hby dj42m79_1) rfl q) ?_
 refine own_tp (.int (0 : Int32)) 3 (fun _ q => XS.iconst X0.here hx rfl (hb hby dj42m79_2) q) ?_
 obtain ⟨cq51, kq51, q51a, q51b, q51c⟩ := isOf hZ e0 E1
 obtain ⟨_, _, ⟨T51, L51, k51, n51⟩, -, X51, ⟨Lc51, hQ51, l51, y51, z51⟩, st51⟩ := X0.virtualBack hx (y := own_M15) (z := own_M15) hown (mvT hZ (w 49 rfl)) (mvT hZ (w 50 rfl)) (notFace_of_selects (args := #[]) (mvT hZ (w 52 rfl))) (mvT hZ (w 52 rfl)) (mvT hZ (w 51 rfl)) (by decide) (backOf (W := 0) (rm18 l Z a0 hw [] a1 b1 k1 cs h0 n0 hl hch G1 US O0 G3 rG3 Sf E1 C1 L1 hcs V1) hZ (w 53 rfl) (w 5 rfl) (by decide) (by decide)) q51a q51c (g := (mkF m 3 #[.val (.ref a1), .val (.int (65533 : Int32))] [(.int (0 : Int32)), (.int (65533 : Int32)), (.ref a1)])) rfl (by rw [hml]; rfl) (Steps.refl _) (argsL := [(.int (65533 : Int32)), (.int (0 : Int32))]) (rest := []) (lenOf pd7 rfl) rfl (by show 2 * 0 + _ ≤ _; exact Nat.le_of_eq rfl) (hb hby dj42m79_3) (fun _ _ => ⟨rfl, e0, (by decide : 0 + 0 ≤ _), (by decide : 0 + 0 ≤ _)⟩)
 dsimp only [Pt.U, Pt.locs, Pt.cells, Pt.slots] at X51 l51 y51 z51 st51 hQ51
 subst l51 y51 z51
 obtain ⟨r51, rfl, hR51, Nq51, eq51⟩ := hQ51
 have N51 := Fr.app N0 Nq51
 refine own_csR [(.int r51)] 6 st51 ?_
 exact own_retI X51 hx hrt (hb hby dj42m79_6) hlk (by decide) (by decide) eq51 (⟨r51, rfl, hR51, N51, rfl⟩)

theorem rm20 (l : Launch) (Z : State) (a0 : Array Value) (hw : own_HW a0 Z) (ws : List Jvm.Cond) (a1 b1 : Addr) (k1 : ClassId) (cs : List Int32) (h0 : Heap) (n0 : Nat) (hl : cs.length ≤ 1000) (hch : ∀ c ∈ cs, 0 ≤ c.toInt ∧ c.toInt ≤ 65535) (G1 : Int32) (US : own_US Z G1) (O0 : Old Z n0 h0) (G3 : Value) (rG3 : G3.isRef = true) (Sf : own_SF Z G3) (E1 : Exa Z h0 a1 "java/lang/String") (C1 : Fld Z h0 a1 "java/lang/String" "coder" "B" (.int (1 : Int32))) (L1 : Fld Z h0 a1 "java/lang/String" "value" "[B" (.ref b1)) (V1 : Arv Z h0 b1 k1 .byte (Int32.ofNat (2 * cs.length)) (own_wide cs) (.int (0 : Int32))) :
  own_Met l own_M12 jdk_42_method_152_code 1 (some .byte) ws own_R_0_0_0_0 Z #[(.ref a1)] h0 (Q12 (1 : Int32) h0 n0) := by
 refine own_enter #[.val (.ref a1)] (plainFor_of_name pn_java_lang_String) (fun m => ef_R_1 m a1) ?_
 intro p e s m below meth c s₁ hx hby hml hown hnm hZ hrt hlk X0 e0
 have w := @own_w _ _ hw
 have N0 := Fr.nil n0
 obtain ⟨T51, X51, e51, st51⟩ := getS2 X0 hx hZ hown (host := "") (Or.inl (w 25 rfl)) Via.refl e0 (US.2.1.ext O0.2) (g := (mkF m 0 #[.val (.ref a1)] [])) rfl (hb hby dj42m152_0)
 refine own_tp (.int G1) 3 st51 ?_
 refine own_d1 6 (fun _ q => XS.ifNo X51.here hx rfl (hb hby dj42m152_3) rfl ((if0 _ _).trans (feq US.1).1) q) ?_
 refine own_tp (.ref a1) 7 (fun _ q => XS.aloadN X51.here hx rfl (hb hby dj42m152_6) rfl rfl q) ?_
 obtain ⟨T52, X52, e52, st52⟩ := getF X51 hx hZ hown (host := "") (Or.inl (w 23 rfl)) Via.refl e51 C1 (g := (mkF m 7 #[.val (.ref a1)] [(.ref a1)])) rfl rfl (hb hby dj42m152_7)
 refine own_t1 (.int (1 : Int32)) 10 st52 ?_
 refine own_d0 14 (fun _ q => XS.goto X52.here hx rfl (pc0 := 10) (pc' := 14) rfl (hb hby dj42m152_10) (by decide) (by decide) q) ?_
 exact own_retN (t := .byte) X52 hx hrt (hb hby dj42m152_14) (by simp) hlk (by decide) (by decide) e52 (⟨rfl, N0, rfl⟩)

theorem rm21 (l : Launch) (Z : State) (a0 : Array Value) (hw : own_HW a0 Z) (ws : List Jvm.Cond) (a1 b1 : Addr) (k1 : ClassId) (cs : List Int32) (h0 : Heap) (n0 : Nat) (hl : cs.length ≤ 1000) (hch : ∀ c ∈ cs, 0 ≤ c.toInt ∧ c.toInt ≤ 65535) (G1 : Int32) (US : own_US Z G1) (O0 : Old Z n0 h0) (G3 : Value) (rG3 : G3.isRef = true) (Sf : own_SF Z G3) (E1 : Exa Z h0 a1 "java/lang/String") (C1 : Fld Z h0 a1 "java/lang/String" "coder" "B" (.int (1 : Int32))) (L1 : Fld Z h0 a1 "java/lang/String" "value" "[B" (.ref b1)) (V1 : Arv Z h0 b1 k1 .byte (Int32.ofNat (2 * cs.length)) (own_wide cs) (.int (0 : Int32))) :
  own_Met l own_M13 jdk_42_method_154_code 1 (some .boolean) ws own_R_0_0_0_0 Z #[(.ref a1)] h0 (Q12 (0 : Int32) h0 n0) := by
 refine own_enter #[.val (.ref a1)] (plainFor_of_name pn_java_lang_String) (fun m => ef_R_1 m a1) ?_
 intro p e s m below meth c s₁ hx hby hml hown hnm hZ hrt hlk X0 e0
 have w := @own_w _ _ hw
 have N0 := Fr.nil n0
 obtain ⟨T51, X51, e51, st51⟩ := getS2 X0 hx hZ hown (host := "") (Or.inl (w 25 rfl)) Via.refl e0 (US.2.1.ext O0.2) (g := (mkF m 0 #[.val (.ref a1)] [])) rfl (hb hby dj42m154_0)
 refine own_tp (.int G1) 3 st51 ?_
 refine own_d1 6 (fun _ q => XS.ifNo X51.here hx rfl (hb hby dj42m154_3) rfl ((if0 _ _).trans (feq US.1).1) q) ?_
 refine own_tp (.ref a1) 7 (fun _ q => XS.aloadN X51.here hx rfl (hb hby dj42m154_6) rfl rfl q) ?_
 obtain ⟨T52, X52, e52, st52⟩ := getF X51 hx hZ hown (host := "") (Or.inl (w 23 rfl)) Via.refl e51 C1 (g := (mkF m 7 #[.val (.ref a1)] [(.ref a1)])) rfl rfl (hb hby dj42m154_7)
 refine own_t1 (.int (1 : Int32)) 10 st52 ?_
 refine own_d1 17 (fun _ q => XS.ifYes X52.here hx rfl (pc0 := 10) (pc' := 17) rfl (hb hby dj42m154_10) rfl ((if0 _ _).trans (feq (by decide : ¬ ((1 : Int32) = (0 : Int32)))).2) (by decide) (by decide) q) ?_
 refine own_tp (.int (0 : Int32)) 18 (fun _ q => XS.iconst X52.here hx rfl (hb hby dj42m154_17) q) ?_
 exact own_retN (t := .boolean) X52 hx hrt (hb hby dj42m154_18) (by simp) hlk (by decide) (by decide) e52 (⟨rfl, N0, rfl⟩)

theorem rm22 (l : Launch) (Z : State) (a0 : Array Value) (hw : own_HW a0 Z) (ws : List Jvm.Cond) (a1 b1 : Addr) (k1 : ClassId) (cs : List Int32) (h0 : Heap) (n0 : Nat) (hl : cs.length ≤ 1000) (hch : ∀ c ∈ cs, 0 ≤ c.toInt ∧ c.toInt ≤ 65535) (G1 : Int32) (US : own_US Z G1) (O0 : Old Z n0 h0) (G3 : Value) (rG3 : G3.isRef = true) (Sf : own_SF Z G3) (E1 : Exa Z h0 a1 "java/lang/String") (C1 : Fld Z h0 a1 "java/lang/String" "coder" "B" (.int (1 : Int32))) (L1 : Fld Z h0 a1 "java/lang/String" "value" "[B" (.ref b1)) (V1 : Arv Z h0 b1 k1 .byte (Int32.ofNat (2 * cs.length)) (own_wide cs) (.int (0 : Int32))) :
  own_Met l own_M14 jdk_42_method_54_code 1 (some .int) ws own_R_1_0_0_13 Z #[(.ref a1)] h0 (Q12 (Int32.ofNat cs.length) h0 n0) := by
 refine own_enter #[.val (.ref a1)] (plainFor_of_name pn_java_lang_String) (fun m => ef_R_1 m a1) ?_
 intro p e s m below meth c s₁ hx hby hml hown hnm hZ hrt hlk X0 e0
 have w := @own_w _ _ hw
 have N0 := Fr.nil n0
 refine own_tp (.ref a1) 1 (fun _ q => XS.aloadN X0.here hx rfl (hb hby dj42m54_0) rfl rfl q) ?_
 obtain ⟨T51, X51, e51, st51⟩ := getF X0 hx hZ hown (host := "") (Or.inl (w 22 rfl)) Via.refl e0 L1 (g := (mkF m 1 #[.val (.ref a1)] [(.ref a1)])) rfl rfl (hb hby dj42m54_1)
 refine own_t1 (.ref b1) 4 st51 ?_
 obtain ⟨cl52, Ar52, -, Sz52, Nn52, -, -⟩ := (id V1)
 refine own_t1 (.int (Int32.ofNat (2 * cs.length))) 5 (fun t q => X51.arraylength hx (by rw [e51]; exact Ar52.1) (State.isArrayOf_alike hZ.alike Ar52.2.1) (g := (mkF m 4 #[.val (.ref a1)] [(.ref b1)])) rfl rfl (hb hby dj42m54_4) _ (by rw [len_of Sz52 Nn52]; exact q)) ?_
 refine own_tp (.ref a1) 6 (fun _ q => XS.aloadN X51.here hx rfl (hb hby dj42m54_5) rfl rfl q) ?_
 obtain ⟨cq53, kq53, q53a, q53b, q53c⟩ := isOf hZ e51 E1
 obtain ⟨_, _, ⟨T53, L53, k53, n53⟩, -, X53, ⟨Lc53, hQ53, l53, y53, z53⟩, st53⟩ := X51.virtualBack hx (y := own_M12) (z := own_M12) hown (mvT hZ (w 64 rfl)) (mvT hZ (w 65 rfl)) (notFace_of_selects (args := #[]) (mvT hZ (w 67 rfl))) (mvT hZ (w 67 rfl)) (mvT hZ (w 66 rfl)) (by decide) (backOf (W := 1) (rm20 l Z a0 hw [] a1 b1 k1 cs h0 n0 hl hch G1 US O0 G3 rG3 Sf E1 C1 L1 V1) hZ (w 68 rfl) (w 5 rfl) (by decide) (by decide)) q53a q53c (g := (mkF m 6 #[.val (.ref a1)] [(.ref a1), (.int (Int32.ofNat (2 * cs.length)))])) rfl (by rw [hml]; rfl) (Steps.refl _) (argsL := []) (rest := [(.int (Int32.ofNat (2 * cs.length)))]) (lenOf pd8 rfl) rfl (by show 2 * 0 + _ ≤ _; exact Nat.le_of_eq rfl) (hb hby dj42m54_6) (fun _ _ => ⟨rfl, e51, (by decide : 0 + 0 ≤ _), (by decide : 0 + 0 ≤ _)⟩)
 dsimp only [Pt.U, Pt.locs, Pt.cells, Pt.slots] at X53 l53 y53 z53 st53 hQ53
 subst l53 y53 z53
 obtain ⟨rfl, Nq53, eq53⟩ := hQ53
 have N53 := Fr.app N0 Nq53
 refine own_csR [(.int (1 : Int32)), (.int (Int32.ofNat (2 * cs.length)))] 9 st53 ?_
 refine own_t2 (.int ((Int32.ofNat (2 * cs.length)) >>> ((1 : Int32) &&& 31))) 10 (fun _ q => XS.ishr X53.here hx rfl (hb hby dj42m54_9) rfl q) ?_
 exact own_retI X53 hx hrt (hb hby dj42m54_10) hlk (by decide) (by decide) eq53 (⟨by rw [own_shr1 hl], N53, rfl⟩)

theorem rm23 (l : Launch) (Z : State) (a0 : Array Value) (hw : own_HW a0 Z) (ws : List Jvm.Cond) (a1 b1 : Addr) (k1 : ClassId) (cs : List Int32) (h0 : Heap) (n0 : Nat) (hl : cs.length ≤ 1000) (hch : ∀ c ∈ cs, 0 ≤ c.toInt ∧ c.toInt ≤ 65535) (G1 : Int32) (US : own_US Z G1) (O0 : Old Z n0 h0) (G3 : Value) (rG3 : G3.isRef = true) (Sf : own_SF Z G3) (E1 : Exa Z h0 a1 "java/lang/String") (C1 : Fld Z h0 a1 "java/lang/String" "coder" "B" (.int (1 : Int32))) (L1 : Fld Z h0 a1 "java/lang/String" "value" "[B" (.ref b1)) (V1 : Arv Z h0 b1 k1 .byte (Int32.ofNat (2 * cs.length)) (own_wide cs) (.int (0 : Int32))) :
  own_Met l own_M15 jdk_42_method_80_code 3 (some .int) ws own_R_5_0_0_75 Z #[(.ref a1), (.int (65533 : Int32)), (.int (0 : Int32))] h0 (Q13 cs h0 n0) := by
 refine own_enter #[.val (.ref a1), .val (.int (65533 : Int32)), .val (.int (0 : Int32))] (plainFor_of_name pn_java_lang_String) (fun m => ef_RII_3 m a1 (65533 : Int32) (0 : Int32)) ?_
 intro p e s m below meth c s₁ hx hby hml hown hnm hZ hrt hlk X0 e0
 have w := @own_w _ _ hw
 have N0 := Fr.nil n0
 refine own_tp (.ref a1) 1 (fun _ q => XS.aloadN X0.here hx rfl (hb hby dj42m80_0) rfl rfl q) ?_
 obtain ⟨cq51, kq51, q51a, q51b, q51c⟩ := isOf hZ e0 E1
 obtain ⟨_, _, ⟨T51, L51, k51, n51⟩, -, X51, ⟨Lc51, hQ51, l51, y51, z51⟩, st51⟩ := X0.virtualBack hx (y := own_M13) (z := own_M13) hown (mvT hZ (w 54 rfl)) (mvT hZ (w 55 rfl)) (notFace_of_selects (args := #[]) (mvT hZ (w 57 rfl))) (mvT hZ (w 57 rfl)) (mvT hZ (w 56 rfl)) (by decide) (backOf (W := 0) (rm21 l Z a0 hw [] a1 b1 k1 cs h0 n0 hl hch G1 US O0 G3 rG3 Sf E1 C1 L1 V1) hZ (w 58 rfl) (w 5 rfl) (by decide) (by decide)) q51a q51c (g := (mkF m 1 #[.val (.ref a1), .val (.int (65533 : Int32)), .val (.int (0 : Int32))] [(.ref a1)])) rfl (by rw [hml]; rfl) (Steps.refl _) (argsL := []) (rest := []) (lenOf pd9 rfl) rfl (by show 2 * 0 + _ ≤ _; exact Nat.le_of_eq rfl) (hb hby dj42m80_1) (fun _ _ => ⟨rfl, e0, (by decide : 0 + 0 ≤ _), (by decide : 0 + 0 ≤ _)⟩)
 dsimp only [Pt.U, Pt.locs, Pt.cells, Pt.slots] at X51 l51 y51 z51 st51 hQ51
 subst l51 y51 z51
 obtain ⟨rfl, Nq51, eq51⟩ := hQ51
 have N51 := Fr.app N0 Nq51
 refine own_csR [(.int (0 : Int32))] 4 st51 ?_
 refine own_d1 23 (fun _ q => XS.ifYes X51.here hx rfl (pc0 := 4) (pc' := 23) rfl (hb hby dj42m80_4) rfl ((if0 _ _).trans (teq (by decide : (0 : Int32) = (0 : Int32))).1) (by decide) (by decide) q) ?_
 refine own_tp (.ref a1) 24 (fun _ q => XS.aloadN X51.here hx rfl (hb hby dj42m80_23) rfl rfl q) ?_
 obtain ⟨T52, X52, e52, st52⟩ := getF X51 hx hZ hown (host := "") (Or.inl (w 22 rfl)) Via.refl eq51 L1 (g := (mkF m 24 #[.val (.ref a1), .val (.int (65533 : Int32)), .val (.int (0 : Int32))] [(.ref a1)])) rfl rfl (hb hby dj42m80_24)
 refine own_t1 (.ref b1) 27 st52 ?_
 refine own_tp (.int (65533 : Int32)) 28 (fun _ q => XS.iloadN X52.here hx rfl (hb hby dj42m80_27) rfl q) ?_
 refine own_tp (.int (0 : Int32)) 29 (fun _ q => XS.iloadN X52.here hx rfl (hb hby dj42m80_28) rfl q) ?_
 refine own_tp (.ref a1) 30 (fun _ q => XS.aloadN X52.here hx rfl (hb hby dj42m80_29) rfl rfl q) ?_
 obtain ⟨cq53, kq53, q53a, q53b, q53c⟩ := isOf hZ e52 E1
 obtain ⟨_, _, ⟨T53, L53, k53, n53⟩, -, X53, ⟨Lc53, hQ53, l53, y53, z53⟩, st53⟩ := X52.virtualBack hx (y := own_M14) (z := own_M14) hown (mvT hZ (w 59 rfl)) (mvT hZ (w 60 rfl)) (notFace_of_selects (args := #[]) (mvT hZ (w 62 rfl))) (mvT hZ (w 62 rfl)) (mvT hZ (w 61 rfl)) (by decide) (backOf (W := 3) (rm22 l Z a0 hw [] a1 b1 k1 cs h0 n0 hl hch G1 US O0 G3 rG3 Sf E1 C1 L1 V1) hZ (w 63 rfl) (w 5 rfl) (by decide) (by decide)) q53a q53c (g := (mkF m 30 #[.val (.ref a1), .val (.int (65533 : Int32)), .val (.int (0 : Int32))] [(.ref a1), (.int (0 : Int32)), (.int (65533 : Int32)), (.ref b1)])) rfl (by rw [hml]; rfl) (Steps.refl _) (argsL := []) (rest := [(.int (0 : Int32)), (.int (65533 : Int32)), (.ref b1)]) (lenOf pd10 rfl) rfl (by show 2 * 0 + _ ≤ _; exact Nat.le_of_eq rfl) (hb hby dj42m80_30) (fun _ _ => ⟨rfl, e52, (by decide : 0 + 0 ≤ _), (by decide : 0 + 0 ≤ _)⟩)
 dsimp only [Pt.U, Pt.locs, Pt.cells, Pt.slots] at X53 l53 y53 z53 st53 hQ53
 subst l53 y53 z53
 obtain ⟨rfl, Nq53, eq53⟩ := hQ53
 have N53 := Fr.app N51 Nq53
 refine own_csR [(.int (Int32.ofNat cs.length)), (.int (0 : Int32)), (.int (65533 : Int32)), (.ref b1)] 33 st53 ?_
 obtain ⟨_, _, ⟨T54, L54, k54, n54⟩, -, X54, ⟨Lc54, hQ54, l54, y54, z54⟩, st54⟩ := Jvm.LawKit.callS X53 hx (y := own_M11) hown (mvT hZ (w 223 rfl)) (mvT hZ (w 224 rfl)) (mvT hZ (w 28 rfl)) (mvT hZ (w 225 rfl)) (by decide) (backOf (W := 0) (rm11 l Z a0 hw [] b1 k1 cs h0 n0 hl hch V1 G1 US O0 G3 rG3 Sf) hZ (w 225 rfl) (w 28 rfl) (by decide) (by decide)) (g := (mkF m 33 #[.val (.ref a1), .val (.int (65533 : Int32)), .val (.int (0 : Int32))] [(.int (Int32.ofNat cs.length)), (.int (0 : Int32)), (.int (65533 : Int32)), (.ref b1)])) rfl (by rw [hml]; rfl) (argsL := [(.ref b1), (.int (65533 : Int32)), (.int (0 : Int32)), (.int (Int32.ofNat cs.length))]) (rest := []) (lenOf pd6 rfl) rfl (by show 2 * 0 + _ ≤ _; exact Nat.le_of_eq rfl) (hb hby dj42m80_33) (fun _ _ => ⟨rfl, eq53, (by decide : 0 + 0 ≤ _), (by decide : 0 + 0 ≤ _)⟩)
 dsimp only [Pt.U, Pt.locs, Pt.cells, Pt.slots] at X54 l54 y54 z54 st54 hQ54
 subst l54 y54 z54
 obtain ⟨r54, rfl, hR54, Nq54, eq54⟩ := hQ54
 have N54 := Fr.app N53 Nq54
 refine own_cs [(.int r54)] 36 st54 ?_
 exact own_retI X54 hx hrt (hb hby dj42m80_36) hlk (by decide) (by decide) eq54 (⟨r54, rfl, hR54, N54, rfl⟩)

theorem rm24 (l : Launch) (Z : State) (a0 : Array Value) (hw : own_HW a0 Z) (ws : List Jvm.Cond) (a1 b1 : Addr) (k1 : ClassId) (cs : List Int32) (h0 : Heap) (n0 : Nat) (hl : cs.length ≤ 1000) (hch : ∀ c ∈ cs, 0 ≤ c.toInt ∧ c.toInt ≤ 65535) (G1 : Int32) (US : own_US Z G1) (O0 : Old Z n0 h0) (G3 : Value) (rG3 : G3.isRef = true) (Sf : own_SF Z G3) (E1 : Exa Z h0 a1 "java/lang/String") (C1 : Fld Z h0 a1 "java/lang/String" "coder" "B" (.int (1 : Int32))) (L1 : Fld Z h0 a1 "java/lang/String" "value" "[B" (.ref b1)) (V1 : Arv Z h0 b1 k1 .byte (Int32.ofNat (2 * cs.length)) (own_wide cs) (.int (0 : Int32))) :
  own_Met l own_M16 jdk_42_method_79_code 2 (some .int) ws own_R_6_0_0_89 Z #[(.ref a1), (.int (65533 : Int32))] h0 (Q13 cs h0 n0) := by
 refine own_enter #[.val (.ref a1), .val (.int (65533 : Int32))] (plainFor_of_name pn_java_lang_String) (fun m => ef_RI_2 m a1 (65533 : Int32)) ?_
 intro p e s m below meth c s₁ hx hby hml hown hnm hZ hrt hlk X0 e0
 have w := @own_w _ _ hw
 have N0 := Fr.nil n0
 refine own_tp (.ref a1) 1 (fun _ q => XS.aloadN X0.here hx rfl (hb hby dj42m79_0) rfl rfl q) ?_
 refine own_tp (.int (65533 : Int32)) 2 (fun _ q => XS.iloadN X0.here hx rfl (hb hby dj42m79_1) rfl q) ?_
 refine own_tp (.int (0 : Int32)) 3 (fun _ q => XS.iconst X0.here hx rfl (hb hby dj42m79_2) q) ?_
 obtain ⟨cq51, kq51, q51a, q51b, q51c⟩ := isOf hZ e0 E1
 obtain ⟨_, _, ⟨T51, L51, k51, n51⟩, -, X51, ⟨Lc51, hQ51, l51, y51, z51⟩, st51⟩ := X0.virtualBack hx (y := own_M15) (z := own_M15) hown (mvT hZ (w 49 rfl)) (mvT hZ (w 50 rfl)) (notFace_of_selects (args := #[]) (mvT hZ (w 52 rfl))) (mvT hZ (w 52 rfl)) (mvT hZ (w 51 rfl)) (by decide) (backOf (W := 0) (rm23 l Z a0 hw [] a1 b1 k1 cs h0 n0 hl hch G1 US O0 G3 rG3 Sf E1 C1 L1 V1) hZ (w 53 rfl) (w 5 rfl) (by decide) (by decide)) q51a q51c (g := (mkF m 3 #[.val (.ref a1), .val (.int (65533 : Int32))] [(.int (0 : Int32)), (.int (65533 : Int32)), (.ref a1)])) rfl (by rw [hml]; rfl) (Steps.refl _) (argsL := [(.int (65533 : Int32)), (.int (0 : Int32))]) (rest := []) (lenOf pd7 rfl) rfl (by show 2 * 0 + _ ≤ _; exact Nat.le_of_eq rfl) (hb hby dj42m79_3) (fun _ _ => ⟨rfl, e0, (by decide : 0 + 0 ≤ _), (by decide : 0 + 0 ≤ _)⟩)
 dsimp only [Pt.U, Pt.locs, Pt.cells, Pt.slots] at X51 l51 y51 z51 st51 hQ51
 subst l51 y51 z51
 obtain ⟨r51, rfl, hR51, Nq51, eq51⟩ := hQ51
 have N51 := Fr.app N0 Nq51
 refine own_csR [(.int r51)] 6 st51 ?_
 exact own_retI X51 hx hrt (hb hby dj42m79_6) hlk (by decide) (by decide) eq51 (⟨r51, rfl, hR51, N51, rfl⟩)

theorem rm25 (l : Launch) (Z : State) (a0 : Array Value) (hw : own_HW a0 Z) (ws : List Jvm.Cond) (a1 : Addr) (cs : List Int32) (h0 : Heap) (n0 : Nat) (hl : cs.length ≤ 1000) (hch : ∀ c ∈ cs, 0 ≤ c.toInt ∧ c.toInt ≤ 65535) (G1 : Int32) (US : own_US Z G1) (O0 : Old Z n0 h0) (G3 : Value) (rG3 : G3.isRef = true) (Sf : own_SF Z G3) (SS : own_S Z h0 a1 cs) :
    own_Met l own_M16 jdk_42_method_79_code 2 (some .int) ws own_R_6_0_0_89 Z #[.ref a1, .int (65533 : Int32)] h0 (Q13 cs h0 n0) := by
  obtain ⟨t, kb, cd, N, vs, E1, L1, C1, V1, Co⟩ := SS
  rcases Co with ⟨rfl, rfl, rfl, hcs⟩ | ⟨rfl, rfl, rfl, hx⟩
  · exact rm19 l Z a0 hw ws a1 t kb cs h0 n0 hl hch G1 US O0 G3 rG3 Sf E1 C1 L1 hcs V1
  · exact rm24 l Z a0 hw ws a1 t kb cs h0 n0 hl hch G1 US O0 G3 rG3 Sf E1 C1 L1 V1

theorem own_Rn {p : Int32} {cs : List Int32} {r : Int32} (h : own_R p cs r) (q : r < (0 : Int32)) : p ∉ cs := by
  rcases h with h | h
  · exact h.2
  · exact absurd q h.1
theorem own_Ry {p : Int32} {cs : List Int32} {r : Int32} (h : own_R p cs r) (q : ¬ r < (0 : Int32)) : p ∈ cs := by
  rcases h with h | h
  · exact absurd h.1 q
  · exact h.2

def Q26 (cs : List Int32) (h0 : Heap) (n0 : Nat) (v : Option Value) (h : Heap) (L : List Loc) : Prop := v = some (.int (own_ud cs)) ∧ Fr n0 L ∧ h = h0

theorem rm26 (l : Launch) (Z : State) (a0 : Array Value) (hw : own_HW a0 Z) (ws : List Jvm.Cond) (a1 : Addr) (cs : List Int32) (h0 : Heap) (n0 : Nat) (hl : cs.length ≤ 1000) (hch : ∀ c ∈ cs, 0 ≤ c.toInt ∧ c.toInt ≤ 65535) (G1 : Int32) (US : own_US Z G1) (O0 : Old Z n0 h0) (G3 : Value) (rG3 : G3.isRef = true) (Sf : own_SF Z G3) (SS : own_S Z h0 a1 cs) :
  own_Met l own_M17 prog_30_method_4_code 1 (some .boolean) ws own_R_7_0_0_102 Z #[(.ref a1)] h0 (Q26 cs h0 n0) := by
 refine own_enter #[.val (.ref a1)] (plainFor_of_name pn_com_example_kalends_kalends_FileNames) (fun m => ef_R_1 m a1) ?_
 intro p e s m below meth c s₁ hx hby hml hown hnm hZ hrt hlk X0 e0
 have w := @own_w _ _ hw
 have N0 := Fr.nil n0
 have E1 := own_S.exa SS
 refine own_tp (.ref a1) 1 (fun _ q => XS.aloadN X0.here hx rfl (hb hby dp30m4_0) rfl rfl q) ?_
 refine own_tp (.int (65533 : Int32)) 3 (fun _ q => X0.ldcInt hx hown (mvT hZ (w 43 rfl)) (g := (mkF m 1 #[.val (.ref a1)] [(.ref a1)])) rfl (hb hby dp30m4_1) _ q) ?_
 obtain ⟨cq51, kq51, q51a, q51b, q51c⟩ := isOf hZ e0 E1
 obtain ⟨_, _, ⟨T51, L51, k51, n51⟩, -, X51, ⟨Lc51, hQ51, l51, y51, z51⟩, st51⟩ := X0.virtualBack hx (y := own_M16) (z := own_M16) hown (mvT hZ (w 44 rfl)) (mvT hZ (w 45 rfl)) (notFace_of_selects (args := #[]) (mvT hZ (w 47 rfl))) (mvT hZ (w 47 rfl)) (mvT hZ (w 46 rfl)) (by decide) (backOf (W := 0) (rm25 l Z a0 hw [] a1 cs h0 n0 hl hch G1 US O0 G3 rG3 Sf SS) hZ (w 48 rfl) (w 5 rfl) (by decide) (by decide)) q51a q51c (g := (mkF m 3 #[.val (.ref a1)] [(.int (65533 : Int32)), (.ref a1)])) rfl (by rw [hml]; rfl) (Steps.refl _) (argsL := [(.int (65533 : Int32))]) (rest := []) (lenOf pd11 rfl) rfl (by show 2 * 0 + _ ≤ _; exact Nat.le_of_eq rfl) (hb hby dp30m4_3) (fun _ _ => ⟨rfl, e0, (by decide : 0 + 0 ≤ _), (by decide : 0 + 0 ≤ _)⟩)
 dsimp only [Pt.U, Pt.locs, Pt.cells, Pt.slots] at X51 l51 y51 z51 st51 hQ51
 subst l51 y51 z51
 obtain ⟨r51, rfl, hR51, Nq51, eq51⟩ := hQ51
 have N51 := Fr.app N0 Nq51
 refine own_csR [(.int r51)] 6 st51 ?_
 by_cases c52 : r51 < (0 : Int32)
 ·
  refine own_d1 13 (fun _ q => XS.ifYes X51.here hx rfl (pc0 := 6) (pc' := 13) rfl (hb hby dp30m4_6) rfl ((if0 _ _).trans (tlt c52).1) (by decide) (by decide) q) ?_
  refine own_tp (.int (0 : Int32)) 14 (fun _ q => XS.iconst X51.here hx rfl (hb hby dp30m4_13) q) ?_
  exact own_retN (t := .boolean) X51 hx hrt (hb hby dp30m4_14) (by simp) hlk (by decide) (by decide) eq51 (⟨by unfold own_ud; rw [if_neg (own_Rn hR51 c52)]; rfl, N51, rfl⟩)
 ·
  refine own_d1 9 (fun _ q => XS.ifNo X51.here hx rfl (hb hby dp30m4_6) rfl ((if0 _ _).trans (flt c52).1) q) ?_
  refine own_tp (.int (1 : Int32)) 10 (fun _ q => XS.iconst X51.here hx rfl (hb hby dp30m4_9) q) ?_
  refine own_d0 14 (fun _ q => XS.goto X51.here hx rfl (pc0 := 10) (pc' := 14) rfl (hb hby dp30m4_10) (by decide) (by decide) q) ?_
  exact own_retN (t := .boolean) X51 hx hrt (hb hby dp30m4_14) (by simp) hlk (by decide) (by decide) eq51 (⟨by unfold own_ud; rw [if_pos (own_Ry hR51 c52)]; rfl, N51, rfl⟩)

def own_B (Z : State) (h : Heap) (sb vb : Addr) (kv : ClassId) (cd cnt N : Int32) (vs : List Value) : Prop := Exa Z h sb "java/lang/StringBuilder" ∧ Fld Z h sb "java/lang/AbstractStringBuilder" "value" "[B" (.ref vb) ∧ Fld Z h sb "java/lang/AbstractStringBuilder" "coder" "B" (.int cd) ∧ Fld Z h sb "java/lang/AbstractStringBuilder" "count" "I" (.int cnt) ∧ Fld Z h sb "java/lang/AbstractStringBuilder" "maybeLatin1" "Z" (.int (0 : Int32)) ∧ Arv Z h vb kv .byte N vs (.int (0 : Int32))
def own_D (Z : State) (h : Heap) (st sv : Addr) (ks : ClassId) (cd N : Int32) (vs : List Value) : Prop := Exa Z h st "java/lang/String" ∧ Fld Z h st "java/lang/String" "coder" "B" (.int cd) ∧ Fld Z h st "java/lang/String" "value" "[B" (.ref sv) ∧ Arv Z h sv ks .byte N vs (.int (0 : Int32))

theorem own_shl0 (z : Int32) : z <<< ((0 : Int32) &&& 31) = z := by
  have q := c_ishl z 0 0 (by decide)
  have r := rng32 z
  have r' := rng32 (z <<< ((0 : Int32) &&& 31))
  rw [← Int32.toInt_inj]
  simp only [Nat.pow_zero] at q
  omega
theorem own_add2 (c : Nat) : Int32.ofNat c + (2 : Int32) = Int32.ofNat (c + 2) := (Int32.ofNat_add c 2).symm
theorem own_subN {a b : Nat} (hb : b ≤ a) (ha : a ≤ 4000) : Int32.ofNat a - Int32.ofNat b = Int32.ofNat (a - b) := by
  have q := c_isub (Int32.ofNat a) (Int32.ofNat b)
  have r := rng32 (Int32.ofNat a - Int32.ofNat b)
  rw [Int32.toInt_ofNat_small (by omega), Int32.toInt_ofNat_small (by omega)] at q
  rw [← Int32.toInt_inj, Int32.toInt_ofNat_small (by omega)]
  omega
theorem own_sub0 (z : Int32) : z - (0 : Int32) = z := by
  have q := c_isub z 0
  have e : (0 : Int32).toInt = 0 := rfl
  have r := rng32 z
  have r' := rng32 (z - 0)
  rw [← Int32.toInt_inj]
  omega
theorem own_gt0 {a b : Nat} (ha : a ≤ 4000) (hb : b ≤ 4000) : (0 : Int32) < Int32.ofNat a - Int32.ofNat b ↔ b < a := by
  have q := c_isub (Int32.ofNat a) (Int32.ofNat b)
  have r := rng32 (Int32.ofNat a - Int32.ofNat b)
  have e : (0 : Int32).toInt = 0 := rfl
  rw [Int32.toInt_ofNat_small (by omega), Int32.toInt_ofNat_small (by omega)] at q
  rw [Int32.lt_iff_toInt_lt, e]
  omega
theorem own_ltM {a b : Nat} (ha : a ≤ 4000) (hb : b ≤ 4000) : Int32.ofNat a < Int32.ofNat b ↔ a < b := by
  rw [Int32.lt_iff_toInt_lt, Int32.toInt_ofNat_small (by omega), Int32.toInt_ofNat_small (by omega)]
  omega
theorem own_neM {a b : Nat} (ha : a ≤ 4000) (hb : b ≤ 4000) (h : a ≠ b) : ¬ (Int32.ofNat a = Int32.ofNat b) := by
  rw [← Int32.toInt_inj, Int32.toInt_ofNat_small (by omega), Int32.toInt_ofNat_small (by omega)]
  omega
theorem own_nmax {a : Nat} (ha : a ≤ 4000) : ¬ (Int32.ofNat a = (2147483647 : Int32)) := by
  have e : (2147483647 : Int32).toInt = 2147483647 := rfl
  rw [← Int32.toInt_inj, Int32.toInt_ofNat_small (by omega), e]
  omega
theorem own_nbig {a : Nat} (ha : a ≤ 4000) : ¬ ((2147483639 : Int32) < Int32.ofNat a) := by
  have e : (2147483639 : Int32).toInt = 2147483639 := rfl
  rw [Int32.lt_iff_toInt_lt, Int32.toInt_ofNat_small (by omega), e]
  omega
theorem own_posN {a : Nat} (ha : a ≤ 4000) (h : 0 < a) : (0 : Int32) < Int32.ofNat a := (own_ltM (a := 0) (by omega) ha).mpr h
theorem own_maxz {a b : Nat} (ha : a ≤ 4000) (hb : b ≤ 4000) : (Int32.ofNat a < Int32.ofNat b → Int32.ofNat (max a b) = Int32.ofNat b) ∧ (¬ Int32.ofNat a < Int32.ofNat b → Int32.ofNat (max a b) = Int32.ofNat a) := by
  rw [own_ltM ha hb]
  exact ⟨fun h => by rw [Nat.max_eq_right (by omega)], fun h => by rw [Nat.max_eq_left (by omega)]⟩
theorem own_minL {a b : Nat} (ha : a ≤ 4000) (hb : b ≤ 4000) (h : a ≤ b) : (Int32.ofNat b < Int32.ofNat a → Int32.ofNat a = Int32.ofNat b) ∧ (¬ Int32.ofNat b < Int32.ofNat a → Int32.ofNat a = Int32.ofNat a) := ⟨fun q => absurd ((own_ltM hb ha).mp q) (by omega), fun _ => rfl⟩
theorem own_minR {a b : Nat} (ha : a ≤ 4000) (hb : b ≤ 4000) (h : b < a) : (Int32.ofNat b < Int32.ofNat a → Int32.ofNat b = Int32.ofNat b) ∧ (¬ Int32.ofNat b < Int32.ofNat a → Int32.ofNat b = Int32.ofNat a) := ⟨fun _ => rfl, fun q => absurd ((own_ltM hb ha).mpr h) q⟩
theorem own_orN : ∀ a b : Nat, a < 256 → b < 256 → Int32.ofNat a ||| Int32.ofNat b = Int32.ofNat (a ||| b) := fun a b _ _ => by
  apply Int32.toBitVec_inj.mp
  show BitVec.ofNat 32 a ||| BitVec.ofNat 32 b = BitVec.ofNat 32 (a ||| b)
  exact BitVec.ofNat_or.symm
theorem own_or3 {a b c : Nat} (ha : a < 256) (hb : b < 256) (hc : c < 256) : ¬ ((Int32.ofNat a ||| Int32.ofNat b) ||| Int32.ofNat c) < (0 : Int32) := by
  have q : a ||| b < 2 ^ 8 := Nat.or_lt_two_pow ha hb
  have q2 : (a ||| b) ||| c < 2 ^ 8 := Nat.or_lt_two_pow q hc
  rw [own_orN a b ha hb, own_orN _ c q hc]
  exact (own_ofn (by omega)).1
theorem own_offc {m p n : Nat} (h : p + n ≤ m) (hm : m ≤ 4000) : ¬ (Int32.ofNat m - Int32.ofNat p < Int32.ofNat n) := by
  rw [own_subN (by omega) hm, own_ltM (by omega) (by omega)]
  omega

def Q27 (Z : State) (sb : Addr) (ts : List Int32) (h0 : Heap) (n0 : Nat) (v : Option Value) (h : Heap) (L : List Loc) : Prop := v = none ∧ Fr n0 L ∧ Keep h0 h [sb] ∧ ∃ (nv : Addr) (kn : ClassId), n0 ≤ nv ∧ h0.size ≤ nv ∧ own_B Z h sb nv kn (0 : Int32) (0 : Int32) (16 : Int32) (List.replicate 16 (.int (0 : Int32)))

theorem rm27 (l : Launch) (Z : State) (a0 : Array Value) (hw : own_HW a0 Z) (ws : List Jvm.Cond) (sb : Addr) (ts : List Int32) (h0 : Heap) (n0 : Nat) (Z0 : n0 ≤ h0.size) (gs : n0 ≤ sb) (EB : Exa Z h0 sb "java/lang/StringBuilder") (F_value : Fld Z h0 sb "java/lang/AbstractStringBuilder" "value" "[B" .null) (F_coder : Fld Z h0 sb "java/lang/AbstractStringBuilder" "coder" "B" (.int (0 : Int32))) (F_count : Fld Z h0 sb "java/lang/AbstractStringBuilder" "count" "I" (.int (0 : Int32))) (F_maybeLatin1 : Fld Z h0 sb "java/lang/AbstractStringBuilder" "maybeLatin1" "Z" (.int (0 : Int32))) (G1 : Int32) (US : own_US Z G1) (O0 : Old Z n0 h0) :
  own_Met l own_M18 jdk_68_method_2_code 2 none ws own_R_1_1_16_12 Z #[(.ref sb), (.int (16 : Int32))] h0 (Q27 Z sb ts h0 n0) := by
 refine own_enter #[.val (.ref sb), .val (.int (16 : Int32))] (plainFor_of_name pn_java_lang_AbstractStringBuilder) (fun m => ef_RI_2 m sb (16 : Int32)) ?_
 intro p e s m below meth c s₁ hx hby hml hown hnm hZ hrt hlk X0 e0
 have w := @own_w _ _ hw
 have N0 := Fr.nil n0
 refine own_tp (.ref sb) 1 (fun _ q => XS.aloadN X0.here hx rfl (hb hby dj68m2_0) rfl rfl q) ?_
 obtain ⟨T51, X51, e51, st51⟩ := initO X0 hx hZ hown (w 88 rfl) (w 14 rfl) (w 15 rfl) e0 (g := (mkF m 1 #[.val (.ref sb), .val (.int (16 : Int32))] [(.ref sb)])) rfl (by rw [hml]; rfl) rfl (hb hby dj68m2_1) (by decide) (W := 0) (by show 2 * 0 + _ ≤ _; exact Nat.le_of_eq rfl) (by decide)
 refine own_d1 4 st51 ?_
 obtain ⟨T52, X52, e52, st52⟩ := getS2 X51 hx hZ hown (host := "") (Or.inl (w 89 rfl)) Via.refl e51 (US.2.1.ext O0.2) (g := (mkF m 4 #[.val (.ref sb), .val (.int (16 : Int32))] [])) rfl (hb hby dj68m2_4)
 refine own_tp (.int G1) 7 st52 ?_
 refine own_d1 10 (fun _ q => XS.ifNo X52.here hx rfl (hb hby dj68m2_7) rfl ((if0 _ _).trans (feq US.1).1) q) ?_
 refine own_tp (.ref sb) 11 (fun _ q => XS.aloadN X52.here hx rfl (hb hby dj68m2_10) rfl rfl q) ?_
 refine own_tp (.int (16 : Int32)) 12 (fun _ q => XS.iloadN X52.here hx rfl (hb hby dj68m2_11) rfl q) ?_
 obtain ⟨T53, h53, k53, X53, e53, E53, A53, st53⟩ := newP X52 hx hZ (w 17 rfl) e52 (g := (mkF m 12 #[.val (.ref sb), .val (.int (16 : Int32))] [(.int (16 : Int32)), (.ref sb)])) rfl (hb hby dj68m2_12) rfl (by decide) (cap := 16) (by decide) (by decide) (by decide) (by decide)
 obtain ⟨b53, g53⟩ : ∃ z, z = h0.size := ⟨_, rfl⟩
 rw [← g53] at A53 st53
 have V53 : Arv Z h53 b53 k53 .byte (16 : Int32) (List.replicate 16 (.int (0 : Int32))) (.int (0 : Int32)) := (Arv.new A53 (by decide)).pad (pad_rep [] (.int (0 : Int32)) 16)
 have ge53 : n0 ≤ b53 := Nat.le_trans Z0 (Nat.le_of_eq g53.symm)
 have sz53 : h0.size ≤ b53 := Nat.le_trans (Keep.refl h0 [sb]).1 (Nat.le_of_eq g53.symm)
 have ne54 : sb ≠ b53 := Nat.ne_of_lt (Nat.lt_of_lt_of_le EB.lt (Nat.le_of_eq g53.symm))
 have O53 := Old.ext O0 E53
 have K53 : Keep h0 h53 [sb] := (Keep.refl h0 [sb]).ext E53
 have Z53 : n0 ≤ h53.size := Nat.le_trans Z0 E53.1
 refine own_t1 (.ref b53) 14 st53 ?_
 have f55 := (F_value.ext E53)
 have f56 := (EB.ext E53)
 obtain ⟨T57, h57, X57, e57, W57, st57⟩ := putF X53 hx hZ hown (host := "") (Or.inl (w 90 rfl)) Via.refl e53 f55 f56 (Or.inl (w 91 rfl)) (w 77 rfl) (ty := (.array .byte)) (by decide) rfl rfl (g := (mkF m 14 #[.val (.ref sb), .val (.int (16 : Int32))] [(.ref b53), (.ref sb)])) rfl rfl (hb hby dj68m2_14)
 have Fw57 := f55.same W57
 have N57 := Fr.snoc X57 N0 gs
 have O57 := Old.wr O53 W57 gs
 have K57 : Keep h0 h57 [sb] := K53.wr W57 (Or.inl (List.mem_of_getElem? (i := 0) rfl))
 have Z57 : n0 ≤ h57.size := Nat.le_trans Z53 (Nat.le_of_eq W57.size.symm)
 refine own_d2 17 st57 ?_
 refine own_tp (.ref sb) 18 (fun _ q => XS.aloadN X57.here hx rfl (hb hby dj68m2_17) rfl rfl q) ?_
 refine own_tp (.int (0 : Int32)) 19 (fun _ q => XS.iconst X57.here hx rfl (hb hby dj68m2_18) q) ?_
 have f58 := ((F_coder.ext E53).other W57 (Or.inr (slot_ne (Or.inl (w 93 rfl)) (Or.inl (w 91 rfl)) (by decide) (t := .byte) (t' := (.array .byte)) (by decide) (by decide))))
 have f59 := (f56.wr W57)
 obtain ⟨T60, h60, X60, e60, W60, st60⟩ := putFN X57 hx hZ hown (w 92 rfl) Via.refl e57 f58 f59 (Or.inl (w 93 rfl)) (w 77 rfl) (ty := .byte) (v' := (.int (0 : Int32))) (by decide) rfl rfl (g := (mkF m 19 #[.val (.ref sb), .val (.int (16 : Int32))] [(.int (0 : Int32)), (.ref sb)])) rfl rfl (hb hby dj68m2_19)
 have Fw60 := f58.same W60
 have N60 := Fr.snoc X60 N57 gs
 have O60 := Old.wr O57 W60 gs
 have K60 : Keep h0 h60 [sb] := K57.wr W60 (Or.inl (List.mem_of_getElem? (i := 0) rfl))
 have Z60 : n0 ≤ h60.size := Nat.le_trans Z57 (Nat.le_of_eq W60.size.symm)
 refine own_d2 22 st60 ?_
 refine own_d0 38 (fun _ q => XS.goto X60.here hx rfl (pc0 := 22) (pc' := 38) rfl (hb hby dj68m2_22) (by decide) (by decide) q) ?_
 have f61 := (f59.wr W60)
 have f62 := (Fw57.other W60 (Or.inr (slot_ne (Or.inl (w 91 rfl)) (Or.inl (w 93 rfl)) (by decide) (t := (.array .byte)) (t' := .byte) (by decide) (by decide))))
 have f63 := (((F_count.ext E53).other W57 (Or.inr (slot_ne (Or.inl (w 107 rfl)) (Or.inl (w 91 rfl)) (by decide) (t := .int) (t' := (.array .byte)) (by decide) (by decide)))).other W60 (Or.inr (slot_ne (Or.inl (w 107 rfl)) (Or.inl (w 93 rfl)) (by decide) (t := .int) (t' := .byte) (by decide) (by decide))))
 have f64 := (((F_maybeLatin1.ext E53).other W57 (Or.inr (slot_ne (Or.inl (w 272 rfl)) (Or.inl (w 91 rfl)) (by decide) (t := .boolean) (t' := (.array .byte)) (by decide) (by decide)))).other W60 (Or.inr (slot_ne (Or.inl (w 272 rfl)) (Or.inl (w 93 rfl)) (by decide) (t := .boolean) (t' := .byte) (by decide) (by decide))))
 have f65 := ((V53.other W57 (Ne.symm ne54)).other W60 (Ne.symm ne54))
 exact own_retV X60 hx hrt (hb hby dj68m2_38) hlk (by decide) (by decide) e60 (⟨rfl, N60, K60, b53, _, ge53, sz53, ⟨f61, f62, Fw60, f63, f64, f65⟩⟩)

def Q28 (Z : State) (sb : Addr) (ts : List Int32) (h0 : Heap) (n0 : Nat) (v : Option Value) (h : Heap) (L : List Loc) : Prop := v = none ∧ Fr n0 L ∧ Keep h0 h [sb] ∧ ∃ (nv : Addr) (kn : ClassId), n0 ≤ nv ∧ h0.size ≤ nv ∧ own_B Z h sb nv kn (0 : Int32) (0 : Int32) (16 : Int32) (List.replicate 16 (.int (0 : Int32)))

theorem rm28 (l : Launch) (Z : State) (a0 : Array Value) (hw : own_HW a0 Z) (ws : List Jvm.Cond) (sb : Addr) (ts : List Int32) (h0 : Heap) (n0 : Nat) (Z0 : n0 ≤ h0.size) (gs : n0 ≤ sb) (EB : Exa Z h0 sb "java/lang/StringBuilder") (F_value : Fld Z h0 sb "java/lang/AbstractStringBuilder" "value" "[B" .null) (F_coder : Fld Z h0 sb "java/lang/AbstractStringBuilder" "coder" "B" (.int (0 : Int32))) (F_count : Fld Z h0 sb "java/lang/AbstractStringBuilder" "count" "I" (.int (0 : Int32))) (F_maybeLatin1 : Fld Z h0 sb "java/lang/AbstractStringBuilder" "maybeLatin1" "Z" (.int (0 : Int32))) (G1 : Int32) (US : own_US Z G1) (O0 : Old Z n0 h0) :
  own_Met l own_M19 jdk_67_method_1_code 1 none ws own_R_2_1_16_25 Z #[(.ref sb)] h0 (Q28 Z sb ts h0 n0) := by
 refine own_enter #[.val (.ref sb)] (plainFor_of_name pn_java_lang_StringBuilder) (fun m => ef_R_1 m sb) ?_
 intro p e s m below meth c s₁ hx hby hml hown hnm hZ hrt hlk X0 e0
 have w := @own_w _ _ hw
 have N0 := Fr.nil n0
 refine own_tp (.ref sb) 1 (fun _ q => XS.aloadN X0.here hx rfl (hb hby dj67m1_0) rfl rfl q) ?_
 refine own_tp (.int (16 : Int32)) 3 (fun _ q => XS.bipush X0.here hx rfl (hb hby dj67m1_1) q) ?_
 obtain ⟨_, _, ⟨T51, L51, k51, n51⟩, -, X51, ⟨Lc51, hQ51, l51, y51, z51⟩, st51⟩ := X0.specialBack hx (y := own_M18) rfl hown (mvT hZ (w 82 rfl)) (mvT hZ (w 83 rfl)) (mvT hZ (w 87 rfl)) (by decide) (backOf (W := 0) (rm27 l Z a0 hw [] sb ts h0 n0 Z0 gs EB F_value F_coder F_count F_maybeLatin1 G1 US O0) hZ (w 87 rfl) (w 86 rfl) (by decide) (by decide)) (g := (mkF m 3 #[.val (.ref sb)] [(.int (16 : Int32)), (.ref sb)])) rfl (by rw [hml]; rfl) (Steps.refl _) (a := sb) (argsL := [(.int (16 : Int32))]) (rest := []) (lenOf pd12 rfl) rfl (by show 2 * 0 + _ ≤ _; exact Nat.le_of_eq rfl) (hb hby dj67m1_3) (fun _ _ => ⟨rfl, e0, (by decide : 0 + 1 ≤ _), (by decide : 0 + 16 ≤ _)⟩)
 dsimp only [Pt.U, Pt.locs, Pt.cells, Pt.slots] at X51 l51 y51 z51 st51 hQ51
 subst l51 y51 z51
 obtain ⟨rfl, Nq51, Kp51, rest51⟩ := hQ51
 refine own_csR [] 6 st51 ?_
 exact own_retV X51 hx hrt (hb hby dj67m1_6) hlk (by decide) (by decide) rfl (⟨rfl, Fr.app N0 Nq51, Kp51, rest51⟩)

def Q29 (z : Int32) (h0 : Heap) (n0 : Nat) (v : Option Value) (h : Heap) (L : List Loc) : Prop := v = some (.int z) ∧ Fr n0 L ∧ h = h0

theorem rm29 (l : Launch) (Z : State) (a0 : Array Value) (hw : own_HW a0 Z) (ws : List Jvm.Cond) (i0 i1 i2 : Nat) (h0 : Heap) (n0 : Nat) (h0' : 0 < i0) (h1' : i0 + max i1 i2 ≤ 1000) :
  own_Met l own_M20 jdk_48_method_27_code 4 (some .int) ws own_R_1_0_0_14 Z #[(.int (Int32.ofNat i0)), (.int (Int32.ofNat i1)), (.int (Int32.ofNat i2))] h0 (Q29 (Int32.ofNat (i0 + max i1 i2)) h0 n0) := by
 refine own_enter #[.val (.int (Int32.ofNat i0)), .val (.int (Int32.ofNat i1)), .val (.int (Int32.ofNat i2)), .unset] (plainFor_of_name pn_jdk_internal_util_ArraysSupport) (fun m => ef_III_4 m (Int32.ofNat i0) (Int32.ofNat i1) (Int32.ofNat i2)) ?_
 intro p e s m below meth c s₁ hx hby hml hown hnm hZ hrt hlk X0 e0
 have w := @own_w _ _ hw
 have N0 := Fr.nil n0
 refine own_tp (.int (Int32.ofNat i0)) 1 (fun _ q => XS.iloadN X0.here hx rfl (hb hby dj48m27_0) rfl q) ?_
 refine own_tp (.int (Int32.ofNat i1)) 2 (fun _ q => XS.iloadN X0.here hx rfl (hb hby dj48m27_1) rfl q) ?_
 refine own_tp (.int (Int32.ofNat i2)) 3 (fun _ q => XS.iloadN X0.here hx rfl (hb hby dj48m27_2) rfl q) ?_
 obtain ⟨_, _, ⟨T51, L51, k51, n51⟩, -, X51, ⟨Lc51, hQ51, l51, y51, z51⟩, st51⟩ := Jvm.LawKit.callS X0 hx (y := own_M1) hown (mvT hZ (w 122 rfl)) (mvT hZ (w 123 rfl)) (mvT hZ (w 124 rfl)) (mvT hZ (w 125 rfl)) (by decide) (backOf (W := 1) (rm1 l Z a0 hw [] (Int32.ofNat i1) (Int32.ofNat i2) (Int32.ofNat (max i1 i2)) h0 n0 (own_maxz (by omega) (by omega))) hZ (w 125 rfl) (w 124 rfl) (by decide) (by decide)) (g := (mkF m 3 #[.val (.int (Int32.ofNat i0)), .val (.int (Int32.ofNat i1)), .val (.int (Int32.ofNat i2)), .unset] [(.int (Int32.ofNat i2)), (.int (Int32.ofNat i1)), (.int (Int32.ofNat i0))])) rfl (by rw [hml]; rfl) (argsL := [(.int (Int32.ofNat i1)), (.int (Int32.ofNat i2))]) (rest := [(.int (Int32.ofNat i0))]) (lenOf pd7 rfl) rfl (by show 2 * 0 + _ ≤ _; exact Nat.le_of_eq rfl) (hb hby dj48m27_3) (fun _ _ => ⟨rfl, e0, (by decide : 0 + 0 ≤ _), (by decide : 0 + 0 ≤ _)⟩)
 dsimp only [Pt.U, Pt.locs, Pt.cells, Pt.slots] at X51 l51 y51 z51 st51 hQ51
 subst l51 y51 z51
 obtain ⟨rfl, Nq51, eq51⟩ := hQ51
 have N51 := Fr.app N0 Nq51
 refine own_t2 (.int (Int32.ofNat (max i1 i2))) 6 st51 ?_
 refine own_t2 (.int ((Int32.ofNat i0) + (Int32.ofNat (max i1 i2)))) 7 (fun _ q => XS.iadd X51.here hx rfl (hb hby dj48m27_6) rfl q) ?_
 rw [← Int32.ofNat_add]
 refine own_ls #[.val (.int (Int32.ofNat i0)), .val (.int (Int32.ofNat i1)), .val (.int (Int32.ofNat i2)), .val (.int (Int32.ofNat (i0 + max i1 i2)))] 8 (fun _ q => XS.istoreN X51.here hx rfl (hb hby dj48m27_7) rfl (l' := #[.val (.int (Int32.ofNat i0)), .val (.int (Int32.ofNat i1)), .val (.int (Int32.ofNat i2)), .val (.int (Int32.ofNat (i0 + max i1 i2)))]) rfl q) ?_
 refine own_tp (.int (0 : Int32)) 9 (fun _ q => XS.iconst X51.here hx rfl (hb hby dj48m27_8) q) ?_
 refine own_tp (.int (Int32.ofNat (i0 + max i1 i2))) 10 (fun _ q => XS.iloadN X51.here hx rfl (hb hby dj48m27_9) rfl q) ?_
 refine own_d2 13 (fun _ q => XS.icmpNo X51.here hx rfl (hb hby dj48m27_10) rfl (tlt (own_posN (by omega) (by omega))).2.1 q) ?_
 refine own_tp (.int (Int32.ofNat (i0 + max i1 i2))) 14 (fun _ q => XS.iloadN X51.here hx rfl (hb hby dj48m27_13) rfl q) ?_
 refine own_tp (.int (2147483639 : Int32)) 16 (fun _ q => X51.ldcInt hx hown (mvT hZ (w 126 rfl)) (g := (mkF m 14 #[.val (.int (Int32.ofNat i0)), .val (.int (Int32.ofNat i1)), .val (.int (Int32.ofNat i2)), .val (.int (Int32.ofNat (i0 + max i1 i2)))] [(.int (Int32.ofNat (i0 + max i1 i2)))])) rfl (hb hby dj48m27_14) _ q) ?_
 refine own_d2 19 (fun _ q => XS.icmpNo X51.here hx rfl (hb hby dj48m27_16) rfl (flt (own_nbig (by omega))).2.2.1 q) ?_
 refine own_tp (.int (Int32.ofNat (i0 + max i1 i2))) 20 (fun _ q => XS.iloadN X51.here hx rfl (hb hby dj48m27_19) rfl q) ?_
 exact own_retI X51 hx hrt (hb hby dj48m27_20) hlk (by decide) (by decide) eq51 (⟨rfl, N51, rfl⟩)

def Q30 (z : Int32) (h0 : Heap) (n0 : Nat) (v : Option Value) (h : Heap) (L : List Loc) : Prop := v = some (.int z) ∧ Fr n0 L ∧ h = h0

theorem rm30 (l : Launch) (Z : State) (a0 : Array Value) (hw : own_HW a0 Z) (ws : List Jvm.Cond) (sb vb : Addr) (kv : ClassId) (ts : List Int32) (cap k n C : Nat) (h0 : Heap) (n0 : Nat) (Z0 : n0 ≤ h0.size) (gs : n0 ≤ sb) (gv : n0 ≤ vb) (hsv : sb ≠ vb) (hcap : cap ≤ 150) (hkc : k ≤ cap) (hg : cap < k + n) (hcp : 0 < cap) (hC : (cap + max (k + n - cap) (cap + 2)) = C) (hC2 : C ≤ 150) (B0 : own_B Z h0 sb vb kv (0 : Int32) (Int32.ofNat k) (Int32.ofNat cap) (own_A cap (own_fL (ts.take k)))) (G1 : Int32) (US : own_US Z G1) (O0 : Old Z n0 h0) :
  own_Met l own_M21 jdk_68_method_10_code 6 (some .int) ws own_R_2_0_0_29 Z #[(.ref sb), (.int (Int32.ofNat (k + n)))] h0 (Q30 (Int32.ofNat C) h0 n0) := by
 refine own_enter #[.val (.ref sb), .val (.int (Int32.ofNat (k + n))), .unset, .unset, .unset, .unset] (plainFor_of_name pn_java_lang_AbstractStringBuilder) (fun m => ef_RI_6 m sb (Int32.ofNat (k + n))) ?_
 intro p e s m below meth c s₁ hx hby hml hown hnm hZ hrt hlk X0 e0
 have w := @own_w _ _ hw
 have N0 := Fr.nil n0
 refine own_tp (.ref sb) 1 (fun _ q => XS.aloadN X0.here hx rfl (hb hby dj68m10_0) rfl rfl q) ?_
 obtain ⟨T51, X51, e51, st51⟩ := getF X0 hx hZ hown (host := "") (Or.inl (w 90 rfl)) Via.refl e0 B0.2.1 (g := (mkF m 1 #[.val (.ref sb), .val (.int (Int32.ofNat (k + n))), .unset, .unset, .unset, .unset] [(.ref sb)])) rfl rfl (hb hby dj68m10_1)
 refine own_t1 (.ref vb) 4 st51 ?_
 obtain ⟨cl52, Ar52, -, Sz52, Nn52, -, -⟩ := (id B0.2.2.2.2.2)
 refine own_t1 (.int (Int32.ofNat cap)) 5 (fun t q => X51.arraylength hx (by rw [e51]; exact Ar52.1) (State.isArrayOf_alike hZ.alike Ar52.2.1) (g := (mkF m 4 #[.val (.ref sb), .val (.int (Int32.ofNat (k + n))), .unset, .unset, .unset, .unset] [(.ref vb)])) rfl rfl (hb hby dj68m10_4) _ (by rw [len_of Sz52 Nn52]; exact q)) ?_
 refine own_ls #[.val (.ref sb), .val (.int (Int32.ofNat (k + n))), .val (.int (Int32.ofNat cap)), .unset, .unset, .unset] 6 (fun _ q => XS.istoreN X51.here hx rfl (hb hby dj68m10_5) rfl (l' := #[.val (.ref sb), .val (.int (Int32.ofNat (k + n))), .val (.int (Int32.ofNat cap)), .unset, .unset, .unset]) rfl q) ?_
 refine own_tp (.int (Int32.ofNat (k + n))) 7 (fun _ q => XS.iloadN X51.here hx rfl (hb hby dj68m10_6) rfl q) ?_
 refine own_tp (.ref sb) 8 (fun _ q => XS.aloadN X51.here hx rfl (hb hby dj68m10_7) rfl rfl q) ?_
 obtain ⟨T53, X53, e53, st53⟩ := getF X51 hx hZ hown (host := "") (Or.inl (w 92 rfl)) Via.refl e51 B0.2.2.1 (g := (mkF m 8 #[.val (.ref sb), .val (.int (Int32.ofNat (k + n))), .val (.int (Int32.ofNat cap)), .unset, .unset, .unset] [(.ref sb), (.int (Int32.ofNat (k + n)))])) rfl rfl (hb hby dj68m10_8)
 refine own_t1 (.int (0 : Int32)) 11 st53 ?_
 refine own_t2 (.int ((Int32.ofNat (k + n)) <<< ((0 : Int32) &&& 31))) 12 (fun _ q => XS.ishl X53.here hx rfl (hb hby dj68m10_11) rfl q) ?_
 rw [own_shl0]
 refine own_ls #[.val (.ref sb), .val (.int (Int32.ofNat (k + n))), .val (.int (Int32.ofNat cap)), .val (.int (Int32.ofNat (k + n))), .unset, .unset] 13 (fun _ q => XS.istoreN X53.here hx rfl (hb hby dj68m10_12) rfl (l' := #[.val (.ref sb), .val (.int (Int32.ofNat (k + n))), .val (.int (Int32.ofNat cap)), .val (.int (Int32.ofNat (k + n))), .unset, .unset]) rfl q) ?_
 refine own_tp (.int (Int32.ofNat (k + n))) 14 (fun _ q => XS.iloadN X53.here hx rfl (hb hby dj68m10_13) rfl q) ?_
 refine own_tp (.int (Int32.ofNat cap)) 15 (fun _ q => XS.iloadN X53.here hx rfl (hb hby dj68m10_14) rfl q) ?_
 refine own_t2 (.int ((Int32.ofNat (k + n)) - (Int32.ofNat cap))) 16 (fun _ q => XS.isub X53.here hx rfl (hb hby dj68m10_15) rfl q) ?_
 rw [own_subN (by omega) (by omega)]
 refine own_ls #[.val (.ref sb), .val (.int (Int32.ofNat (k + n))), .val (.int (Int32.ofNat cap)), .val (.int (Int32.ofNat (k + n))), .val (.int (Int32.ofNat (k + n - cap))), .unset] 18 (fun _ q => XS.istore X53.here hx rfl (hb hby dj68m10_16) rfl (l' := #[.val (.ref sb), .val (.int (Int32.ofNat (k + n))), .val (.int (Int32.ofNat cap)), .val (.int (Int32.ofNat (k + n))), .val (.int (Int32.ofNat (k + n - cap))), .unset]) rfl q) ?_
 refine own_tp (.int (Int32.ofNat cap)) 19 (fun _ q => XS.iloadN X53.here hx rfl (hb hby dj68m10_18) rfl q) ?_
 refine own_tp (.int (Int32.ofNat (k + n - cap))) 21 (fun _ q => XS.iload X53.here hx rfl (hb hby dj68m10_19) rfl q) ?_
 refine own_tp (.int (Int32.ofNat cap)) 22 (fun _ q => XS.iloadN X53.here hx rfl (hb hby dj68m10_21) rfl q) ?_
 refine own_tp (.int (2 : Int32)) 23 (fun _ q => XS.iconst X53.here hx rfl (hb hby dj68m10_22) q) ?_
 refine own_tp (.ref sb) 24 (fun _ q => XS.aloadN X53.here hx rfl (hb hby dj68m10_23) rfl rfl q) ?_
 obtain ⟨T54, X54, e54, st54⟩ := getF X53 hx hZ hown (host := "") (Or.inl (w 92 rfl)) Via.refl e53 B0.2.2.1 (g := (mkF m 24 #[.val (.ref sb), .val (.int (Int32.ofNat (k + n))), .val (.int (Int32.ofNat cap)), .val (.int (Int32.ofNat (k + n))), .val (.int (Int32.ofNat (k + n - cap))), .unset] [(.ref sb), (.int (2 : Int32)), (.int (Int32.ofNat cap)), (.int (Int32.ofNat (k + n - cap))), (.int (Int32.ofNat cap))])) rfl rfl (hb hby dj68m10_24)
 refine own_t1 (.int (0 : Int32)) 27 st54 ?_
 refine own_d1 28 (fun _ q => XS.ishl X54.here hx rfl (hb hby dj68m10_27) rfl q) ?_
 refine own_t2 (.int ((Int32.ofNat cap) + (2 : Int32))) 29 (fun _ q => XS.iadd X54.here hx rfl (hb hby dj68m10_28) rfl q) ?_
 rw [own_add2]
 obtain ⟨_, _, ⟨T55, L55, k55, n55⟩, -, X55, ⟨Lc55, hQ55, l55, y55, z55⟩, st55⟩ := Jvm.LawKit.callS X54 hx (y := own_M20) hown (mvT hZ (w 118 rfl)) (mvT hZ (w 119 rfl)) (mvT hZ (w 120 rfl)) (mvT hZ (w 121 rfl)) (by decide) (backOf (W := 0) (rm29 l Z a0 hw [] cap (k + n - cap) (cap + 2) h0 n0 (by omega) (by omega)) hZ (w 121 rfl) (w 120 rfl) (by decide) (by decide)) (g := (mkF m 29 #[.val (.ref sb), .val (.int (Int32.ofNat (k + n))), .val (.int (Int32.ofNat cap)), .val (.int (Int32.ofNat (k + n))), .val (.int (Int32.ofNat (k + n - cap))), .unset] [(.int (Int32.ofNat (cap + 2))), (.int (Int32.ofNat (k + n - cap))), (.int (Int32.ofNat cap))])) rfl (by rw [hml]; rfl) (argsL := [(.int (Int32.ofNat cap)), (.int (Int32.ofNat (k + n - cap))), (.int (Int32.ofNat (cap + 2)))]) (rest := []) (lenOf pd13 rfl) rfl (by show 2 * 0 + _ ≤ _; exact Nat.le_of_eq rfl) (hb hby dj68m10_29) (fun _ _ => ⟨rfl, e54, (by decide : 0 + 0 ≤ _), (by decide : 0 + 0 ≤ _)⟩)
 dsimp only [Pt.U, Pt.locs, Pt.cells, Pt.slots] at X55 l55 y55 z55 st55 hQ55
 subst l55 y55 z55
 obtain ⟨rfl, Nq55, eq55⟩ := hQ55
 have N55 := Fr.app N0 Nq55
 refine own_cs [(.int (Int32.ofNat (cap + max (k + n - cap) (cap + 2))))] 32 st55 ?_
 rw [hC]
 refine own_ls #[.val (.ref sb), .val (.int (Int32.ofNat (k + n))), .val (.int (Int32.ofNat cap)), .val (.int (Int32.ofNat (k + n))), .val (.int (Int32.ofNat (k + n - cap))), .val (.int (Int32.ofNat C))] 34 (fun _ q => XS.istore X55.here hx rfl (hb hby dj68m10_32) rfl (l' := #[.val (.ref sb), .val (.int (Int32.ofNat (k + n))), .val (.int (Int32.ofNat cap)), .val (.int (Int32.ofNat (k + n))), .val (.int (Int32.ofNat (k + n - cap))), .val (.int (Int32.ofNat C))]) rfl q) ?_
 refine own_tp (.int (Int32.ofNat C)) 36 (fun _ q => XS.iload X55.here hx rfl (hb hby dj68m10_34) rfl q) ?_
 refine own_tp (.int (2147483647 : Int32)) 38 (fun _ q => X55.ldcInt hx hown (mvT hZ (w 127 rfl)) (g := (mkF m 36 #[.val (.ref sb), .val (.int (Int32.ofNat (k + n))), .val (.int (Int32.ofNat cap)), .val (.int (Int32.ofNat (k + n))), .val (.int (Int32.ofNat (k + n - cap))), .val (.int (Int32.ofNat C))] [(.int (Int32.ofNat C))])) rfl (hb hby dj68m10_36) _ q) ?_
 refine own_d2 51 (fun _ q => XS.icmpYes X55.here hx rfl (pc0 := 38) (pc' := 51) rfl (hb hby dj68m10_38) rfl (feq (own_nmax (by omega))).2 (by decide) (by decide) q) ?_
 refine own_tp (.int (Int32.ofNat C)) 53 (fun _ q => XS.iload X55.here hx rfl (hb hby dj68m10_51) rfl q) ?_
 refine own_tp (.ref sb) 54 (fun _ q => XS.aloadN X55.here hx rfl (hb hby dj68m10_53) rfl rfl q) ?_
 obtain ⟨T56, X56, e56, st56⟩ := getF X55 hx hZ hown (host := "") (Or.inl (w 92 rfl)) Via.refl eq55 B0.2.2.1 (g := (mkF m 54 #[.val (.ref sb), .val (.int (Int32.ofNat (k + n))), .val (.int (Int32.ofNat cap)), .val (.int (Int32.ofNat (k + n))), .val (.int (Int32.ofNat (k + n - cap))), .val (.int (Int32.ofNat C))] [(.ref sb), (.int (Int32.ofNat C))])) rfl rfl (hb hby dj68m10_54)
 refine own_t1 (.int (0 : Int32)) 57 st56 ?_
 refine own_t2 (.int ((Int32.ofNat C) >>> ((0 : Int32) &&& 31))) 58 (fun _ q => XS.ishr X56.here hx rfl (hb hby dj68m10_57) rfl q) ?_
 exact own_retI X56 hx hrt (hb hby dj68m10_58) hlk (by decide) (by decide) e56 (⟨by rw [own_shr0], N55, rfl⟩)

def Q31 (Z : State) (ts : List Int32) (k C : Nat) (h0 : Heap) (n0 : Nat) (v : Option Value) (h : Heap) (L : List Loc) : Prop := ∃ (b : Addr) (kb : ClassId), v = some (.ref b) ∧ Fr n0 L ∧ Keep h0 h [] ∧ n0 ≤ b ∧ h0.size ≤ b ∧ Arv Z h b kb .byte (Int32.ofNat C) (own_A C (own_fL (ts.take k))) (.int (0 : Int32))

theorem rm31 (l : Launch) (Z : State) (a0 : Array Value) (hw : own_HW a0 Z) (ws : List Jvm.Cond) (b1 : Addr) (k1 : ClassId) (ts : List Int32) (cap k C : Nat) (h0 : Heap) (n0 : Nat) (Z0 : n0 ≤ h0.size) (O0 : Old Z n0 h0) (hkc : k ≤ cap) (hcC : cap < C) (hC2 : C ≤ 150) (V1 : Arv Z h0 b1 k1 .byte (Int32.ofNat cap) (own_A cap (own_fL (ts.take k))) (.int (0 : Int32))) :
  own_Met l own_M22 jdk_65_method_121_code 3 (some (.array .byte)) ws own_R_1_1_150_44 Z #[(.ref b1), (.int (Int32.ofNat C))] h0 (Q31 Z ts k C h0 n0) := by
 refine own_enter #[.val (.ref b1), .val (.int (Int32.ofNat C)), .unset] (plainFor_of_name pn_java_util_Arrays) (fun m => ef_RI_3 m b1 (Int32.ofNat C)) ?_
 intro p e s m below meth c s₁ hx hby hml hown hnm hZ hrt hlk X0 e0
 have w := @own_w _ _ hw
 have N0 := Fr.nil n0
 refine own_tp (.int (Int32.ofNat C)) 1 (fun _ q => XS.iloadN X0.here hx rfl (hb hby dj65m121_0) rfl q) ?_
 refine own_tp (.ref b1) 2 (fun _ q => XS.aloadN X0.here hx rfl (hb hby dj65m121_1) rfl rfl q) ?_
 obtain ⟨cl51, Ar51, -, Sz51, Nn51, -, -⟩ := (id V1)
 refine own_t1 (.int (Int32.ofNat cap)) 3 (fun t q => X0.arraylength hx (by rw [e0]; exact Ar51.1) (State.isArrayOf_alike hZ.alike Ar51.2.1) (g := (mkF m 2 #[.val (.ref b1), .val (.int (Int32.ofNat C)), .unset] [(.ref b1), (.int (Int32.ofNat C))])) rfl rfl (hb hby dj65m121_2) _ (by rw [len_of Sz51 Nn51]; exact q)) ?_
 refine own_d2 14 (fun _ q => XS.icmpYes X0.here hx rfl (pc0 := 3) (pc' := 14) rfl (hb hby dj65m121_3) rfl (feq (own_neM (by omega) (by omega) (by omega))).2 (by decide) (by decide) q) ?_
 refine own_tp (.int (Int32.ofNat C)) 15 (fun _ q => XS.iloadN X0.here hx rfl (hb hby dj65m121_14) rfl q) ?_
 obtain ⟨T52, h52, k52, X52, e52, E52, A52, st52⟩ := newP X0 hx hZ (w 17 rfl) e0 (g := (mkF m 15 #[.val (.ref b1), .val (.int (Int32.ofNat C)), .unset] [(.int (Int32.ofNat C))])) rfl (hb hby dj65m121_15) rfl (own_ofn (by omega)).1 (cap := 150) (by rw [(own_ofn (by omega)).2]; omega) (by decide) (by decide) (by decide)
 obtain ⟨b52, g52⟩ : ∃ z, z = h0.size := ⟨_, rfl⟩
 rw [← g52] at A52 st52
 have V52 : Arv Z h52 b52 k52 .byte (Int32.ofNat C) (List.replicate C (.int (0 : Int32))) (.int (0 : Int32)) := (Arv.new A52 (own_ofn (by omega)).1).pad (pad_rep [] (.int (0 : Int32)) C)
 have ge52 : n0 ≤ b52 := Nat.le_trans Z0 (Nat.le_of_eq g52.symm)
 have sz52 : h0.size ≤ b52 := Nat.le_trans (Keep.refl h0 []).1 (Nat.le_of_eq g52.symm)
 have ne53 : b1 ≠ b52 := Nat.ne_of_lt (Nat.lt_of_lt_of_le V1.lt (Nat.le_of_eq g52.symm))
 have O52 := Old.ext O0 E52
 have K52 : Keep h0 h52 [] := (Keep.refl h0 []).ext E52
 have Z52 : n0 ≤ h52.size := Nat.le_trans Z0 E52.1
 refine own_t1 (.ref b52) 17 st52 ?_
 refine own_ls #[.val (.ref b1), .val (.int (Int32.ofNat C)), .val (.ref b52)] 18 (fun _ q => XS.astoreN X52.here hx rfl (hb hby dj65m121_17) rfl rfl (l' := #[.val (.ref b1), .val (.int (Int32.ofNat C)), .val (.ref b52)]) rfl q) ?_
 refine own_tp (.ref b1) 19 (fun _ q => XS.aloadN X52.here hx rfl (hb hby dj65m121_18) rfl rfl q) ?_
 refine own_tp (.int (0 : Int32)) 20 (fun _ q => XS.iconst X52.here hx rfl (hb hby dj65m121_19) q) ?_
 refine own_tp (.ref b52) 21 (fun _ q => XS.aloadN X52.here hx rfl (hb hby dj65m121_20) rfl rfl q) ?_
 refine own_tp (.int (0 : Int32)) 22 (fun _ q => XS.iconst X52.here hx rfl (hb hby dj65m121_21) q) ?_
 refine own_tp (.ref b1) 23 (fun _ q => XS.aloadN X52.here hx rfl (hb hby dj65m121_22) rfl rfl q) ?_
 have f54 := (V1.ext E52)
 obtain ⟨cl55, Ar55, -, Sz55, Nn55, -, -⟩ := (id f54)
 refine own_t1 (.int (Int32.ofNat cap)) 24 (fun t q => X52.arraylength hx (by rw [e52]; exact Ar55.1) (State.isArrayOf_alike hZ.alike Ar55.2.1) (g := (mkF m 23 #[.val (.ref b1), .val (.int (Int32.ofNat C)), .val (.ref b52)] [(.ref b1), (.int (0 : Int32)), (.ref b52), (.int (0 : Int32)), (.ref b1)])) rfl rfl (hb hby dj65m121_23) _ (by rw [len_of Sz55 Nn55]; exact q)) ?_
 refine own_tp (.int (Int32.ofNat C)) 25 (fun _ q => XS.iloadN X52.here hx rfl (hb hby dj65m121_24) rfl q) ?_
 obtain ⟨_, _, ⟨T56, L56, k56, n56⟩, -, X56, ⟨Lc56, hQ56, l56, y56, z56⟩, st56⟩ := Jvm.LawKit.callS X52 hx (y := own_M2) hown (mvT hZ (w 132 rfl)) (mvT hZ (w 133 rfl)) (mvT hZ (w 124 rfl)) (mvT hZ (w 134 rfl)) (by decide) (backOf (W := 4) (rm2 l Z a0 hw [] (Int32.ofNat cap) (Int32.ofNat C) (Int32.ofNat cap) h52 n0 (own_minL (by omega) (by omega) (by omega))) hZ (w 134 rfl) (w 124 rfl) (by decide) (by decide)) (g := (mkF m 25 #[.val (.ref b1), .val (.int (Int32.ofNat C)), .val (.ref b52)] [(.int (Int32.ofNat C)), (.int (Int32.ofNat cap)), (.int (0 : Int32)), (.ref b52), (.int (0 : Int32)), (.ref b1)])) rfl (by rw [hml]; rfl) (argsL := [(.int (Int32.ofNat cap)), (.int (Int32.ofNat C))]) (rest := [(.int (0 : Int32)), (.ref b52), (.int (0 : Int32)), (.ref b1)]) (lenOf pd7 rfl) rfl (by show 2 * 0 + _ ≤ _; exact Nat.le_of_eq rfl) (hb hby dj65m121_25) (fun _ _ => ⟨rfl, e52, (by decide : 1 + 0 ≤ _), (by decide : 150 + 0 ≤ _)⟩)
 dsimp only [Pt.U, Pt.locs, Pt.cells, Pt.slots] at X56 l56 y56 z56 st56 hQ56
 subst l56 y56 z56
 obtain ⟨rfl, Nq56, eq56⟩ := hQ56
 have N56 := Fr.app N0 Nq56
 refine own_d1 28 st56 ?_
 obtain ⟨T57, h57, L57, X57, e57, Kp57, B57, V57, st57⟩ := own_acopy X56 hx hZ hown (w 135 rfl) (w 138 rfl) (w 136 rfl) (w 137 rfl) eq56 f54 V52 0 cap (by omega) (by rw [(own_ofn (by omega)).2]; omega) (by rw [(own_ofn (by omega)).2]; omega) (by first | (rw [own_A_len, (own_ofn (by omega)).2]; done) | (rw [List.length_replicate, (own_ofn (by omega)).2]; done)) (g := (mkF m 28 #[.val (.ref b1), .val (.int (Int32.ofNat C)), .val (.ref b52)] [(.int (Int32.ofNat cap)), (.int (0 : Int32)), (.ref b52), (.int (0 : Int32)), (.ref b1)])) rfl (by rw [hml]; rfl) (rest := []) rfl (hb hby dj65m121_28) (by decide) (W := 0) (by show 2 * 0 + _ ≤ _; exact Nat.le_of_eq rfl) (by decide)
 have Nq57 : Fr n0 L57 := fun y hy => by rw [B57 y hy]; exact ge52
 have N57 := Fr.app N56 Nq57
 have O57 := Old.keep O52 Kp57 (allS ge52 all0)
 have Z57 : n0 ≤ h57.size := Nat.le_trans Z52 Kp57.1
 have K57 : Keep h0 h57 [] := Keep.trans K52 Kp57 (allS (Or.inr sz52) all0)
 have V57' : Arv Z h57 b52 k52 .byte (Int32.ofNat C) (own_A C (own_fL (ts.take k))) (.int (0 : Int32)) := by have q := V57; rw [own_repL, own_growL (by omega) (by omega)] at q; exact q
 refine own_cs [] 31 st57 ?_
 refine own_tp (.ref b52) 32 (fun _ q => XS.aloadN X57.here hx rfl (hb hby dj65m121_31) rfl rfl q) ?_
 exact own_retR X57 hx hrt (hb hby dj65m121_32) rfl rfl hlk (by decide) (by decide) e57 (⟨b52, _, rfl, N57, K57, ge52, sz52, V57'⟩)

def Q32 (Z : State) (sb : Addr) (ts : List Int32) (k C : Nat) (h0 : Heap) (n0 : Nat) (v : Option Value) (h : Heap) (L : List Loc) : Prop := v = none ∧ Fr n0 L ∧ Keep h0 h [sb] ∧ ∃ (nv : Addr) (kn : ClassId), n0 ≤ nv ∧ h0.size ≤ nv ∧ own_B Z h sb nv kn (0 : Int32) (Int32.ofNat k) (Int32.ofNat C) (own_A C (own_fL (ts.take k)))

theorem rm32 (l : Launch) (Z : State) (a0 : Array Value) (hw : own_HW a0 Z) (ws : List Jvm.Cond) (sb vb : Addr) (kv : ClassId) (ts : List Int32) (cap k n C : Nat) (h0 : Heap) (n0 : Nat) (Z0 : n0 ≤ h0.size) (gs : n0 ≤ sb) (gv : n0 ≤ vb) (hsv : sb ≠ vb) (hcap : cap ≤ 150) (hkc : k ≤ cap) (hg : cap < k + n) (hcp : 0 < cap) (hC : (cap + max (k + n - cap) (cap + 2)) = C) (hC2 : C ≤ 150) (B0 : own_B Z h0 sb vb kv (0 : Int32) (Int32.ofNat k) (Int32.ofNat cap) (own_A cap (own_fL (ts.take k)))) (G1 : Int32) (US : own_US Z G1) (O0 : Old Z n0 h0) :
  own_Met l own_M23 jdk_68_method_9_code 3 none ws own_R_3_1_150_60 Z #[(.ref sb), (.int (Int32.ofNat (k + n)))] h0 (Q32 Z sb ts k C h0 n0) := by
 refine own_enter #[.val (.ref sb), .val (.int (Int32.ofNat (k + n))), .unset] (plainFor_of_name pn_java_lang_AbstractStringBuilder) (fun m => ef_RI_3 m sb (Int32.ofNat (k + n))) ?_
 intro p e s m below meth c s₁ hx hby hml hown hnm hZ hrt hlk X0 e0
 have w := @own_w _ _ hw
 have N0 := Fr.nil n0
 refine own_tp (.ref sb) 1 (fun _ q => XS.aloadN X0.here hx rfl (hb hby dj68m9_0) rfl rfl q) ?_
 obtain ⟨T51, X51, e51, st51⟩ := getF X0 hx hZ hown (host := "") (Or.inl (w 90 rfl)) Via.refl e0 B0.2.1 (g := (mkF m 1 #[.val (.ref sb), .val (.int (Int32.ofNat (k + n))), .unset] [(.ref sb)])) rfl rfl (hb hby dj68m9_1)
 refine own_t1 (.ref vb) 4 st51 ?_
 obtain ⟨cl52, Ar52, -, Sz52, Nn52, -, -⟩ := (id B0.2.2.2.2.2)
 refine own_t1 (.int (Int32.ofNat cap)) 5 (fun t q => X51.arraylength hx (by rw [e51]; exact Ar52.1) (State.isArrayOf_alike hZ.alike Ar52.2.1) (g := (mkF m 4 #[.val (.ref sb), .val (.int (Int32.ofNat (k + n))), .unset] [(.ref vb)])) rfl rfl (hb hby dj68m9_4) _ (by rw [len_of Sz52 Nn52]; exact q)) ?_
 refine own_tp (.ref sb) 6 (fun _ q => XS.aloadN X51.here hx rfl (hb hby dj68m9_5) rfl rfl q) ?_
 obtain ⟨T53, X53, e53, st53⟩ := getF X51 hx hZ hown (host := "") (Or.inl (w 92 rfl)) Via.refl e51 B0.2.2.1 (g := (mkF m 6 #[.val (.ref sb), .val (.int (Int32.ofNat (k + n))), .unset] [(.ref sb), (.int (Int32.ofNat cap))])) rfl rfl (hb hby dj68m9_6)
 refine own_t1 (.int (0 : Int32)) 9 st53 ?_
 refine own_t2 (.int ((Int32.ofNat cap) >>> ((0 : Int32) &&& 31))) 10 (fun _ q => XS.ishr X53.here hx rfl (hb hby dj68m9_9) rfl q) ?_
 rw [own_shr0]
 refine own_ls #[.val (.ref sb), .val (.int (Int32.ofNat (k + n))), .val (.int (Int32.ofNat cap))] 11 (fun _ q => XS.istoreN X53.here hx rfl (hb hby dj68m9_10) rfl (l' := #[.val (.ref sb), .val (.int (Int32.ofNat (k + n))), .val (.int (Int32.ofNat cap))]) rfl q) ?_
 refine own_tp (.int (Int32.ofNat (k + n))) 12 (fun _ q => XS.iloadN X53.here hx rfl (hb hby dj68m9_11) rfl q) ?_
 refine own_tp (.int (Int32.ofNat cap)) 13 (fun _ q => XS.iloadN X53.here hx rfl (hb hby dj68m9_12) rfl q) ?_
 refine own_t2 (.int ((Int32.ofNat (k + n)) - (Int32.ofNat cap))) 14 (fun _ q => XS.isub X53.here hx rfl (hb hby dj68m9_13) rfl q) ?_
 refine own_d1 17 (fun _ q => XS.ifNo X53.here hx rfl (hb hby dj68m9_14) rfl ((if0 _ _).trans (tlt ((own_gt0 (by omega) (by omega)).mpr hg)).2.2.2) q) ?_
 refine own_tp (.ref sb) 18 (fun _ q => XS.aloadN X53.here hx rfl (hb hby dj68m9_17) rfl rfl q) ?_
 refine own_tp (.ref sb) 19 (fun _ q => XS.aloadN X53.here hx rfl (hb hby dj68m9_18) rfl rfl q) ?_
 obtain ⟨T54, X54, e54, st54⟩ := getF X53 hx hZ hown (host := "") (Or.inl (w 90 rfl)) Via.refl e53 B0.2.1 (g := (mkF m 19 #[.val (.ref sb), .val (.int (Int32.ofNat (k + n))), .val (.int (Int32.ofNat cap))] [(.ref sb), (.ref sb)])) rfl rfl (hb hby dj68m9_19)
 refine own_t1 (.ref vb) 22 st54 ?_
 refine own_tp (.ref sb) 23 (fun _ q => XS.aloadN X54.here hx rfl (hb hby dj68m9_22) rfl rfl q) ?_
 refine own_tp (.int (Int32.ofNat (k + n))) 24 (fun _ q => XS.iloadN X54.here hx rfl (hb hby dj68m9_23) rfl q) ?_
 obtain ⟨cq55, kq55, q55a, q55b, q55c⟩ := isOf hZ e54 B0.1
 obtain ⟨_, _, ⟨T55, L55, k55, n55⟩, -, X55, ⟨Lc55, hQ55, l55, y55, z55⟩, st55⟩ := X54.virtualBack hx (y := own_M21) (z := own_M21) hown (mvT hZ (w 113 rfl)) (mvT hZ (own_decl (w 114 rfl) (w 117 rfl))) (notFace_of_selects (args := #[]) (mvT hZ (w 116 rfl))) (mvT hZ (w 116 rfl)) (mvT hZ (w 114 rfl)) (by decide) (backOf (W := 2) (rm30 l Z a0 hw [] sb vb kv ts cap k n C h0 n0 Z0 gs gv hsv (by omega) (by omega) hg hcp hC hC2 B0 G1 US O0) hZ (w 117 rfl) (w 86 rfl) (by decide) (by decide)) q55a q55c (g := (mkF m 24 #[.val (.ref sb), .val (.int (Int32.ofNat (k + n))), .val (.int (Int32.ofNat cap))] [(.int (Int32.ofNat (k + n))), (.ref sb), (.ref vb), (.ref sb)])) rfl (by rw [hml]; rfl) (Steps.refl _) (argsL := [(.int (Int32.ofNat (k + n)))]) (rest := [(.ref vb), (.ref sb)]) (lenOf pd11 rfl) rfl (by show 2 * 0 + _ ≤ _; exact Nat.le_of_eq rfl) (hb hby dj68m9_24) (fun _ _ => ⟨rfl, e54, (by decide : 0 + 0 ≤ _), (by decide : 0 + 0 ≤ _)⟩)
 dsimp only [Pt.U, Pt.locs, Pt.cells, Pt.slots] at X55 l55 y55 z55 st55 hQ55
 subst l55 y55 z55
 obtain ⟨rfl, Nq55, eq55⟩ := hQ55
 have N55 := Fr.app N0 Nq55
 refine own_csR [(.int (Int32.ofNat C)), (.ref vb), (.ref sb)] 27 st55 ?_
 refine own_tp (.ref sb) 28 (fun _ q => XS.aloadN X55.here hx rfl (hb hby dj68m9_27) rfl rfl q) ?_
 obtain ⟨T56, X56, e56, st56⟩ := getF X55 hx hZ hown (host := "") (Or.inl (w 92 rfl)) Via.refl eq55 B0.2.2.1 (g := (mkF m 28 #[.val (.ref sb), .val (.int (Int32.ofNat (k + n))), .val (.int (Int32.ofNat cap))] [(.ref sb), (.int (Int32.ofNat C)), (.ref vb), (.ref sb)])) rfl rfl (hb hby dj68m9_28)
 refine own_t1 (.int (0 : Int32)) 31 st56 ?_
 refine own_t2 (.int ((Int32.ofNat C) <<< ((0 : Int32) &&& 31))) 32 (fun _ q => XS.ishl X56.here hx rfl (hb hby dj68m9_31) rfl q) ?_
 rw [own_shl0]
 obtain ⟨_, _, ⟨T57, L57, k57, n57⟩, -, X57, ⟨Lc57, hQ57, l57, y57, z57⟩, st57⟩ := Jvm.LawKit.callS X56 hx (y := own_M22) hown (mvT hZ (w 128 rfl)) (mvT hZ (w 129 rfl)) (mvT hZ (w 130 rfl)) (mvT hZ (w 131 rfl)) (by decide) (backOf (W := 1) (rm31 l Z a0 hw [] vb kv ts cap k C h0 n0 Z0 O0 hkc (by omega) hC2 B0.2.2.2.2.2) hZ (w 131 rfl) (w 130 rfl) (by decide) (by decide)) (g := (mkF m 32 #[.val (.ref sb), .val (.int (Int32.ofNat (k + n))), .val (.int (Int32.ofNat cap))] [(.int (Int32.ofNat C)), (.ref vb), (.ref sb)])) rfl (by rw [hml]; rfl) (argsL := [(.ref vb), (.int (Int32.ofNat C))]) (rest := [(.ref sb)]) (lenOf pd14 rfl) rfl (by show 2 * 0 + _ ≤ _; exact Nat.le_of_eq rfl) (hb hby dj68m9_32) (fun _ _ => ⟨rfl, e56, (by decide : 0 + 1 ≤ _), (by decide : 0 + 150 ≤ _)⟩)
 dsimp only [Pt.U, Pt.locs, Pt.cells, Pt.slots] at X57 l57 y57 z57 st57 hQ57
 subst l57 y57 z57
 obtain ⟨cb57, kc57, rfl, Nq57, Kp57, ge57, sz57, V57⟩ := hQ57
 have ne58 : sb ≠ cb57 := Nat.ne_of_lt (Nat.lt_of_lt_of_le B0.1.lt sz57)
 have ne59 : vb ≠ cb57 := Nat.ne_of_lt (Nat.lt_of_lt_of_le B0.2.2.2.2.2.lt sz57)
 have s0cb57 : h0.size ≤ cb57 := Nat.le_trans (Keep.refl h0 [sb]).1 sz57
 have N57 := Fr.app N55 Nq57
 have O57 := Old.keep O0 Kp57 all0
 have Z57 : n0 ≤ T57.heap.size := Nat.le_trans Z0 Kp57.1
 have K57 : Keep h0 T57.heap [sb] := Keep.trans (Keep.refl h0 [sb]) Kp57 all0
 refine own_t2 (.ref cb57) 35 st57 ?_
 have f60 := (B0.2.1.keep Kp57 nin0)
 have f61 := (B0.1.keep Kp57)
 obtain ⟨T62, h62, X62, e62, W62, st62⟩ := putF X57 hx hZ hown (host := "") (Or.inl (w 90 rfl)) Via.refl rfl f60 f61 (Or.inl (w 91 rfl)) (w 77 rfl) (ty := (.array .byte)) (by decide) rfl rfl (g := (mkF m 35 #[.val (.ref sb), .val (.int (Int32.ofNat (k + n))), .val (.int (Int32.ofNat cap))] [(.ref cb57), (.ref sb)])) rfl rfl (hb hby dj68m9_35)
 have Fw62 := f60.same W62
 have N62 := Fr.snoc X62 N57 gs
 have O62 := Old.wr O57 W62 gs
 have K62 : Keep h0 h62 [sb] := K57.wr W62 (Or.inl (List.mem_of_getElem? (i := 0) rfl))
 have Z62 : n0 ≤ h62.size := Nat.le_trans Z57 (Nat.le_of_eq W62.size.symm)
 refine own_d2 38 st62 ?_
 have f63 := (f61.wr W62)
 have f64 := ((B0.2.2.1.keep Kp57 nin0).other W62 (Or.inr (slot_ne (Or.inl (w 93 rfl)) (Or.inl (w 91 rfl)) (by decide) (t := .byte) (t' := (.array .byte)) (by decide) (by decide))))
 have f65 := ((B0.2.2.2.1.keep Kp57 nin0).other W62 (Or.inr (slot_ne (Or.inl (w 107 rfl)) (Or.inl (w 91 rfl)) (by decide) (t := .int) (t' := (.array .byte)) (by decide) (by decide))))
 have f66 := ((B0.2.2.2.2.1.keep Kp57 nin0).other W62 (Or.inr (slot_ne (Or.inl (w 272 rfl)) (Or.inl (w 91 rfl)) (by decide) (t := .boolean) (t' := (.array .byte)) (by decide) (by decide))))
 have f67 := (V57.other W62 (Ne.symm ne58))
 exact own_retV X62 hx hrt (hb hby dj68m9_38) hlk (by decide) (by decide) e62 (⟨rfl, N62, K62, cb57, _, ge57, s0cb57, ⟨f63, Fw62, f64, f65, f66, f67⟩⟩)

def Q33  (h0 : Heap) (n0 : Nat) (v : Option Value) (h : Heap) (L : List Loc) : Prop := v = some (.int (0 : Int32)) ∧ Fr n0 L ∧ h = h0

theorem rm33 (l : Launch) (Z : State) (a0 : Array Value) (hw : own_HW a0 Z) (ws : List Jvm.Cond) (st : Addr) (h0 : Heap) (n0 : Nat) (E1 : Exa Z h0 st "java/lang/String") (C1 : Fld Z h0 st "java/lang/String" "coder" "B" (.int (0 : Int32))) (G1 : Int32) (US : own_US Z G1) (O0 : Old Z n0 h0) :
  own_Met l own_M12 jdk_42_method_152_code 1 (some .byte) ws own_R_0_0_0_0 Z #[(.ref st)] h0 (Q33 h0 n0) := by
 refine own_enter #[.val (.ref st)] (plainFor_of_name pn_java_lang_String) (fun m => ef_R_1 m st) ?_
 intro p e s m below meth c s₁ hx hby hml hown hnm hZ hrt hlk X0 e0
 have w := @own_w _ _ hw
 have N0 := Fr.nil n0
 obtain ⟨T51, X51, e51, st51⟩ := getS2 X0 hx hZ hown (host := "") (Or.inl (w 25 rfl)) Via.refl e0 (US.2.1.ext O0.2) (g := (mkF m 0 #[.val (.ref st)] [])) rfl (hb hby dj42m152_0)
 refine own_tp (.int G1) 3 st51 ?_
 refine own_d1 6 (fun _ q => XS.ifNo X51.here hx rfl (hb hby dj42m152_3) rfl ((if0 _ _).trans (feq US.1).1) q) ?_
 refine own_tp (.ref st) 7 (fun _ q => XS.aloadN X51.here hx rfl (hb hby dj42m152_6) rfl rfl q) ?_
 obtain ⟨T52, X52, e52, st52⟩ := getF X51 hx hZ hown (host := "") (Or.inl (w 23 rfl)) Via.refl e51 C1 (g := (mkF m 7 #[.val (.ref st)] [(.ref st)])) rfl rfl (hb hby dj42m152_7)
 refine own_t1 (.int (0 : Int32)) 10 st52 ?_
 refine own_d0 14 (fun _ q => XS.goto X52.here hx rfl (pc0 := 10) (pc' := 14) rfl (hb hby dj42m152_10) (by decide) (by decide) q) ?_
 exact own_retN (t := .byte) X52 hx hrt (hb hby dj42m152_14) (by simp) hlk (by decide) (by decide) e52 (⟨rfl, N0, rfl⟩)

def Q34 (z : Int32) (h0 : Heap) (n0 : Nat) (v : Option Value) (h : Heap) (L : List Loc) : Prop := v = some (.int z) ∧ Fr n0 L ∧ h = h0

theorem rm34 (l : Launch) (Z : State) (a0 : Array Value) (hw : own_HW a0 Z) (ws : List Jvm.Cond) (st sv : Addr) (ks : ClassId) (ds : List Int32) (n : Nat) (h0 : Heap) (n0 : Nat) (hn : n ≤ 1000) (D0 : own_D Z h0 st sv ks (0 : Int32) (Int32.ofNat n) (own_lows ds)) (G1 : Int32) (US : own_US Z G1) (O0 : Old Z n0 h0) :
  own_Met l own_M14 jdk_42_method_54_code 1 (some .int) ws own_R_1_0_0_13 Z #[(.ref st)] h0 (Q34 (Int32.ofNat n) h0 n0) := by
 refine own_enter #[.val (.ref st)] (plainFor_of_name pn_java_lang_String) (fun m => ef_R_1 m st) ?_
 intro p e s m below meth c s₁ hx hby hml hown hnm hZ hrt hlk X0 e0
 have w := @own_w _ _ hw
 have N0 := Fr.nil n0
 refine own_tp (.ref st) 1 (fun _ q => XS.aloadN X0.here hx rfl (hb hby dj42m54_0) rfl rfl q) ?_
 obtain ⟨T51, X51, e51, st51⟩ := getF X0 hx hZ hown (host := "") (Or.inl (w 22 rfl)) Via.refl e0 D0.2.2.1 (g := (mkF m 1 #[.val (.ref st)] [(.ref st)])) rfl rfl (hb hby dj42m54_1)
 refine own_t1 (.ref sv) 4 st51 ?_
 obtain ⟨cl52, Ar52, -, Sz52, Nn52, -, -⟩ := (id D0.2.2.2)
 refine own_t1 (.int (Int32.ofNat n)) 5 (fun t q => X51.arraylength hx (by rw [e51]; exact Ar52.1) (State.isArrayOf_alike hZ.alike Ar52.2.1) (g := (mkF m 4 #[.val (.ref st)] [(.ref sv)])) rfl rfl (hb hby dj42m54_4) _ (by rw [len_of Sz52 Nn52]; exact q)) ?_
 refine own_tp (.ref st) 6 (fun _ q => XS.aloadN X51.here hx rfl (hb hby dj42m54_5) rfl rfl q) ?_
 obtain ⟨cq53, kq53, q53a, q53b, q53c⟩ := isOf hZ e51 D0.1
 obtain ⟨_, _, ⟨T53, L53, k53, n53⟩, -, X53, ⟨Lc53, hQ53, l53, y53, z53⟩, st53⟩ := X51.virtualBack hx (y := own_M12) (z := own_M12) hown (mvT hZ (w 64 rfl)) (mvT hZ (w 65 rfl)) (notFace_of_selects (args := #[]) (mvT hZ (w 67 rfl))) (mvT hZ (w 67 rfl)) (mvT hZ (w 66 rfl)) (by decide) (backOf (W := 1) (rm33 l Z a0 hw [] st h0 n0 D0.1 D0.2.1 G1 US O0) hZ (w 68 rfl) (w 5 rfl) (by decide) (by decide)) q53a q53c (g := (mkF m 6 #[.val (.ref st)] [(.ref st), (.int (Int32.ofNat n))])) rfl (by rw [hml]; rfl) (Steps.refl _) (argsL := []) (rest := [(.int (Int32.ofNat n))]) (lenOf pd8 rfl) rfl (by show 2 * 0 + _ ≤ _; exact Nat.le_of_eq rfl) (hb hby dj42m54_6) (fun _ _ => ⟨rfl, e51, (by decide : 0 + 0 ≤ _), (by decide : 0 + 0 ≤ _)⟩)
 dsimp only [Pt.U, Pt.locs, Pt.cells, Pt.slots] at X53 l53 y53 z53 st53 hQ53
 subst l53 y53 z53
 obtain ⟨rfl, Nq53, eq53⟩ := hQ53
 have N53 := Fr.app N0 Nq53
 refine own_csR [(.int (0 : Int32)), (.int (Int32.ofNat n))] 9 st53 ?_
 refine own_t2 (.int ((Int32.ofNat n) >>> ((0 : Int32) &&& 31))) 10 (fun _ q => XS.ishr X53.here hx rfl (hb hby dj42m54_9) rfl q) ?_
 exact own_retI X53 hx hrt (hb hby dj42m54_10) hlk (by decide) (by decide) eq53 (⟨by rw [own_shr0], N53, rfl⟩)

def Q35  (h0 : Heap) (n0 : Nat) (v : Option Value) (h : Heap) (L : List Loc) : Prop := v = none ∧ Fr n0 L ∧ h = h0

theorem rm35 (l : Launch) (Z : State) (a0 : Array Value) (hw : own_HW a0 Z) (ws : List Jvm.Cond) (sb vb : Addr) (kv : ClassId) (ts : List Int32) (cap k : Nat) (st sv : Addr) (ks : ClassId) (ds : List Int32) (n : Nat) (h0 : Heap) (n0 : Nat) (Z0 : n0 ≤ h0.size) (gs : n0 ≤ sb) (gv : n0 ≤ vb) (hsv : sb ≠ vb) (hcap : cap ≤ 150) (hkc : k ≤ cap) (n1 : st ≠ sb) (n2 : sv ≠ sb) (n3 : st ≠ vb) (n4 : sv ≠ vb) (B0 : own_B Z h0 sb vb kv (0 : Int32) (Int32.ofNat k) (Int32.ofNat cap) (own_A cap (own_fL (ts.take k)))) (D0 : own_D Z h0 st sv ks (0 : Int32) (Int32.ofNat n) (own_lows ds)) (hds : ds.length = n) (hd : ∀ j, j < n → ds.getD j 0 = ts.getD (k + j) 0) (hg : k + n ≤ cap) (G1 : Int32) (US : own_US Z G1) (O0 : Old Z n0 h0) (G3 : Value) (rG3 : G3.isRef = true) (Sf : own_SF Z G3) :
  own_Met l own_M24 jdk_68_method_71_code 2 none ws own_R_1_0_0_13 Z #[(.ref sb), (.ref st)] h0 (Q35 h0 n0) := by
 refine own_enter #[.val (.ref sb), .val (.ref st)] (plainFor_of_name pn_java_lang_AbstractStringBuilder) (fun m => ef_RR_2 m sb st) ?_
 intro p e s m below meth c s₁ hx hby hml hown hnm hZ hrt hlk X0 e0
 have w := @own_w _ _ hw
 have N0 := Fr.nil n0
 obtain ⟨T51, X51, e51, st51⟩ := getS2 X0 hx hZ hown (host := "") (Or.inl (w 89 rfl)) Via.refl e0 (US.2.1.ext O0.2) (g := (mkF m 0 #[.val (.ref sb), .val (.ref st)] [])) rfl (hb hby dj68m71_0)
 refine own_tp (.int G1) 3 st51 ?_
 refine own_d1 6 (fun _ q => XS.ifNo X51.here hx rfl (hb hby dj68m71_3) rfl ((if0 _ _).trans (feq US.1).1) q) ?_
 refine own_tp (.ref sb) 7 (fun _ q => XS.aloadN X51.here hx rfl (hb hby dj68m71_6) rfl rfl q) ?_
 obtain ⟨T52, X52, e52, st52⟩ := getF X51 hx hZ hown (host := "") (Or.inl (w 92 rfl)) Via.refl e51 B0.2.2.1 (g := (mkF m 7 #[.val (.ref sb), .val (.ref st)] [(.ref sb)])) rfl rfl (hb hby dj68m71_7)
 refine own_t1 (.int (0 : Int32)) 10 st52 ?_
 refine own_tp (.ref st) 11 (fun _ q => XS.aloadN X52.here hx rfl (hb hby dj68m71_10) rfl rfl q) ?_
 obtain ⟨cq53, kq53, q53a, q53b, q53c⟩ := isOf hZ e52 D0.1
 obtain ⟨_, _, ⟨T53, L53, k53, n53⟩, -, X53, ⟨Lc53, hQ53, l53, y53, z53⟩, st53⟩ := X52.virtualBack hx (y := own_M12) (z := own_M12) hown (mvT hZ (w 149 rfl)) (mvT hZ (w 65 rfl)) (notFace_of_selects (args := #[]) (mvT hZ (w 67 rfl))) (mvT hZ (w 67 rfl)) (mvT hZ (w 66 rfl)) (by decide) (backOf (W := 1) (rm33 l Z a0 hw [] st h0 n0 D0.1 D0.2.1 G1 US O0) hZ (w 68 rfl) (w 5 rfl) (by decide) (by decide)) q53a q53c (g := (mkF m 11 #[.val (.ref sb), .val (.ref st)] [(.ref st), (.int (0 : Int32))])) rfl (by rw [hml]; rfl) (Steps.refl _) (argsL := []) (rest := [(.int (0 : Int32))]) (lenOf pd8 rfl) rfl (by show 2 * 0 + _ ≤ _; exact Nat.le_of_eq rfl) (hb hby dj68m71_11) (fun _ _ => ⟨rfl, e52, (by decide : 0 + 0 ≤ _), (by decide : 0 + 0 ≤ _)⟩)
 dsimp only [Pt.U, Pt.locs, Pt.cells, Pt.slots] at X53 l53 y53 z53 st53 hQ53
 subst l53 y53 z53
 obtain ⟨rfl, Nq53, eq53⟩ := hQ53
 have N53 := Fr.app N0 Nq53
 refine own_csR [(.int (0 : Int32)), (.int (0 : Int32))] 14 st53 ?_
 refine own_d2 21 (fun _ q => XS.icmpYes X53.here hx rfl (pc0 := 14) (pc' := 21) rfl (hb hby dj68m71_14) rfl (teq (by decide : (0 : Int32) = (0 : Int32))).1 (by decide) (by decide) q) ?_
 exact own_retV X53 hx hrt (hb hby dj68m71_21) hlk (by decide) (by decide) eq53 (⟨rfl, N53, rfl⟩)

def Q36 (Z : State) (vb : Addr) (kv : ClassId) (ts : List Int32) (cap k n : Nat) (h0 : Heap) (n0 : Nat) (v : Option Value) (h : Heap) (L : List Loc) : Prop := v = none ∧ Fr n0 L ∧ Keep h0 h [vb] ∧ Arv Z h vb kv .byte (Int32.ofNat cap) (own_A cap (own_fL (ts.take (k + n)))) (.int (0 : Int32))

theorem rm36 (l : Launch) (Z : State) (a0 : Array Value) (hw : own_HW a0 Z) (ws : List Jvm.Cond) (sb vb : Addr) (kv : ClassId) (ts : List Int32) (cap k : Nat) (st sv : Addr) (ks : ClassId) (ds : List Int32) (n : Nat) (h0 : Heap) (n0 : Nat) (Z0 : n0 ≤ h0.size) (gs : n0 ≤ sb) (gv : n0 ≤ vb) (hsv : sb ≠ vb) (hcap : cap ≤ 150) (hkc : k ≤ cap) (n1 : st ≠ sb) (n2 : sv ≠ sb) (n3 : st ≠ vb) (n4 : sv ≠ vb) (B0 : own_B Z h0 sb vb kv (0 : Int32) (Int32.ofNat k) (Int32.ofNat cap) (own_A cap (own_fL (ts.take k)))) (D0 : own_D Z h0 st sv ks (0 : Int32) (Int32.ofNat n) (own_lows ds)) (hds : ds.length = n) (hd : ∀ j, j < n → ds.getD j 0 = ts.getD (k + j) 0) (hg : k + n ≤ cap) (G1 : Int32) (US : own_US Z G1) (O0 : Old Z n0 h0) (G3 : Value) (rG3 : G3.isRef = true) (Sf : own_SF Z G3) :
  own_Met l own_M25 jdk_42_method_147_code 4 none ws own_R_1_0_0_44 Z #[(.ref st), (.ref vb), (.int (Int32.ofNat k)), (.int (0 : Int32))] h0 (Q36 Z vb kv ts cap k n h0 n0) := by
 refine own_enter #[.val (.ref st), .val (.ref vb), .val (.int (Int32.ofNat k)), .val (.int (0 : Int32))] (plainFor_of_name pn_java_lang_String) (fun m => ef_RRII_4 m st vb (Int32.ofNat k) (0 : Int32)) ?_
 intro p e s m below meth c s₁ hx hby hml hown hnm hZ hrt hlk X0 e0
 have w := @own_w _ _ hw
 have N0 := Fr.nil n0
 refine own_tp (.ref st) 1 (fun _ q => XS.aloadN X0.here hx rfl (hb hby dj42m147_0) rfl rfl q) ?_
 obtain ⟨cq51, kq51, q51a, q51b, q51c⟩ := isOf hZ e0 D0.1
 obtain ⟨_, _, ⟨T51, L51, k51, n51⟩, -, X51, ⟨Lc51, hQ51, l51, y51, z51⟩, st51⟩ := X0.virtualBack hx (y := own_M12) (z := own_M12) hown (mvT hZ (w 64 rfl)) (mvT hZ (w 65 rfl)) (notFace_of_selects (args := #[]) (mvT hZ (w 67 rfl))) (mvT hZ (w 67 rfl)) (mvT hZ (w 66 rfl)) (by decide) (backOf (W := 0) (rm33 l Z a0 hw [] st h0 n0 D0.1 D0.2.1 G1 US O0) hZ (w 68 rfl) (w 5 rfl) (by decide) (by decide)) q51a q51c (g := (mkF m 1 #[.val (.ref st), .val (.ref vb), .val (.int (Int32.ofNat k)), .val (.int (0 : Int32))] [(.ref st)])) rfl (by rw [hml]; rfl) (Steps.refl _) (argsL := []) (rest := []) (lenOf pd8 rfl) rfl (by show 2 * 0 + _ ≤ _; exact Nat.le_of_eq rfl) (hb hby dj42m147_1) (fun _ _ => ⟨rfl, e0, (by decide : 0 + 0 ≤ _), (by decide : 0 + 0 ≤ _)⟩)
 dsimp only [Pt.U, Pt.locs, Pt.cells, Pt.slots] at X51 l51 y51 z51 st51 hQ51
 subst l51 y51 z51
 obtain ⟨rfl, Nq51, eq51⟩ := hQ51
 have N51 := Fr.app N0 Nq51
 refine own_csR [(.int (0 : Int32))] 4 st51 ?_
 refine own_tp (.int (0 : Int32)) 5 (fun _ q => XS.iloadN X51.here hx rfl (hb hby dj42m147_4) rfl q) ?_
 refine own_d2 8 (fun _ q => XS.icmpNo X51.here hx rfl (hb hby dj42m147_5) rfl (teq (by decide : (0 : Int32) = (0 : Int32))).2 q) ?_
 refine own_tp (.ref st) 9 (fun _ q => XS.aloadN X51.here hx rfl (hb hby dj42m147_8) rfl rfl q) ?_
 obtain ⟨T52, X52, e52, st52⟩ := getF X51 hx hZ hown (host := "") (Or.inl (w 22 rfl)) Via.refl eq51 D0.2.2.1 (g := (mkF m 9 #[.val (.ref st), .val (.ref vb), .val (.int (Int32.ofNat k)), .val (.int (0 : Int32))] [(.ref st)])) rfl rfl (hb hby dj42m147_9)
 refine own_t1 (.ref sv) 12 st52 ?_
 refine own_tp (.int (0 : Int32)) 13 (fun _ q => XS.iconst X52.here hx rfl (hb hby dj42m147_12) q) ?_
 refine own_tp (.ref vb) 14 (fun _ q => XS.aloadN X52.here hx rfl (hb hby dj42m147_13) rfl rfl q) ?_
 refine own_tp (.int (Int32.ofNat k)) 15 (fun _ q => XS.iloadN X52.here hx rfl (hb hby dj42m147_14) rfl q) ?_
 refine own_tp (.int (0 : Int32)) 16 (fun _ q => XS.iloadN X52.here hx rfl (hb hby dj42m147_15) rfl q) ?_
 refine own_t2 (.int ((Int32.ofNat k) <<< ((0 : Int32) &&& 31))) 17 (fun _ q => XS.ishl X52.here hx rfl (hb hby dj42m147_16) rfl q) ?_
 rw [own_shl0]
 refine own_tp (.ref st) 18 (fun _ q => XS.aloadN X52.here hx rfl (hb hby dj42m147_17) rfl rfl q) ?_
 obtain ⟨T53, X53, e53, st53⟩ := getF X52 hx hZ hown (host := "") (Or.inl (w 22 rfl)) Via.refl e52 D0.2.2.1 (g := (mkF m 18 #[.val (.ref st), .val (.ref vb), .val (.int (Int32.ofNat k)), .val (.int (0 : Int32))] [(.ref st), (.int (Int32.ofNat k)), (.ref vb), (.int (0 : Int32)), (.ref sv)])) rfl rfl (hb hby dj42m147_18)
 refine own_t1 (.ref sv) 21 st53 ?_
 obtain ⟨cl54, Ar54, -, Sz54, Nn54, -, -⟩ := (id D0.2.2.2)
 refine own_t1 (.int (Int32.ofNat n)) 22 (fun t q => X53.arraylength hx (by rw [e53]; exact Ar54.1) (State.isArrayOf_alike hZ.alike Ar54.2.1) (g := (mkF m 21 #[.val (.ref st), .val (.ref vb), .val (.int (Int32.ofNat k)), .val (.int (0 : Int32))] [(.ref sv), (.int (Int32.ofNat k)), (.ref vb), (.int (0 : Int32)), (.ref sv)])) rfl rfl (hb hby dj42m147_21) _ (by rw [len_of Sz54 Nn54]; exact q)) ?_
 obtain ⟨T55, h55, L55, X55, e55, Kp55, B55, V55, st55⟩ := own_acopy X53 hx hZ hown (w 155 rfl) (w 138 rfl) (w 136 rfl) (w 137 rfl) e53 D0.2.2.2 B0.2.2.2.2.2 k n (by omega) (by rw [(own_ofn (by omega)).2]; omega) (by rw [(own_ofn (by omega)).2]; omega) (by first | (rw [own_A_len, (own_ofn (by omega)).2]; done) | (rw [List.length_replicate, (own_ofn (by omega)).2]; done)) (g := (mkF m 22 #[.val (.ref st), .val (.ref vb), .val (.int (Int32.ofNat k)), .val (.int (0 : Int32))] [(.int (Int32.ofNat n)), (.int (Int32.ofNat k)), (.ref vb), (.int (0 : Int32)), (.ref sv)])) rfl (by rw [hml]; rfl) (rest := []) rfl (hb hby dj42m147_22) (by decide) (W := 0) (by show 2 * 0 + _ ≤ _; exact Nat.le_of_eq rfl) (by decide)
 have Nq55 : Fr n0 L55 := fun y hy => by rw [B55 y hy]; exact gv
 have N55 := Fr.app N51 Nq55
 have O55 := Old.keep O0 Kp55 (allS gv all0)
 have Z55 : n0 ≤ h55.size := Nat.le_trans Z0 Kp55.1
 have K55 : Keep h0 h55 [vb] := Keep.trans (Keep.refl h0 [vb]) Kp55 (allS (Or.inl (List.mem_of_getElem? (i := 0) rfl)) all0)
 have V55' : Arv Z h55 vb kv .byte (Int32.ofNat cap) (own_A cap (own_fL (ts.take (k + n)))) (.int (0 : Int32)) := by have q := V55; rw [own_lowsA, own_catL (by omega) hd] at q; exact q
 refine own_cs [] 25 st55 ?_
 refine own_d0 43 (fun _ q => XS.goto X55.here hx rfl (pc0 := 25) (pc' := 43) rfl (hb hby dj42m147_25) (by decide) (by decide) q) ?_
 exact own_retV X55 hx hrt (hb hby dj42m147_43) hlk (by decide) (by decide) e55 (⟨rfl, N55, K55, V55'⟩)

def Q37 (Z : State) (sb vb : Addr) (kv : ClassId) (ts : List Int32) (cap k n : Nat) (h0 : Heap) (n0 : Nat) (v : Option Value) (h : Heap) (L : List Loc) : Prop := v = none ∧ Fr n0 L ∧ Keep h0 h [sb, vb] ∧ own_B Z h sb vb kv (0 : Int32) (Int32.ofNat k) (Int32.ofNat cap) (own_A cap (own_fL (ts.take (k + n))))

theorem rm37 (l : Launch) (Z : State) (a0 : Array Value) (hw : own_HW a0 Z) (ws : List Jvm.Cond) (sb vb : Addr) (kv : ClassId) (ts : List Int32) (cap k : Nat) (st sv : Addr) (ks : ClassId) (ds : List Int32) (n : Nat) (h0 : Heap) (n0 : Nat) (Z0 : n0 ≤ h0.size) (gs : n0 ≤ sb) (gv : n0 ≤ vb) (hsv : sb ≠ vb) (hcap : cap ≤ 150) (hkc : k ≤ cap) (n1 : st ≠ sb) (n2 : sv ≠ sb) (n3 : st ≠ vb) (n4 : sv ≠ vb) (B0 : own_B Z h0 sb vb kv (0 : Int32) (Int32.ofNat k) (Int32.ofNat cap) (own_A cap (own_fL (ts.take k)))) (D0 : own_D Z h0 st sv ks (0 : Int32) (Int32.ofNat n) (own_lows ds)) (hds : ds.length = n) (hd : ∀ j, j < n → ds.getD j 0 = ts.getD (k + j) 0) (hg : k + n ≤ cap) (G1 : Int32) (US : own_US Z G1) (O0 : Old Z n0 h0) (G3 : Value) (rG3 : G3.isRef = true) (Sf : own_SF Z G3) :
  own_Met l own_M26 jdk_68_method_73_code 3 none ws own_R_2_0_0_59 Z #[(.ref sb), (.int (Int32.ofNat k)), (.ref st)] h0 (Q37 Z sb vb kv ts cap k n h0 n0) := by
 refine own_enter #[.val (.ref sb), .val (.int (Int32.ofNat k)), .val (.ref st)] (plainFor_of_name pn_java_lang_AbstractStringBuilder) (fun m => ef_RIR_3 m sb (Int32.ofNat k) st) ?_
 intro p e s m below meth c s₁ hx hby hml hown hnm hZ hrt hlk X0 e0
 have w := @own_w _ _ hw
 have N0 := Fr.nil n0
 refine own_tp (.ref sb) 1 (fun _ q => XS.aloadN X0.here hx rfl (hb hby dj68m73_0) rfl rfl q) ?_
 refine own_tp (.ref st) 2 (fun _ q => XS.aloadN X0.here hx rfl (hb hby dj68m73_1) rfl rfl q) ?_
 obtain ⟨cq51, kq51, q51a, q51b, q51c⟩ := isOf hZ e0 B0.1
 obtain ⟨_, _, ⟨T51, L51, k51, n51⟩, -, X51, ⟨Lc51, hQ51, l51, y51, z51⟩, st51⟩ := X0.virtualBack hx (y := own_M24) (z := own_M24) hown (mvT hZ (w 144 rfl)) (mvT hZ (own_decl (w 145 rfl) (w 148 rfl))) (notFace_of_selects (args := #[]) (mvT hZ (w 147 rfl))) (mvT hZ (w 147 rfl)) (mvT hZ (w 145 rfl)) (by decide) (backOf (W := 0) (rm35 l Z a0 hw [] sb vb kv ts cap k st sv ks ds n h0 n0 Z0 gs gv hsv (by omega) (by omega) n1 n2 n3 n4 B0 D0 hds hd (by omega) G1 US O0 G3 rG3 Sf) hZ (w 148 rfl) (w 86 rfl) (by decide) (by decide)) q51a q51c (g := (mkF m 2 #[.val (.ref sb), .val (.int (Int32.ofNat k)), .val (.ref st)] [(.ref st), (.ref sb)])) rfl (by rw [hml]; rfl) (Steps.refl _) (argsL := [(.ref st)]) (rest := []) (lenOf pd15 rfl) rfl (by show 2 * 0 + _ ≤ _; exact Nat.le_of_eq rfl) (hb hby dj68m73_2) (fun _ _ => ⟨rfl, e0, (by decide : 0 + 0 ≤ _), (by decide : 0 + 0 ≤ _)⟩)
 dsimp only [Pt.U, Pt.locs, Pt.cells, Pt.slots] at X51 l51 y51 z51 st51 hQ51
 subst l51 y51 z51
 obtain ⟨rfl, Nq51, eq51⟩ := hQ51
 have N51 := Fr.app N0 Nq51
 refine own_csR [] 5 st51 ?_
 refine own_tp (.ref st) 6 (fun _ q => XS.aloadN X51.here hx rfl (hb hby dj68m73_5) rfl rfl q) ?_
 refine own_tp (.ref sb) 7 (fun _ q => XS.aloadN X51.here hx rfl (hb hby dj68m73_6) rfl rfl q) ?_
 obtain ⟨T52, X52, e52, st52⟩ := getF X51 hx hZ hown (host := "") (Or.inl (w 90 rfl)) Via.refl eq51 B0.2.1 (g := (mkF m 7 #[.val (.ref sb), .val (.int (Int32.ofNat k)), .val (.ref st)] [(.ref sb), (.ref st)])) rfl rfl (hb hby dj68m73_7)
 refine own_t1 (.ref vb) 10 st52 ?_
 refine own_tp (.int (Int32.ofNat k)) 11 (fun _ q => XS.iloadN X52.here hx rfl (hb hby dj68m73_10) rfl q) ?_
 refine own_tp (.ref sb) 12 (fun _ q => XS.aloadN X52.here hx rfl (hb hby dj68m73_11) rfl rfl q) ?_
 obtain ⟨T53, X53, e53, st53⟩ := getF X52 hx hZ hown (host := "") (Or.inl (w 92 rfl)) Via.refl e52 B0.2.2.1 (g := (mkF m 12 #[.val (.ref sb), .val (.int (Int32.ofNat k)), .val (.ref st)] [(.ref sb), (.int (Int32.ofNat k)), (.ref vb), (.ref st)])) rfl rfl (hb hby dj68m73_12)
 refine own_t1 (.int (0 : Int32)) 15 st53 ?_
 obtain ⟨cq54, kq54, q54a, q54b, q54c⟩ := isOf hZ e53 D0.1
 obtain ⟨_, _, ⟨T54, L54, k54, n54⟩, -, X54, ⟨Lc54, hQ54, l54, y54, z54⟩, st54⟩ := X53.virtualBack hx (y := own_M25) (z := own_M25) hown (mvT hZ (w 150 rfl)) (mvT hZ (w 151 rfl)) (notFace_of_selects (args := #[]) (mvT hZ (w 153 rfl))) (mvT hZ (w 153 rfl)) (mvT hZ (w 152 rfl)) (by decide) (backOf (W := 0) (rm36 l Z a0 hw [] sb vb kv ts cap k st sv ks ds n h0 n0 Z0 gs gv hsv (by omega) (by omega) n1 n2 n3 n4 B0 D0 hds hd (by omega) G1 US O0 G3 rG3 Sf) hZ (w 154 rfl) (w 5 rfl) (by decide) (by decide)) q54a q54c (g := (mkF m 15 #[.val (.ref sb), .val (.int (Int32.ofNat k)), .val (.ref st)] [(.int (0 : Int32)), (.int (Int32.ofNat k)), (.ref vb), (.ref st)])) rfl (by rw [hml]; rfl) (Steps.refl _) (argsL := [(.ref vb), (.int (Int32.ofNat k)), (.int (0 : Int32))]) (rest := []) (lenOf pd16 rfl) rfl (by show 2 * 0 + _ ≤ _; exact Nat.le_of_eq rfl) (hb hby dj68m73_15) (fun _ _ => ⟨rfl, e53, (by decide : 0 + 0 ≤ _), (by decide : 0 + 0 ≤ _)⟩)
 dsimp only [Pt.U, Pt.locs, Pt.cells, Pt.slots] at X54 l54 y54 z54 st54 hQ54
 subst l54 y54 z54
 obtain ⟨rfl, Nq54, Kp54, V54⟩ := hQ54
 have N54 := Fr.app N51 Nq54
 have O54 := Old.keep O0 Kp54 (allS gv all0)
 have Z54 : n0 ≤ T54.heap.size := Nat.le_trans Z0 Kp54.1
 have K54 : Keep h0 T54.heap [sb, vb] := Keep.trans (Keep.refl h0 [sb, vb]) Kp54 (allS (Or.inl (List.mem_of_getElem? (i := 1) rfl)) all0)
 refine own_csR [] 18 st54 ?_
 have f55 := (B0.1.keep Kp54)
 have f56 := (B0.2.1.keep Kp54 (ninS hsv nin0))
 have f57 := (B0.2.2.1.keep Kp54 (ninS hsv nin0))
 have f58 := (B0.2.2.2.1.keep Kp54 (ninS hsv nin0))
 have f59 := (B0.2.2.2.2.1.keep Kp54 (ninS hsv nin0))
 exact own_retV X54 hx hrt (hb hby dj68m73_18) hlk (by decide) (by decide) rfl (⟨rfl, N54, K54, ⟨f55, f56, f57, f58, f59, V54⟩⟩)

def Q38 (Z : State) (sb vb : Addr) (ts : List Int32) (cap k n C : Nat) (h0 : Heap) (n0 : Nat) (v : Option Value) (h : Heap) (L : List Loc) : Prop := v = some (.ref sb) ∧ Fr n0 L ∧ Keep h0 h [sb, vb] ∧ ∃ (nv : Addr) (kn : ClassId), n0 ≤ nv ∧ h0.size ≤ nv ∧ own_B Z h sb nv kn (0 : Int32) (Int32.ofNat (k + n)) (Int32.ofNat C) (own_A C (own_fL (ts.take (k + n))))

theorem rm38 (l : Launch) (Z : State) (a0 : Array Value) (hw : own_HW a0 Z) (ws : List Jvm.Cond) (sb vb : Addr) (kv : ClassId) (ts : List Int32) (cap k : Nat) (st sv : Addr) (ks : ClassId) (ds : List Int32) (n C : Nat) (h0 : Heap) (n0 : Nat) (Z0 : n0 ≤ h0.size) (gs : n0 ≤ sb) (gv : n0 ≤ vb) (hsv : sb ≠ vb) (hcap : cap ≤ 150) (hkc : k ≤ cap) (n1 : st ≠ sb) (n2 : sv ≠ sb) (n3 : st ≠ vb) (n4 : sv ≠ vb) (B0 : own_B Z h0 sb vb kv (0 : Int32) (Int32.ofNat k) (Int32.ofNat cap) (own_A cap (own_fL (ts.take k)))) (D0 : own_D Z h0 st sv ks (0 : Int32) (Int32.ofNat n) (own_lows ds)) (hds : ds.length = n) (hd : ∀ j, j < n → ds.getD j 0 = ts.getD (k + j) 0) (hg : cap < k + n) (hcp : 0 < cap) (hC : (cap + max (k + n - cap) (cap + 2)) = C) (hC2 : C ≤ 150) (hC3 : k + n ≤ C) (G1 : Int32) (US : own_US Z G1) (O0 : Old Z n0 h0) (G3 : Value) (rG3 : G3.isRef = true) (Sf : own_SF Z G3) :
  own_Met l own_M27 jdk_68_method_22_code 3 (some (.object "java/lang/AbstractStringBuilder")) ws own_R_4_1_150_74 Z #[(.ref sb), (.ref st)] h0 (Q38 Z sb vb ts cap k n C h0 n0) := by
 refine own_enter #[.val (.ref sb), .val (.ref st), .unset] (plainFor_of_name pn_java_lang_AbstractStringBuilder) (fun m => ef_RR_3 m sb st) ?_
 intro p e s m below meth c s₁ hx hby hml hown hnm hZ hrt hlk X0 e0
 have w := @own_w _ _ hw
 have N0 := Fr.nil n0
 refine own_tp (.ref st) 1 (fun _ q => XS.aloadN X0.here hx rfl (hb hby dj68m22_0) rfl rfl q) ?_
 refine own_d1 9 (fun _ q => XS.ifnonnullYes X0.here hx rfl (pc0 := 1) (pc' := 9) rfl (hb hby dj68m22_1) rfl (by decide) (by decide) q) ?_
 refine own_tp (.ref st) 10 (fun _ q => XS.aloadN X0.here hx rfl (hb hby dj68m22_9) rfl rfl q) ?_
 obtain ⟨cq51, kq51, q51a, q51b, q51c⟩ := isOf hZ e0 D0.1
 obtain ⟨_, _, ⟨T51, L51, k51, n51⟩, -, X51, ⟨Lc51, hQ51, l51, y51, z51⟩, st51⟩ := X0.virtualBack hx (y := own_M14) (z := own_M14) hown (mvT hZ (w 105 rfl)) (mvT hZ (w 60 rfl)) (notFace_of_selects (args := #[]) (mvT hZ (w 62 rfl))) (mvT hZ (w 62 rfl)) (mvT hZ (w 61 rfl)) (by decide) (backOf (W := 0) (rm34 l Z a0 hw [] st sv ks ds n h0 n0 (by omega) D0 G1 US O0) hZ (w 63 rfl) (w 5 rfl) (by decide) (by decide)) q51a q51c (g := (mkF m 10 #[.val (.ref sb), .val (.ref st), .unset] [(.ref st)])) rfl (by rw [hml]; rfl) (Steps.refl _) (argsL := []) (rest := []) (lenOf pd10 rfl) rfl (by show 2 * 0 + _ ≤ _; exact Nat.le_of_eq rfl) (hb hby dj68m22_10) (fun _ _ => ⟨rfl, e0, (by decide : 0 + 0 ≤ _), (by decide : 0 + 0 ≤ _)⟩)
 dsimp only [Pt.U, Pt.locs, Pt.cells, Pt.slots] at X51 l51 y51 z51 st51 hQ51
 subst l51 y51 z51
 obtain ⟨rfl, Nq51, eq51⟩ := hQ51
 have N51 := Fr.app N0 Nq51
 refine own_csR [(.int (Int32.ofNat n))] 13 st51 ?_
 refine own_ls #[.val (.ref sb), .val (.ref st), .val (.int (Int32.ofNat n))] 14 (fun _ q => XS.istoreN X51.here hx rfl (hb hby dj68m22_13) rfl (l' := #[.val (.ref sb), .val (.ref st), .val (.int (Int32.ofNat n))]) rfl q) ?_
 refine own_tp (.ref sb) 15 (fun _ q => XS.aloadN X51.here hx rfl (hb hby dj68m22_14) rfl rfl q) ?_
 refine own_tp (.ref sb) 16 (fun _ q => XS.aloadN X51.here hx rfl (hb hby dj68m22_15) rfl rfl q) ?_
 obtain ⟨T52, X52, e52, st52⟩ := getF X51 hx hZ hown (host := "") (Or.inl (w 106 rfl)) Via.refl eq51 B0.2.2.2.1 (g := (mkF m 16 #[.val (.ref sb), .val (.ref st), .val (.int (Int32.ofNat n))] [(.ref sb), (.ref sb)])) rfl rfl (hb hby dj68m22_16)
 refine own_t1 (.int (Int32.ofNat k)) 19 st52 ?_
 refine own_tp (.int (Int32.ofNat n)) 20 (fun _ q => XS.iloadN X52.here hx rfl (hb hby dj68m22_19) rfl q) ?_
 refine own_t2 (.int ((Int32.ofNat k) + (Int32.ofNat n))) 21 (fun _ q => XS.iadd X52.here hx rfl (hb hby dj68m22_20) rfl q) ?_
 rw [← Int32.ofNat_add]
 obtain ⟨cq53, kq53, q53a, q53b, q53c⟩ := isOf hZ e52 B0.1
 obtain ⟨_, _, ⟨T53, L53, k53, n53⟩, -, X53, ⟨Lc53, hQ53, l53, y53, z53⟩, st53⟩ := X52.virtualBack hx (y := own_M23) (z := own_M23) hown (mvT hZ (w 108 rfl)) (mvT hZ (own_decl (w 109 rfl) (w 112 rfl))) (notFace_of_selects (args := #[]) (mvT hZ (w 111 rfl))) (mvT hZ (w 111 rfl)) (mvT hZ (w 109 rfl)) (by decide) (backOf (W := 0) (rm32 l Z a0 hw [] sb vb kv ts cap k n C h0 n0 Z0 gs gv hsv (by omega) (by omega) hg hcp hC hC2 B0 G1 US O0) hZ (w 112 rfl) (w 86 rfl) (by decide) (by decide)) q53a q53c (g := (mkF m 21 #[.val (.ref sb), .val (.ref st), .val (.int (Int32.ofNat n))] [(.int (Int32.ofNat (k + n))), (.ref sb)])) rfl (by rw [hml]; rfl) (Steps.refl _) (argsL := [(.int (Int32.ofNat (k + n)))]) (rest := []) (lenOf pd12 rfl) rfl (by show 2 * 0 + _ ≤ _; exact Nat.le_of_eq rfl) (hb hby dj68m22_21) (fun _ _ => ⟨rfl, e52, (by decide : 0 + 1 ≤ _), (by decide : 0 + 150 ≤ _)⟩)
 dsimp only [Pt.U, Pt.locs, Pt.cells, Pt.slots] at X53 l53 y53 z53 st53 hQ53
 subst l53 y53 z53
 obtain ⟨rfl, Nq53, Kp53, nv53, kn53, gn53, sn53, B53⟩ := hQ53
 have ne54 : sb ≠ nv53 := Nat.ne_of_lt (Nat.lt_of_lt_of_le B0.1.lt sn53)
 have ne55 : vb ≠ nv53 := Nat.ne_of_lt (Nat.lt_of_lt_of_le B0.2.2.2.2.2.lt sn53)
 have ne56 : st ≠ nv53 := Nat.ne_of_lt (Nat.lt_of_lt_of_le D0.1.lt sn53)
 have ne57 : sv ≠ nv53 := Nat.ne_of_lt (Nat.lt_of_lt_of_le D0.2.2.2.lt sn53)
 have s0nv53 : h0.size ≤ nv53 := Nat.le_trans (Keep.refl h0 [sb, vb]).1 sn53
 have N53 := Fr.app N51 Nq53
 have O53 := Old.keep O0 Kp53 (allS gs all0)
 have Z53 : n0 ≤ T53.heap.size := Nat.le_trans Z0 Kp53.1
 have K53 : Keep h0 T53.heap [sb, vb] := Keep.trans (Keep.refl h0 [sb, vb]) Kp53 (allS (Or.inl (List.mem_of_getElem? (i := 0) rfl)) all0)
 refine own_csR [] 24 st53 ?_
 refine own_tp (.ref sb) 25 (fun _ q => XS.aloadN X53.here hx rfl (hb hby dj68m22_24) rfl rfl q) ?_
 refine own_tp (.ref sb) 26 (fun _ q => XS.aloadN X53.here hx rfl (hb hby dj68m22_25) rfl rfl q) ?_
 obtain ⟨T58, X58, e58, st58⟩ := getF X53 hx hZ hown (host := "") (Or.inl (w 106 rfl)) Via.refl rfl B53.2.2.2.1 (g := (mkF m 26 #[.val (.ref sb), .val (.ref st), .val (.int (Int32.ofNat n))] [(.ref sb), (.ref sb)])) rfl rfl (hb hby dj68m22_26)
 refine own_t1 (.int (Int32.ofNat k)) 29 st58 ?_
 refine own_tp (.ref st) 30 (fun _ q => XS.aloadN X58.here hx rfl (hb hby dj68m22_29) rfl rfl q) ?_
 have f59 := (D0.1.keep Kp53)
 have f60 := (D0.2.1.keep Kp53 (ninS n1 nin0))
 have f61 := (D0.2.2.1.keep Kp53 (ninS n1 nin0))
 have f62 := (D0.2.2.2.keep Kp53 (ninS n2 nin0))
 obtain ⟨cq63, kq63, q63a, q63b, q63c⟩ := isOf hZ e58 B53.1
 obtain ⟨_, _, ⟨T63, L63, k63, n63⟩, -, X63, ⟨Lc63, hQ63, l63, y63, z63⟩, st63⟩ := X58.virtualBack hx (y := own_M26) (z := own_M26) hown (mvT hZ (w 139 rfl)) (mvT hZ (own_decl (w 140 rfl) (w 143 rfl))) (notFace_of_selects (args := #[]) (mvT hZ (w 142 rfl))) (mvT hZ (w 142 rfl)) (mvT hZ (w 140 rfl)) (by decide) (backOf (W := 0) (rm37 l Z a0 hw [] sb nv53 kn53 ts C k st sv ks ds n T53.heap n0 Z53 gs gn53 ne54 (by omega) (by omega) n1 n2 ne56 ne57 B53 ⟨f59, f60, f61, f62⟩ hds hd (by omega) G1 US O53 G3 rG3 Sf) hZ (w 143 rfl) (w 86 rfl) (by decide) (by decide)) q63a q63c (g := (mkF m 30 #[.val (.ref sb), .val (.ref st), .val (.int (Int32.ofNat n))] [(.ref st), (.int (Int32.ofNat k)), (.ref sb)])) rfl (by rw [hml]; rfl) (Steps.refl _) (argsL := [(.int (Int32.ofNat k)), (.ref st)]) (rest := []) (lenOf pd17 rfl) rfl (by show 2 * 0 + _ ≤ _; exact Nat.le_of_eq rfl) (hb hby dj68m22_30) (fun _ _ => ⟨rfl, e58, (by decide : 1 + 0 ≤ _), (by decide : 150 + 0 ≤ _)⟩)
 dsimp only [Pt.U, Pt.locs, Pt.cells, Pt.slots] at X63 l63 y63 z63 st63 hQ63
 subst l63 y63 z63
 obtain ⟨rfl, Nq63, Kp63, B63⟩ := hQ63
 have N63 := Fr.app N53 Nq63
 have O63 := Old.keep O53 Kp63 (allS gs (allS gn53 all0))
 have Z63 : n0 ≤ T63.heap.size := Nat.le_trans Z53 Kp63.1
 have K63 : Keep h0 T63.heap [sb, vb] := Keep.trans K53 Kp63 (allS (Or.inl (List.mem_of_getElem? (i := 0) rfl)) (allS (Or.inr s0nv53) all0))
 refine own_csR [] 33 st63 ?_
 refine own_tp (.ref sb) 34 (fun _ q => XS.aloadN X63.here hx rfl (hb hby dj68m22_33) rfl rfl q) ?_
 refine own_tp (.ref sb) 35 (fun _ q => XS.dup X63.here hx rfl (hb hby dj68m22_34) rfl rfl q) ?_
 obtain ⟨T64, X64, e64, st64⟩ := getF X63 hx hZ hown (host := "") (Or.inl (w 106 rfl)) Via.refl rfl B63.2.2.2.1 (g := (mkF m 35 #[.val (.ref sb), .val (.ref st), .val (.int (Int32.ofNat n))] [(.ref sb), (.ref sb)])) rfl rfl (hb hby dj68m22_35)
 refine own_t1 (.int (Int32.ofNat k)) 38 st64 ?_
 refine own_tp (.int (Int32.ofNat n)) 39 (fun _ q => XS.iloadN X64.here hx rfl (hb hby dj68m22_38) rfl q) ?_
 refine own_t2 (.int ((Int32.ofNat k) + (Int32.ofNat n))) 40 (fun _ q => XS.iadd X64.here hx rfl (hb hby dj68m22_39) rfl q) ?_
 rw [← Int32.ofNat_add]
 obtain ⟨T65, h65, X65, e65, W65, st65⟩ := putF X64 hx hZ hown (host := "") (Or.inl (w 106 rfl)) Via.refl e64 B63.2.2.2.1 B63.1 (Or.inl (w 107 rfl)) (w 77 rfl) (ty := .int) (by decide) rfl rfl (g := (mkF m 40 #[.val (.ref sb), .val (.ref st), .val (.int (Int32.ofNat n))] [(.int (Int32.ofNat (k + n))), (.ref sb)])) rfl rfl (hb hby dj68m22_40)
 have Fw65 := B63.2.2.2.1.same W65
 have N65 := Fr.snoc X65 N63 gs
 have O65 := Old.wr O63 W65 gs
 have K65 : Keep h0 h65 [sb, vb] := K63.wr W65 (Or.inl (List.mem_of_getElem? (i := 0) rfl))
 have Z65 : n0 ≤ h65.size := Nat.le_trans Z63 (Nat.le_of_eq W65.size.symm)
 refine own_d2 43 st65 ?_
 refine own_tp (.ref sb) 44 (fun _ q => XS.aloadN X65.here hx rfl (hb hby dj68m22_43) rfl rfl q) ?_
 have f66 := (B63.1.wr W65)
 have f67 := (B63.2.1.other W65 (Or.inr (slot_ne (Or.inl (w 91 rfl)) (Or.inl (w 107 rfl)) (by decide) (t := (.array .byte)) (t' := .int) (by decide) (by decide))))
 have f68 := (B63.2.2.1.other W65 (Or.inr (slot_ne (Or.inl (w 93 rfl)) (Or.inl (w 107 rfl)) (by decide) (t := .byte) (t' := .int) (by decide) (by decide))))
 have f69 := (B63.2.2.2.2.1.other W65 (Or.inr (slot_ne (Or.inl (w 272 rfl)) (Or.inl (w 107 rfl)) (by decide) (t := .boolean) (t' := .int) (by decide) (by decide))))
 have f70 := (B63.2.2.2.2.2.other W65 (Ne.symm ne54))
 exact own_retR X65 hx hrt (hb hby dj68m22_44) rfl rfl hlk (by decide) (by decide) e65 (⟨rfl, N65, K65, nv53, _, gn53, s0nv53, ⟨f66, f67, f68, Fw65, f69, f70⟩⟩)

def Q39 (Z : State) (sb vb : Addr) (ts : List Int32) (cap k n C : Nat) (h0 : Heap) (n0 : Nat) (v : Option Value) (h : Heap) (L : List Loc) : Prop := v = some (.ref sb) ∧ Fr n0 L ∧ Keep h0 h [sb, vb] ∧ ∃ (nv : Addr) (kn : ClassId), n0 ≤ nv ∧ h0.size ≤ nv ∧ own_B Z h sb nv kn (0 : Int32) (Int32.ofNat (k + n)) (Int32.ofNat C) (own_A C (own_fL (ts.take (k + n))))

theorem rm39 (l : Launch) (Z : State) (a0 : Array Value) (hw : own_HW a0 Z) (ws : List Jvm.Cond) (sb vb : Addr) (kv : ClassId) (ts : List Int32) (cap k : Nat) (st sv : Addr) (ks : ClassId) (ds : List Int32) (n C : Nat) (h0 : Heap) (n0 : Nat) (Z0 : n0 ≤ h0.size) (gs : n0 ≤ sb) (gv : n0 ≤ vb) (hsv : sb ≠ vb) (hcap : cap ≤ 150) (hkc : k ≤ cap) (n1 : st ≠ sb) (n2 : sv ≠ sb) (n3 : st ≠ vb) (n4 : sv ≠ vb) (B0 : own_B Z h0 sb vb kv (0 : Int32) (Int32.ofNat k) (Int32.ofNat cap) (own_A cap (own_fL (ts.take k)))) (D0 : own_D Z h0 st sv ks (0 : Int32) (Int32.ofNat n) (own_lows ds)) (hds : ds.length = n) (hd : ∀ j, j < n → ds.getD j 0 = ts.getD (k + j) 0) (hg : cap < k + n) (hcp : 0 < cap) (hC : (cap + max (k + n - cap) (cap + 2)) = C) (hC2 : C ≤ 150) (hC3 : k + n ≤ C) (G1 : Int32) (US : own_US Z G1) (O0 : Old Z n0 h0) (G3 : Value) (rG3 : G3.isRef = true) (Sf : own_SF Z G3) :
  own_Met l own_M28 jdk_67_method_7_code 2 (some (.object "java/lang/StringBuilder")) ws own_R_5_1_150_88 Z #[(.ref sb), (.ref st)] h0 (Q39 Z sb vb ts cap k n C h0 n0) := by
 refine own_enter #[.val (.ref sb), .val (.ref st)] (plainFor_of_name pn_java_lang_StringBuilder) (fun m => ef_RR_2 m sb st) ?_
 intro p e s m below meth c s₁ hx hby hml hown hnm hZ hrt hlk X0 e0
 have w := @own_w _ _ hw
 have N0 := Fr.nil n0
 refine own_tp (.ref sb) 1 (fun _ q => XS.aloadN X0.here hx rfl (hb hby dj67m7_0) rfl rfl q) ?_
 refine own_tp (.ref st) 2 (fun _ q => XS.aloadN X0.here hx rfl (hb hby dj67m7_1) rfl rfl q) ?_
 obtain ⟨_, _, ⟨T51, L51, k51, n51⟩, -, X51, ⟨Lc51, hQ51, l51, y51, z51⟩, st51⟩ := superBack X0 hx hZ (K := "java/lang/StringBuilder") (y := own_M27) hown (w 100 rfl) (own_same (w 103 rfl) (w 111 rfl) rfl (by decide)) (w 101 rfl) (w 102 rfl) (by decide) (backOf (W := 0) (rm38 l Z a0 hw [] sb vb kv ts cap k st sv ks ds n C h0 n0 Z0 gs gv hsv (by omega) (by omega) n1 n2 n3 n4 B0 D0 hds hd hg hcp hC hC2 hC3 G1 US O0 G3 rG3 Sf) hZ (w 104 rfl) (w 86 rfl) (by decide) (by decide)) e0 (Ins.self B0.1) (g := (mkF m 2 #[.val (.ref sb), .val (.ref st)] [(.ref st), (.ref sb)])) rfl (by rw [hml]; rfl) (w 104 rfl) (argsL := [(.ref st)]) (rest := []) (lenOf pd18 rfl) rfl (by show 2 * 0 + _ ≤ _; exact Nat.le_of_eq rfl) (hb hby dj67m7_2) (fun _ _ => ⟨rfl, e0, (by decide : 0 + 1 ≤ _), (by decide : 0 + 150 ≤ _)⟩)
 dsimp only [Pt.U, Pt.locs, Pt.cells, Pt.slots] at X51 l51 y51 z51 st51 hQ51
 subst l51 y51 z51
 obtain ⟨rfl, Nq51, Kp51, rest51⟩ := hQ51
 refine own_csR [(.ref sb)] 5 st51 ?_
 refine own_d1 6 (fun _ q => XS.pop X51.here hx rfl (hb hby dj67m7_5) rfl rfl q) ?_
 refine own_tp (.ref sb) 7 (fun _ q => XS.aloadN X51.here hx rfl (hb hby dj67m7_6) rfl rfl q) ?_
 exact own_retR X51 hx hrt (hb hby dj67m7_7) rfl rfl hlk (by decide) (by decide) rfl (⟨rfl, Fr.app N0 Nq51, Kp51, rest51⟩)

def Q40  (h0 : Heap) (n0 : Nat) (v : Option Value) (h : Heap) (L : List Loc) : Prop := v = none ∧ Fr n0 L ∧ h = h0

theorem rm40 (l : Launch) (Z : State) (a0 : Array Value) (hw : own_HW a0 Z) (ws : List Jvm.Cond) (sb vb : Addr) (kv : ClassId) (ts : List Int32) (cap k n : Nat) (h0 : Heap) (n0 : Nat) (Z0 : n0 ≤ h0.size) (gs : n0 ≤ sb) (gv : n0 ≤ vb) (hsv : sb ≠ vb) (hcap : cap ≤ 150) (hkc : k ≤ cap) (hn' : k + n ≤ cap) (B0 : own_B Z h0 sb vb kv (0 : Int32) (Int32.ofNat k) (Int32.ofNat cap) (own_A cap (own_fL (ts.take k)))) (G1 : Int32) (US : own_US Z G1) (O0 : Old Z n0 h0) :
  own_Met l own_M23 jdk_68_method_9_code 3 none ws own_R_0_0_0_0 Z #[(.ref sb), (.int (Int32.ofNat (k + n)))] h0 (Q40 h0 n0) := by
 refine own_enter #[.val (.ref sb), .val (.int (Int32.ofNat (k + n))), .unset] (plainFor_of_name pn_java_lang_AbstractStringBuilder) (fun m => ef_RI_3 m sb (Int32.ofNat (k + n))) ?_
 intro p e s m below meth c s₁ hx hby hml hown hnm hZ hrt hlk X0 e0
 have w := @own_w _ _ hw
 have N0 := Fr.nil n0
 refine own_tp (.ref sb) 1 (fun _ q => XS.aloadN X0.here hx rfl (hb hby dj68m9_0) rfl rfl q) ?_
 obtain ⟨T51, X51, e51, st51⟩ := getF X0 hx hZ hown (host := "") (Or.inl (w 90 rfl)) Via.refl e0 B0.2.1 (g := (mkF m 1 #[.val (.ref sb), .val (.int (Int32.ofNat (k + n))), .unset] [(.ref sb)])) rfl rfl (hb hby dj68m9_1)
 refine own_t1 (.ref vb) 4 st51 ?_
 obtain ⟨cl52, Ar52, -, Sz52, Nn52, -, -⟩ := (id B0.2.2.2.2.2)
 refine own_t1 (.int (Int32.ofNat cap)) 5 (fun t q => X51.arraylength hx (by rw [e51]; exact Ar52.1) (State.isArrayOf_alike hZ.alike Ar52.2.1) (g := (mkF m 4 #[.val (.ref sb), .val (.int (Int32.ofNat (k + n))), .unset] [(.ref vb)])) rfl rfl (hb hby dj68m9_4) _ (by rw [len_of Sz52 Nn52]; exact q)) ?_
 refine own_tp (.ref sb) 6 (fun _ q => XS.aloadN X51.here hx rfl (hb hby dj68m9_5) rfl rfl q) ?_
 obtain ⟨T53, X53, e53, st53⟩ := getF X51 hx hZ hown (host := "") (Or.inl (w 92 rfl)) Via.refl e51 B0.2.2.1 (g := (mkF m 6 #[.val (.ref sb), .val (.int (Int32.ofNat (k + n))), .unset] [(.ref sb), (.int (Int32.ofNat cap))])) rfl rfl (hb hby dj68m9_6)
 refine own_t1 (.int (0 : Int32)) 9 st53 ?_
 refine own_t2 (.int ((Int32.ofNat cap) >>> ((0 : Int32) &&& 31))) 10 (fun _ q => XS.ishr X53.here hx rfl (hb hby dj68m9_9) rfl q) ?_
 rw [own_shr0]
 refine own_ls #[.val (.ref sb), .val (.int (Int32.ofNat (k + n))), .val (.int (Int32.ofNat cap))] 11 (fun _ q => XS.istoreN X53.here hx rfl (hb hby dj68m9_10) rfl (l' := #[.val (.ref sb), .val (.int (Int32.ofNat (k + n))), .val (.int (Int32.ofNat cap))]) rfl q) ?_
 refine own_tp (.int (Int32.ofNat (k + n))) 12 (fun _ q => XS.iloadN X53.here hx rfl (hb hby dj68m9_11) rfl q) ?_
 refine own_tp (.int (Int32.ofNat cap)) 13 (fun _ q => XS.iloadN X53.here hx rfl (hb hby dj68m9_12) rfl q) ?_
 refine own_t2 (.int ((Int32.ofNat (k + n)) - (Int32.ofNat cap))) 14 (fun _ q => XS.isub X53.here hx rfl (hb hby dj68m9_13) rfl q) ?_
 refine own_d1 38 (fun _ q => XS.ifYes X53.here hx rfl (pc0 := 14) (pc' := 38) rfl (hb hby dj68m9_14) rfl ((if0 _ _).trans (flt (fun q => by have := (own_gt0 (by omega) (by omega)).mp q; omega)).2.2.2) (by decide) (by decide) q) ?_
 exact own_retV X53 hx hrt (hb hby dj68m9_38) hlk (by decide) (by decide) e53 (⟨rfl, N0, rfl⟩)

def Q41 (Z : State) (sb vb : Addr) (kv : ClassId) (ts : List Int32) (cap k n : Nat) (h0 : Heap) (n0 : Nat) (v : Option Value) (h : Heap) (L : List Loc) : Prop := v = some (.ref sb) ∧ Fr n0 L ∧ Keep h0 h [sb, vb] ∧ own_B Z h sb vb kv (0 : Int32) (Int32.ofNat (k + n)) (Int32.ofNat cap) (own_A cap (own_fL (ts.take (k + n))))

theorem rm41 (l : Launch) (Z : State) (a0 : Array Value) (hw : own_HW a0 Z) (ws : List Jvm.Cond) (sb vb : Addr) (kv : ClassId) (ts : List Int32) (cap k : Nat) (st sv : Addr) (ks : ClassId) (ds : List Int32) (n : Nat) (h0 : Heap) (n0 : Nat) (Z0 : n0 ≤ h0.size) (gs : n0 ≤ sb) (gv : n0 ≤ vb) (hsv : sb ≠ vb) (hcap : cap ≤ 150) (hkc : k ≤ cap) (n1 : st ≠ sb) (n2 : sv ≠ sb) (n3 : st ≠ vb) (n4 : sv ≠ vb) (B0 : own_B Z h0 sb vb kv (0 : Int32) (Int32.ofNat k) (Int32.ofNat cap) (own_A cap (own_fL (ts.take k)))) (D0 : own_D Z h0 st sv ks (0 : Int32) (Int32.ofNat n) (own_lows ds)) (hds : ds.length = n) (hd : ∀ j, j < n → ds.getD j 0 = ts.getD (k + j) 0) (hg : k + n ≤ cap) (G1 : Int32) (US : own_US Z G1) (O0 : Old Z n0 h0) (G3 : Value) (rG3 : G3.isRef = true) (Sf : own_SF Z G3) :
  own_Met l own_M27 jdk_68_method_22_code 3 (some (.object "java/lang/AbstractStringBuilder")) ws own_R_3_0_0_73 Z #[(.ref sb), (.ref st)] h0 (Q41 Z sb vb kv ts cap k n h0 n0) := by
 refine own_enter #[.val (.ref sb), .val (.ref st), .unset] (plainFor_of_name pn_java_lang_AbstractStringBuilder) (fun m => ef_RR_3 m sb st) ?_
 intro p e s m below meth c s₁ hx hby hml hown hnm hZ hrt hlk X0 e0
 have w := @own_w _ _ hw
 have N0 := Fr.nil n0
 refine own_tp (.ref st) 1 (fun _ q => XS.aloadN X0.here hx rfl (hb hby dj68m22_0) rfl rfl q) ?_
 refine own_d1 9 (fun _ q => XS.ifnonnullYes X0.here hx rfl (pc0 := 1) (pc' := 9) rfl (hb hby dj68m22_1) rfl (by decide) (by decide) q) ?_
 refine own_tp (.ref st) 10 (fun _ q => XS.aloadN X0.here hx rfl (hb hby dj68m22_9) rfl rfl q) ?_
 obtain ⟨cq51, kq51, q51a, q51b, q51c⟩ := isOf hZ e0 D0.1
 obtain ⟨_, _, ⟨T51, L51, k51, n51⟩, -, X51, ⟨Lc51, hQ51, l51, y51, z51⟩, st51⟩ := X0.virtualBack hx (y := own_M14) (z := own_M14) hown (mvT hZ (w 105 rfl)) (mvT hZ (w 60 rfl)) (notFace_of_selects (args := #[]) (mvT hZ (w 62 rfl))) (mvT hZ (w 62 rfl)) (mvT hZ (w 61 rfl)) (by decide) (backOf (W := 0) (rm34 l Z a0 hw [] st sv ks ds n h0 n0 (by omega) D0 G1 US O0) hZ (w 63 rfl) (w 5 rfl) (by decide) (by decide)) q51a q51c (g := (mkF m 10 #[.val (.ref sb), .val (.ref st), .unset] [(.ref st)])) rfl (by rw [hml]; rfl) (Steps.refl _) (argsL := []) (rest := []) (lenOf pd10 rfl) rfl (by show 2 * 0 + _ ≤ _; exact Nat.le_of_eq rfl) (hb hby dj68m22_10) (fun _ _ => ⟨rfl, e0, (by decide : 0 + 0 ≤ _), (by decide : 0 + 0 ≤ _)⟩)
 dsimp only [Pt.U, Pt.locs, Pt.cells, Pt.slots] at X51 l51 y51 z51 st51 hQ51
 subst l51 y51 z51
 obtain ⟨rfl, Nq51, eq51⟩ := hQ51
 have N51 := Fr.app N0 Nq51
 refine own_csR [(.int (Int32.ofNat n))] 13 st51 ?_
 refine own_ls #[.val (.ref sb), .val (.ref st), .val (.int (Int32.ofNat n))] 14 (fun _ q => XS.istoreN X51.here hx rfl (hb hby dj68m22_13) rfl (l' := #[.val (.ref sb), .val (.ref st), .val (.int (Int32.ofNat n))]) rfl q) ?_
 refine own_tp (.ref sb) 15 (fun _ q => XS.aloadN X51.here hx rfl (hb hby dj68m22_14) rfl rfl q) ?_
 refine own_tp (.ref sb) 16 (fun _ q => XS.aloadN X51.here hx rfl (hb hby dj68m22_15) rfl rfl q) ?_
 obtain ⟨T52, X52, e52, st52⟩ := getF X51 hx hZ hown (host := "") (Or.inl (w 106 rfl)) Via.refl eq51 B0.2.2.2.1 (g := (mkF m 16 #[.val (.ref sb), .val (.ref st), .val (.int (Int32.ofNat n))] [(.ref sb), (.ref sb)])) rfl rfl (hb hby dj68m22_16)
 refine own_t1 (.int (Int32.ofNat k)) 19 st52 ?_
 refine own_tp (.int (Int32.ofNat n)) 20 (fun _ q => XS.iloadN X52.here hx rfl (hb hby dj68m22_19) rfl q) ?_
 refine own_t2 (.int ((Int32.ofNat k) + (Int32.ofNat n))) 21 (fun _ q => XS.iadd X52.here hx rfl (hb hby dj68m22_20) rfl q) ?_
 rw [← Int32.ofNat_add]
 obtain ⟨cq53, kq53, q53a, q53b, q53c⟩ := isOf hZ e52 B0.1
 obtain ⟨_, _, ⟨T53, L53, k53, n53⟩, -, X53, ⟨Lc53, hQ53, l53, y53, z53⟩, st53⟩ := X52.virtualBack hx (y := own_M23) (z := own_M23) hown (mvT hZ (w 108 rfl)) (mvT hZ (own_decl (w 109 rfl) (w 112 rfl))) (notFace_of_selects (args := #[]) (mvT hZ (w 111 rfl))) (mvT hZ (w 111 rfl)) (mvT hZ (w 109 rfl)) (by decide) (backOf (W := 0) (rm40 l Z a0 hw [] sb vb kv ts cap k n h0 n0 Z0 gs gv hsv (by omega) (by omega) hg B0 G1 US O0) hZ (w 112 rfl) (w 86 rfl) (by decide) (by decide)) q53a q53c (g := (mkF m 21 #[.val (.ref sb), .val (.ref st), .val (.int (Int32.ofNat n))] [(.int (Int32.ofNat (k + n))), (.ref sb)])) rfl (by rw [hml]; rfl) (Steps.refl _) (argsL := [(.int (Int32.ofNat (k + n)))]) (rest := []) (lenOf pd12 rfl) rfl (by show 2 * 0 + _ ≤ _; exact Nat.le_of_eq rfl) (hb hby dj68m22_21) (fun _ _ => ⟨rfl, e52, (by decide : 0 + 0 ≤ _), (by decide : 0 + 0 ≤ _)⟩)
 dsimp only [Pt.U, Pt.locs, Pt.cells, Pt.slots] at X53 l53 y53 z53 st53 hQ53
 subst l53 y53 z53
 obtain ⟨rfl, Nq53, eq53⟩ := hQ53
 have N53 := Fr.app N51 Nq53
 refine own_csR [] 24 st53 ?_
 refine own_tp (.ref sb) 25 (fun _ q => XS.aloadN X53.here hx rfl (hb hby dj68m22_24) rfl rfl q) ?_
 refine own_tp (.ref sb) 26 (fun _ q => XS.aloadN X53.here hx rfl (hb hby dj68m22_25) rfl rfl q) ?_
 obtain ⟨T54, X54, e54, st54⟩ := getF X53 hx hZ hown (host := "") (Or.inl (w 106 rfl)) Via.refl eq53 B0.2.2.2.1 (g := (mkF m 26 #[.val (.ref sb), .val (.ref st), .val (.int (Int32.ofNat n))] [(.ref sb), (.ref sb)])) rfl rfl (hb hby dj68m22_26)
 refine own_t1 (.int (Int32.ofNat k)) 29 st54 ?_
 refine own_tp (.ref st) 30 (fun _ q => XS.aloadN X54.here hx rfl (hb hby dj68m22_29) rfl rfl q) ?_
 obtain ⟨cq55, kq55, q55a, q55b, q55c⟩ := isOf hZ e54 B0.1
 obtain ⟨_, _, ⟨T55, L55, k55, n55⟩, -, X55, ⟨Lc55, hQ55, l55, y55, z55⟩, st55⟩ := X54.virtualBack hx (y := own_M26) (z := own_M26) hown (mvT hZ (w 139 rfl)) (mvT hZ (own_decl (w 140 rfl) (w 143 rfl))) (notFace_of_selects (args := #[]) (mvT hZ (w 142 rfl))) (mvT hZ (w 142 rfl)) (mvT hZ (w 140 rfl)) (by decide) (backOf (W := 0) (rm37 l Z a0 hw [] sb vb kv ts cap k st sv ks ds n h0 n0 Z0 gs gv hsv (by omega) (by omega) n1 n2 n3 n4 B0 D0 hds hd (by omega) G1 US O0 G3 rG3 Sf) hZ (w 143 rfl) (w 86 rfl) (by decide) (by decide)) q55a q55c (g := (mkF m 30 #[.val (.ref sb), .val (.ref st), .val (.int (Int32.ofNat n))] [(.ref st), (.int (Int32.ofNat k)), (.ref sb)])) rfl (by rw [hml]; rfl) (Steps.refl _) (argsL := [(.int (Int32.ofNat k)), (.ref st)]) (rest := []) (lenOf pd17 rfl) rfl (by show 2 * 0 + _ ≤ _; exact Nat.le_of_eq rfl) (hb hby dj68m22_30) (fun _ _ => ⟨rfl, e54, (by decide : 0 + 0 ≤ _), (by decide : 0 + 0 ≤ _)⟩)
 dsimp only [Pt.U, Pt.locs, Pt.cells, Pt.slots] at X55 l55 y55 z55 st55 hQ55
 subst l55 y55 z55
 obtain ⟨rfl, Nq55, Kp55, B55⟩ := hQ55
 have N55 := Fr.app N53 Nq55
 have O55 := Old.keep O0 Kp55 (allS gs (allS gv all0))
 have Z55 : n0 ≤ T55.heap.size := Nat.le_trans Z0 Kp55.1
 have K55 : Keep h0 T55.heap [sb, vb] := Keep.trans (Keep.refl h0 [sb, vb]) Kp55 (allS (Or.inl (List.mem_of_getElem? (i := 0) rfl)) (allS (Or.inl (List.mem_of_getElem? (i := 1) rfl)) all0))
 refine own_csR [] 33 st55 ?_
 refine own_tp (.ref sb) 34 (fun _ q => XS.aloadN X55.here hx rfl (hb hby dj68m22_33) rfl rfl q) ?_
 refine own_tp (.ref sb) 35 (fun _ q => XS.dup X55.here hx rfl (hb hby dj68m22_34) rfl rfl q) ?_
 obtain ⟨T56, X56, e56, st56⟩ := getF X55 hx hZ hown (host := "") (Or.inl (w 106 rfl)) Via.refl rfl B55.2.2.2.1 (g := (mkF m 35 #[.val (.ref sb), .val (.ref st), .val (.int (Int32.ofNat n))] [(.ref sb), (.ref sb)])) rfl rfl (hb hby dj68m22_35)
 refine own_t1 (.int (Int32.ofNat k)) 38 st56 ?_
 refine own_tp (.int (Int32.ofNat n)) 39 (fun _ q => XS.iloadN X56.here hx rfl (hb hby dj68m22_38) rfl q) ?_
 refine own_t2 (.int ((Int32.ofNat k) + (Int32.ofNat n))) 40 (fun _ q => XS.iadd X56.here hx rfl (hb hby dj68m22_39) rfl q) ?_
 rw [← Int32.ofNat_add]
 obtain ⟨T57, h57, X57, e57, W57, st57⟩ := putF X56 hx hZ hown (host := "") (Or.inl (w 106 rfl)) Via.refl e56 B55.2.2.2.1 B55.1 (Or.inl (w 107 rfl)) (w 77 rfl) (ty := .int) (by decide) rfl rfl (g := (mkF m 40 #[.val (.ref sb), .val (.ref st), .val (.int (Int32.ofNat n))] [(.int (Int32.ofNat (k + n))), (.ref sb)])) rfl rfl (hb hby dj68m22_40)
 have Fw57 := B55.2.2.2.1.same W57
 have N57 := Fr.snoc X57 N55 gs
 have O57 := Old.wr O55 W57 gs
 have K57 : Keep h0 h57 [sb, vb] := K55.wr W57 (Or.inl (List.mem_of_getElem? (i := 0) rfl))
 have Z57 : n0 ≤ h57.size := Nat.le_trans Z55 (Nat.le_of_eq W57.size.symm)
 refine own_d2 43 st57 ?_
 refine own_tp (.ref sb) 44 (fun _ q => XS.aloadN X57.here hx rfl (hb hby dj68m22_43) rfl rfl q) ?_
 have f58 := (B55.1.wr W57)
 have f59 := (B55.2.1.other W57 (Or.inr (slot_ne (Or.inl (w 91 rfl)) (Or.inl (w 107 rfl)) (by decide) (t := (.array .byte)) (t' := .int) (by decide) (by decide))))
 have f60 := (B55.2.2.1.other W57 (Or.inr (slot_ne (Or.inl (w 93 rfl)) (Or.inl (w 107 rfl)) (by decide) (t := .byte) (t' := .int) (by decide) (by decide))))
 have f61 := (B55.2.2.2.2.1.other W57 (Or.inr (slot_ne (Or.inl (w 272 rfl)) (Or.inl (w 107 rfl)) (by decide) (t := .boolean) (t' := .int) (by decide) (by decide))))
 have f62 := (B55.2.2.2.2.2.other W57 (Ne.symm hsv))
 exact own_retR X57 hx hrt (hb hby dj68m22_44) rfl rfl hlk (by decide) (by decide) e57 (⟨rfl, N57, K57, ⟨f58, f59, f60, Fw57, f61, f62⟩⟩)

def Q42 (Z : State) (sb vb : Addr) (kv : ClassId) (ts : List Int32) (cap k n : Nat) (h0 : Heap) (n0 : Nat) (v : Option Value) (h : Heap) (L : List Loc) : Prop := v = some (.ref sb) ∧ Fr n0 L ∧ Keep h0 h [sb, vb] ∧ own_B Z h sb vb kv (0 : Int32) (Int32.ofNat (k + n)) (Int32.ofNat cap) (own_A cap (own_fL (ts.take (k + n))))

theorem rm42 (l : Launch) (Z : State) (a0 : Array Value) (hw : own_HW a0 Z) (ws : List Jvm.Cond) (sb vb : Addr) (kv : ClassId) (ts : List Int32) (cap k : Nat) (st sv : Addr) (ks : ClassId) (ds : List Int32) (n : Nat) (h0 : Heap) (n0 : Nat) (Z0 : n0 ≤ h0.size) (gs : n0 ≤ sb) (gv : n0 ≤ vb) (hsv : sb ≠ vb) (hcap : cap ≤ 150) (hkc : k ≤ cap) (n1 : st ≠ sb) (n2 : sv ≠ sb) (n3 : st ≠ vb) (n4 : sv ≠ vb) (B0 : own_B Z h0 sb vb kv (0 : Int32) (Int32.ofNat k) (Int32.ofNat cap) (own_A cap (own_fL (ts.take k)))) (D0 : own_D Z h0 st sv ks (0 : Int32) (Int32.ofNat n) (own_lows ds)) (hds : ds.length = n) (hd : ∀ j, j < n → ds.getD j 0 = ts.getD (k + j) 0) (hg : k + n ≤ cap) (G1 : Int32) (US : own_US Z G1) (O0 : Old Z n0 h0) (G3 : Value) (rG3 : G3.isRef = true) (Sf : own_SF Z G3) :
  own_Met l own_M28 jdk_67_method_7_code 2 (some (.object "java/lang/StringBuilder")) ws own_R_4_0_0_87 Z #[(.ref sb), (.ref st)] h0 (Q42 Z sb vb kv ts cap k n h0 n0) := by
 refine own_enter #[.val (.ref sb), .val (.ref st)] (plainFor_of_name pn_java_lang_StringBuilder) (fun m => ef_RR_2 m sb st) ?_
 intro p e s m below meth c s₁ hx hby hml hown hnm hZ hrt hlk X0 e0
 have w := @own_w _ _ hw
 have N0 := Fr.nil n0
 refine own_tp (.ref sb) 1 (fun _ q => XS.aloadN X0.here hx rfl (hb hby dj67m7_0) rfl rfl q) ?_
 refine own_tp (.ref st) 2 (fun _ q => XS.aloadN X0.here hx rfl (hb hby dj67m7_1) rfl rfl q) ?_
 obtain ⟨_, _, ⟨T51, L51, k51, n51⟩, -, X51, ⟨Lc51, hQ51, l51, y51, z51⟩, st51⟩ := superBack X0 hx hZ (K := "java/lang/StringBuilder") (y := own_M27) hown (w 100 rfl) (own_same (w 103 rfl) (w 111 rfl) rfl (by decide)) (w 101 rfl) (w 102 rfl) (by decide) (backOf (W := 0) (rm41 l Z a0 hw [] sb vb kv ts cap k st sv ks ds n h0 n0 Z0 gs gv hsv (by omega) (by omega) n1 n2 n3 n4 B0 D0 hds hd hg G1 US O0 G3 rG3 Sf) hZ (w 104 rfl) (w 86 rfl) (by decide) (by decide)) e0 (Ins.self B0.1) (g := (mkF m 2 #[.val (.ref sb), .val (.ref st)] [(.ref st), (.ref sb)])) rfl (by rw [hml]; rfl) (w 104 rfl) (argsL := [(.ref st)]) (rest := []) (lenOf pd18 rfl) rfl (by show 2 * 0 + _ ≤ _; exact Nat.le_of_eq rfl) (hb hby dj67m7_2) (fun _ _ => ⟨rfl, e0, (by decide : 0 + 0 ≤ _), (by decide : 0 + 0 ≤ _)⟩)
 dsimp only [Pt.U, Pt.locs, Pt.cells, Pt.slots] at X51 l51 y51 z51 st51 hQ51
 subst l51 y51 z51
 obtain ⟨rfl, Nq51, Kp51, rest51⟩ := hQ51
 refine own_csR [(.ref sb)] 5 st51 ?_
 refine own_d1 6 (fun _ q => XS.pop X51.here hx rfl (hb hby dj67m7_5) rfl rfl q) ?_
 refine own_tp (.ref sb) 7 (fun _ q => XS.aloadN X51.here hx rfl (hb hby dj67m7_6) rfl rfl q) ?_
 exact own_retR X51 hx hrt (hb hby dj67m7_7) rfl rfl hlk (by decide) (by decide) rfl (⟨rfl, Fr.app N0 Nq51, Kp51, rest51⟩)

def Q43  (h0 : Heap) (n0 : Nat) (v : Option Value) (h : Heap) (L : List Loc) : Prop := v = some (.int (1 : Int32)) ∧ Fr n0 L ∧ h = h0

theorem rm43 (l : Launch) (Z : State) (a0 : Array Value) (hw : own_HW a0 Z) (ws : List Jvm.Cond) (st : Addr) (h0 : Heap) (n0 : Nat) (E1 : Exa Z h0 st "java/lang/String") (C1 : Fld Z h0 st "java/lang/String" "coder" "B" (.int (1 : Int32))) (G1 : Int32) (US : own_US Z G1) (O0 : Old Z n0 h0) :
  own_Met l own_M12 jdk_42_method_152_code 1 (some .byte) ws own_R_0_0_0_0 Z #[(.ref st)] h0 (Q43 h0 n0) := by
 refine own_enter #[.val (.ref st)] (plainFor_of_name pn_java_lang_String) (fun m => ef_R_1 m st) ?_
 intro p e s m below meth c s₁ hx hby hml hown hnm hZ hrt hlk X0 e0
 have w := @own_w _ _ hw
 have N0 := Fr.nil n0
 obtain ⟨T51, X51, e51, st51⟩ := getS2 X0 hx hZ hown (host := "") (Or.inl (w 25 rfl)) Via.refl e0 (US.2.1.ext O0.2) (g := (mkF m 0 #[.val (.ref st)] [])) rfl (hb hby dj42m152_0)
 refine own_tp (.int G1) 3 st51 ?_
 refine own_d1 6 (fun _ q => XS.ifNo X51.here hx rfl (hb hby dj42m152_3) rfl ((if0 _ _).trans (feq US.1).1) q) ?_
 refine own_tp (.ref st) 7 (fun _ q => XS.aloadN X51.here hx rfl (hb hby dj42m152_6) rfl rfl q) ?_
 obtain ⟨T52, X52, e52, st52⟩ := getF X51 hx hZ hown (host := "") (Or.inl (w 23 rfl)) Via.refl e51 C1 (g := (mkF m 7 #[.val (.ref st)] [(.ref st)])) rfl rfl (hb hby dj42m152_7)
 refine own_t1 (.int (1 : Int32)) 10 st52 ?_
 refine own_d0 14 (fun _ q => XS.goto X52.here hx rfl (pc0 := 10) (pc' := 14) rfl (hb hby dj42m152_10) (by decide) (by decide) q) ?_
 exact own_retN (t := .byte) X52 hx hrt (hb hby dj42m152_14) (by simp) hlk (by decide) (by decide) e52 (⟨rfl, N0, rfl⟩)

def Q44 (z : Int32) (h0 : Heap) (n0 : Nat) (v : Option Value) (h : Heap) (L : List Loc) : Prop := v = some (.int z) ∧ Fr n0 L ∧ h = h0

theorem rm44 (l : Launch) (Z : State) (a0 : Array Value) (hw : own_HW a0 Z) (ws : List Jvm.Cond) (st sv : Addr) (ks : ClassId) (ds : List Int32) (n : Nat) (h0 : Heap) (n0 : Nat) (hn : n ≤ 1000) (D0 : own_D Z h0 st sv ks (1 : Int32) (Int32.ofNat (2 * n)) (own_wide ds)) (G1 : Int32) (US : own_US Z G1) (O0 : Old Z n0 h0) :
  own_Met l own_M14 jdk_42_method_54_code 1 (some .int) ws own_R_1_0_0_13 Z #[(.ref st)] h0 (Q44 (Int32.ofNat n) h0 n0) := by
 refine own_enter #[.val (.ref st)] (plainFor_of_name pn_java_lang_String) (fun m => ef_R_1 m st) ?_
 intro p e s m below meth c s₁ hx hby hml hown hnm hZ hrt hlk X0 e0
 have w := @own_w _ _ hw
 have N0 := Fr.nil n0
 refine own_tp (.ref st) 1 (fun _ q => XS.aloadN X0.here hx rfl (hb hby dj42m54_0) rfl rfl q) ?_
 obtain ⟨T51, X51, e51, st51⟩ := getF X0 hx hZ hown (host := "") (Or.inl (w 22 rfl)) Via.refl e0 D0.2.2.1 (g := (mkF m 1 #[.val (.ref st)] [(.ref st)])) rfl rfl (hb hby dj42m54_1)
 refine own_t1 (.ref sv) 4 st51 ?_
 obtain ⟨cl52, Ar52, -, Sz52, Nn52, -, -⟩ := (id D0.2.2.2)
 refine own_t1 (.int (Int32.ofNat (2 * n))) 5 (fun t q => X51.arraylength hx (by rw [e51]; exact Ar52.1) (State.isArrayOf_alike hZ.alike Ar52.2.1) (g := (mkF m 4 #[.val (.ref st)] [(.ref sv)])) rfl rfl (hb hby dj42m54_4) _ (by rw [len_of Sz52 Nn52]; exact q)) ?_
 refine own_tp (.ref st) 6 (fun _ q => XS.aloadN X51.here hx rfl (hb hby dj42m54_5) rfl rfl q) ?_
 obtain ⟨cq53, kq53, q53a, q53b, q53c⟩ := isOf hZ e51 D0.1
 obtain ⟨_, _, ⟨T53, L53, k53, n53⟩, -, X53, ⟨Lc53, hQ53, l53, y53, z53⟩, st53⟩ := X51.virtualBack hx (y := own_M12) (z := own_M12) hown (mvT hZ (w 64 rfl)) (mvT hZ (w 65 rfl)) (notFace_of_selects (args := #[]) (mvT hZ (w 67 rfl))) (mvT hZ (w 67 rfl)) (mvT hZ (w 66 rfl)) (by decide) (backOf (W := 1) (rm43 l Z a0 hw [] st h0 n0 D0.1 D0.2.1 G1 US O0) hZ (w 68 rfl) (w 5 rfl) (by decide) (by decide)) q53a q53c (g := (mkF m 6 #[.val (.ref st)] [(.ref st), (.int (Int32.ofNat (2 * n)))])) rfl (by rw [hml]; rfl) (Steps.refl _) (argsL := []) (rest := [(.int (Int32.ofNat (2 * n)))]) (lenOf pd8 rfl) rfl (by show 2 * 0 + _ ≤ _; exact Nat.le_of_eq rfl) (hb hby dj42m54_6) (fun _ _ => ⟨rfl, e51, (by decide : 0 + 0 ≤ _), (by decide : 0 + 0 ≤ _)⟩)
 dsimp only [Pt.U, Pt.locs, Pt.cells, Pt.slots] at X53 l53 y53 z53 st53 hQ53
 subst l53 y53 z53
 obtain ⟨rfl, Nq53, eq53⟩ := hQ53
 have N53 := Fr.app N0 Nq53
 refine own_csR [(.int (1 : Int32)), (.int (Int32.ofNat (2 * n)))] 9 st53 ?_
 refine own_t2 (.int ((Int32.ofNat (2 * n)) >>> ((1 : Int32) &&& 31))) 10 (fun _ q => XS.ishr X53.here hx rfl (hb hby dj42m54_9) rfl q) ?_
 exact own_retI X53 hx hrt (hb hby dj42m54_10) hlk (by decide) (by decide) eq53 (⟨by rw [own_shr1 hn], N53, rfl⟩)

def Q45  (h0 : Heap) (n0 : Nat) (v : Option Value) (h : Heap) (L : List Loc) : Prop := v = some (.int (1 : Int32)) ∧ Fr n0 L ∧ h = h0

theorem rm45 (l : Launch) (Z : State) (a0 : Array Value) (hw : own_HW a0 Z) (ws : List Jvm.Cond) (sb vb : Addr) (kv : ClassId) (ts : List Int32) (cap k : Nat) (h0 : Heap) (n0 : Nat) (Z0 : n0 ≤ h0.size) (gs : n0 ≤ sb) (gv : n0 ≤ vb) (hsv : sb ≠ vb) (hcap : cap ≤ 150) (hkc : k ≤ cap) (B0 : own_B Z h0 sb vb kv (0 : Int32) (Int32.ofNat k) (Int32.ofNat cap) (own_A cap (own_fL (ts.take k)))) (G1 : Int32) (US : own_US Z G1) (O0 : Old Z n0 h0) :
  own_Met l own_M29 jdk_68_method_68_code 1 (some .boolean) ws own_R_0_0_0_0 Z #[(.ref sb)] h0 (Q45 h0 n0) := by
 refine own_enter #[.val (.ref sb)] (plainFor_of_name pn_java_lang_AbstractStringBuilder) (fun m => ef_R_1 m sb) ?_
 intro p e s m below meth c s₁ hx hby hml hown hnm hZ hrt hlk X0 e0
 have w := @own_w _ _ hw
 have N0 := Fr.nil n0
 obtain ⟨T51, X51, e51, st51⟩ := getS2 X0 hx hZ hown (host := "") (Or.inl (w 89 rfl)) Via.refl e0 (US.2.1.ext O0.2) (g := (mkF m 0 #[.val (.ref sb)] [])) rfl (hb hby dj68m68_0)
 refine own_tp (.int G1) 3 st51 ?_
 refine own_d1 6 (fun _ q => XS.ifNo X51.here hx rfl (hb hby dj68m68_3) rfl ((if0 _ _).trans (feq US.1).1) q) ?_
 refine own_tp (.ref sb) 7 (fun _ q => XS.aloadN X51.here hx rfl (hb hby dj68m68_6) rfl rfl q) ?_
 obtain ⟨T52, X52, e52, st52⟩ := getF X51 hx hZ hown (host := "") (Or.inl (w 92 rfl)) Via.refl e51 B0.2.2.1 (g := (mkF m 7 #[.val (.ref sb)] [(.ref sb)])) rfl rfl (hb hby dj68m68_7)
 refine own_t1 (.int (0 : Int32)) 10 st52 ?_
 refine own_d1 13 (fun _ q => XS.ifNo X52.here hx rfl (hb hby dj68m68_10) rfl ((if0 _ _).trans (teq (by decide : (0 : Int32) = (0 : Int32))).2) q) ?_
 refine own_tp (.int (1 : Int32)) 14 (fun _ q => XS.iconst X52.here hx rfl (hb hby dj68m68_13) q) ?_
 refine own_d0 18 (fun _ q => XS.goto X52.here hx rfl (pc0 := 14) (pc' := 18) rfl (hb hby dj68m68_14) (by decide) (by decide) q) ?_
 exact own_retN (t := .boolean) X52 hx hrt (hb hby dj68m68_18) (by simp) hlk (by decide) (by decide) e52 (⟨rfl, N0, rfl⟩)

def Q301 (z : Int32) (h0 : Heap) (n0 : Nat) (v : Option Value) (h : Heap) (L : List Loc) : Prop := v = some (.int z) ∧ Fr n0 L ∧ h = h0

theorem rm301 (l : Launch) (Z : State) (a0 : Array Value) (hw : own_HW a0 Z) (ws : List Jvm.Cond) (nn : Nat) (h0 : Heap) (n0 : Nat) (hnn : nn ≤ 150) :
  own_Met l own_M30 jdk_52_method_3_code 1 (some .int) ws own_R_0_0_0_0 Z #[(.int (Int32.ofNat nn))] h0 (Q301 (Int32.ofNat (2 * nn)) h0 n0) := by
 refine own_enter #[.val (.int (Int32.ofNat nn))] (plainFor_of_name pn_java_lang_StringUTF16) (fun m => ef_I_1 m (Int32.ofNat nn)) ?_
 intro p e s m below meth c s₁ hx hby hml hown hnm hZ hrt hlk X0 e0
 have w := @own_w _ _ hw
 have N0 := Fr.nil n0
 refine own_tp (.int (Int32.ofNat nn)) 1 (fun _ q => XS.iloadN X0.here hx rfl (hb hby dj52m3_0) rfl q) ?_
 refine own_d1 12 (fun _ q => XS.ifYes X0.here hx rfl (pc0 := 1) (pc' := 12) rfl (hb hby dj52m3_1) rfl ((if0 _ _).trans (flt (own_n0 (by omega))).2.1) (by decide) (by decide) q) ?_
 refine own_tp (.int (Int32.ofNat nn)) 13 (fun _ q => XS.iloadN X0.here hx rfl (hb hby dj52m3_12) rfl q) ?_
 refine own_tp (.int (1073741823 : Int32)) 15 (fun _ q => X0.ldcInt hx hown (mvT hZ (w 213 rfl)) (g := (mkF m 13 #[.val (.int (Int32.ofNat nn))] [(.int (Int32.ofNat nn))])) rfl (hb hby dj52m3_13) _ q) ?_
 refine own_d2 55 (fun _ q => XS.icmpYes X0.here hx rfl (pc0 := 15) (pc' := 55) rfl (hb hby dj52m3_15) rfl (tlt (own_nbl hnn)).1 (by decide) (by decide) q) ?_
 refine own_tp (.int (Int32.ofNat nn)) 56 (fun _ q => XS.iloadN X0.here hx rfl (hb hby dj52m3_55) rfl q) ?_
 refine own_tp (.int (1 : Int32)) 57 (fun _ q => XS.iconst X0.here hx rfl (hb hby dj52m3_56) q) ?_
 refine own_t2 (.int ((Int32.ofNat nn) <<< ((1 : Int32) &&& 31))) 58 (fun _ q => XS.ishl X0.here hx rfl (hb hby dj52m3_57) rfl q) ?_
 exact own_retI X0 hx hrt (hb hby dj52m3_58) hlk (by decide) (by decide) e0 (⟨by rw [own_shl1 (by omega)], N0, rfl⟩)

def Q302 (Z : State) (nn : Nat) (h0 : Heap) (n0 : Nat) (v : Option Value) (h : Heap) (L : List Loc) : Prop := ∃ (b : Addr) (k : ClassId), v = some (.ref b) ∧ Fr n0 L ∧ Keep h0 h [] ∧ n0 ≤ b ∧ h0.size ≤ b ∧ Arv Z h b k .byte (Int32.ofNat (2 * nn)) (List.replicate (2 * nn) (.int (0 : Int32))) (.int (0 : Int32))

theorem rm302 (l : Launch) (Z : State) (a0 : Array Value) (hw : own_HW a0 Z) (ws : List Jvm.Cond) (nn : Nat) (h0 : Heap) (n0 : Nat) (hnn : nn ≤ 150) (Z0 : n0 ≤ h0.size) :
  own_Met l own_M31 jdk_52_method_2_code 1 (some (.array .byte)) ws own_R_1_1_300_12 Z #[(.int (Int32.ofNat nn))] h0 (Q302 Z nn h0 n0) := by
 refine own_enter #[.val (.int (Int32.ofNat nn))] (plainFor_of_name pn_java_lang_StringUTF16) (fun m => ef_I_1 m (Int32.ofNat nn)) ?_
 intro p e s m below meth c s₁ hx hby hml hown hnm hZ hrt hlk X0 e0
 have w := @own_w _ _ hw
 have N0 := Fr.nil n0
 refine own_tp (.int (Int32.ofNat nn)) 1 (fun _ q => XS.iloadN X0.here hx rfl (hb hby dj52m2_0) rfl q) ?_
 obtain ⟨_, _, ⟨T51, L51, k51, n51⟩, -, X51, ⟨Lc51, hQ51, l51, y51, z51⟩, st51⟩ := Jvm.LawKit.callS X0 hx (y := own_M30) hown (mvT hZ (w 210 rfl)) (mvT hZ (w 211 rfl)) (mvT hZ (w 28 rfl)) (mvT hZ (w 212 rfl)) (by decide) (backOf (W := 0) (rm301 l Z a0 hw [] nn h0 n0 hnn) hZ (w 212 rfl) (w 28 rfl) (by decide) (by decide)) (g := (mkF m 1 #[.val (.int (Int32.ofNat nn))] [(.int (Int32.ofNat nn))])) rfl (by rw [hml]; rfl) (argsL := [(.int (Int32.ofNat nn))]) (rest := []) (lenOf pd11 rfl) rfl (by show 2 * 0 + _ ≤ _; exact Nat.le_of_eq rfl) (hb hby dj52m2_1) (fun _ _ => ⟨rfl, e0, (by decide : 0 + 0 ≤ _), (by decide : 0 + 0 ≤ _)⟩)
 dsimp only [Pt.U, Pt.locs, Pt.cells, Pt.slots] at X51 l51 y51 z51 st51 hQ51
 subst l51 y51 z51
 obtain ⟨rfl, Nq51, eq51⟩ := hQ51
 have N51 := Fr.app N0 Nq51
 refine own_t1 (.int (Int32.ofNat (2 * nn))) 4 st51 ?_
 obtain ⟨T52, h52, k52, X52, e52, E52, A52, st52⟩ := newP X51 hx hZ (w 17 rfl) eq51 (g := (mkF m 4 #[.val (.int (Int32.ofNat nn))] [(.int (Int32.ofNat (2 * nn)))])) rfl (hb hby dj52m2_4) rfl (own_ofn (by omega)).1 (cap := 300) (by rw [(own_ofn (by omega)).2]; omega) (by decide) (by decide) (by decide)
 obtain ⟨b52, g52⟩ : ∃ z, z = h0.size := ⟨_, rfl⟩
 rw [← g52] at A52 st52
 have V52 : Arv Z h52 b52 k52 .byte (Int32.ofNat (2 * nn)) (List.replicate (2 * nn) (.int (0 : Int32))) (.int (0 : Int32)) := (Arv.new A52 (own_ofn (by omega)).1).pad (pad_rep [] (.int (0 : Int32)) (2 * nn))
 have ge52 : n0 ≤ b52 := Nat.le_trans Z0 (Nat.le_of_eq g52.symm)
 have sz52 : h0.size ≤ b52 := Nat.le_trans (Keep.refl h0 []).1 (Nat.le_of_eq g52.symm)
 have K52 : Keep h0 h52 [] := (Keep.refl h0 []).ext E52
 have Z52 : n0 ≤ h52.size := Nat.le_trans Z0 E52.1
 refine own_t1 (.ref b52) 6 st52 ?_
 exact own_retR X52 hx hrt (hb hby dj52m2_6) rfl rfl hlk (by decide) (by decide) e52 (⟨b52, _, rfl, N51, K52, ge52, sz52, V52⟩)

def Q46 (z : Int32) (h0 : Heap) (n0 : Nat) (v : Option Value) (h : Heap) (L : List Loc) : Prop := v = some (.int z) ∧ Fr n0 L ∧ h = h0

theorem rm46 (l : Launch) (Z : State) (a0 : Array Value) (hw : own_HW a0 Z) (ws : List Jvm.Cond) (pz nz mz : Nat) (G3 : Value) (h0 : Heap) (n0 : Nat) (rG3 : G3.isRef = true) (hp' : pz + nz ≤ mz) (hm' : mz ≤ 150) :
  own_Met l own_M32 jdk_41_method_13_code 4 (some .int) ws own_R_0_0_0_0 Z #[(.int (Int32.ofNat pz)), (.int (Int32.ofNat nz)), (.int (Int32.ofNat mz)), G3] h0 (Q46 (Int32.ofNat pz) h0 n0) := by
 refine own_enter #[.val (.int (Int32.ofNat pz)), .val (.int (Int32.ofNat nz)), .val (.int (Int32.ofNat mz)), .val G3] (plainFor_of_name pn_jdk_internal_util_Preconditions) (fun m => ef_IIIV_4 m (Int32.ofNat pz) (Int32.ofNat nz) (Int32.ofNat mz) G3 rG3) ?_
 intro p e s m below meth c s₁ hx hby hml hown hnm hZ hrt hlk X0 e0
 have w := @own_w _ _ hw
 have N0 := Fr.nil n0
 refine own_tp (.int (Int32.ofNat mz)) 1 (fun _ q => XS.iloadN X0.here hx rfl (hb hby dj41m13_0) rfl q) ?_
 refine own_tp (.int (Int32.ofNat pz)) 2 (fun _ q => XS.iloadN X0.here hx rfl (hb hby dj41m13_1) rfl q) ?_
 refine own_t2 (.int ((Int32.ofNat mz) ||| (Int32.ofNat pz))) 3 (fun _ q => XS.ior X0.here hx rfl (hb hby dj41m13_2) rfl q) ?_
 refine own_tp (.int (Int32.ofNat nz)) 4 (fun _ q => XS.iloadN X0.here hx rfl (hb hby dj41m13_3) rfl q) ?_
 refine own_t2 (.int (((Int32.ofNat mz) ||| (Int32.ofNat pz)) ||| (Int32.ofNat nz))) 5 (fun _ q => XS.ior X0.here hx rfl (hb hby dj41m13_4) rfl q) ?_
 refine own_d1 8 (fun _ q => XS.ifNo X0.here hx rfl (hb hby dj41m13_5) rfl ((if0 _ _).trans (flt (own_or3 (by omega) (by omega) (by omega))).1) q) ?_
 refine own_tp (.int (Int32.ofNat nz)) 9 (fun _ q => XS.iloadN X0.here hx rfl (hb hby dj41m13_8) rfl q) ?_
 refine own_tp (.int (Int32.ofNat mz)) 10 (fun _ q => XS.iloadN X0.here hx rfl (hb hby dj41m13_9) rfl q) ?_
 refine own_tp (.int (Int32.ofNat pz)) 11 (fun _ q => XS.iloadN X0.here hx rfl (hb hby dj41m13_10) rfl q) ?_
 refine own_t2 (.int ((Int32.ofNat mz) - (Int32.ofNat pz))) 12 (fun _ q => XS.isub X0.here hx rfl (hb hby dj41m13_11) rfl q) ?_
 refine own_d2 23 (fun _ q => XS.icmpYes X0.here hx rfl (pc0 := 12) (pc' := 23) rfl (hb hby dj41m13_12) rfl (flt (own_offc hp' (by omega))).2.2.2 (by decide) (by decide) q) ?_
 refine own_tp (.int (Int32.ofNat pz)) 24 (fun _ q => XS.iloadN X0.here hx rfl (hb hby dj41m13_23) rfl q) ?_
 exact own_retI X0 hx hrt (hb hby dj41m13_24) hlk (by decide) (by decide) e0 (⟨rfl, N0, rfl⟩)

def Q47 (z : Int32) (h0 : Heap) (n0 : Nat) (v : Option Value) (h : Heap) (L : List Loc) : Prop := v = some (.int z) ∧ Fr n0 L ∧ h = h0

theorem rm47 (l : Launch) (Z : State) (a0 : Array Value) (hw : own_HW a0 Z) (ws : List Jvm.Cond) (pz nz mz : Nat) (h0 : Heap) (n0 : Nat) (hp' : pz + nz ≤ mz) (hm' : mz ≤ 150) (O0 : Old Z n0 h0) (G3 : Value) (rG3 : G3.isRef = true) (Sf : own_SF Z G3) :
  own_Met l own_M33 jdk_42_method_157_code 3 (some .int) ws own_R_1_0_0_15 Z #[(.int (Int32.ofNat pz)), (.int (Int32.ofNat nz)), (.int (Int32.ofNat mz))] h0 (Q47 (Int32.ofNat pz) h0 n0) := by
 refine own_enter #[.val (.int (Int32.ofNat pz)), .val (.int (Int32.ofNat nz)), .val (.int (Int32.ofNat mz))] (plainFor_of_name pn_java_lang_String) (fun m => ef_III_3 m (Int32.ofNat pz) (Int32.ofNat nz) (Int32.ofNat mz)) ?_
 intro p e s m below meth c s₁ hx hby hml hown hnm hZ hrt hlk X0 e0
 have w := @own_w _ _ hw
 have N0 := Fr.nil n0
 refine own_tp (.int (Int32.ofNat pz)) 1 (fun _ q => XS.iloadN X0.here hx rfl (hb hby dj42m157_0) rfl q) ?_
 refine own_tp (.int (Int32.ofNat nz)) 2 (fun _ q => XS.iloadN X0.here hx rfl (hb hby dj42m157_1) rfl q) ?_
 refine own_tp (.int (Int32.ofNat mz)) 3 (fun _ q => XS.iloadN X0.here hx rfl (hb hby dj42m157_2) rfl q) ?_
 obtain ⟨T51, X51, e51, st51⟩ := getS2 X0 hx hZ hown (host := "") (Or.inl (w 241 rfl)) Via.refl e0 (Sf.ext O0.2) (g := (mkF m 3 #[.val (.int (Int32.ofNat pz)), .val (.int (Int32.ofNat nz)), .val (.int (Int32.ofNat mz))] [(.int (Int32.ofNat mz)), (.int (Int32.ofNat nz)), (.int (Int32.ofNat pz))])) rfl (hb hby dj42m157_3)
 refine own_tp G3 6 st51 ?_
 obtain ⟨_, _, ⟨T52, L52, k52, n52⟩, -, X52, ⟨Lc52, hQ52, l52, y52, z52⟩, st52⟩ := Jvm.LawKit.callS X51 hx (y := own_M32) hown (mvT hZ (w 268 rfl)) (mvT hZ (w 269 rfl)) (mvT hZ (w 242 rfl)) (mvT hZ (w 270 rfl)) (by decide) (backOf (W := 0) (rm46 l Z a0 hw [] pz nz mz G3 h0 n0 rG3 hp' hm') hZ (w 270 rfl) (w 242 rfl) (by decide) (by decide)) (g := (mkF m 6 #[.val (.int (Int32.ofNat pz)), .val (.int (Int32.ofNat nz)), .val (.int (Int32.ofNat mz))] [G3, (.int (Int32.ofNat mz)), (.int (Int32.ofNat nz)), (.int (Int32.ofNat pz))])) rfl (by rw [hml]; rfl) (argsL := [(.int (Int32.ofNat pz)), (.int (Int32.ofNat nz)), (.int (Int32.ofNat mz)), G3]) (rest := []) (lenOf pd1 rfl) rfl (by show 2 * 0 + _ ≤ _; exact Nat.le_of_eq rfl) (hb hby dj42m157_6) (fun _ _ => ⟨rfl, e51, (by decide : 0 + 0 ≤ _), (by decide : 0 + 0 ≤ _)⟩)
 dsimp only [Pt.U, Pt.locs, Pt.cells, Pt.slots] at X52 l52 y52 z52 st52 hQ52
 subst l52 y52 z52
 obtain ⟨rfl, Nq52, eq52⟩ := hQ52
 have N52 := Fr.app N0 Nq52
 refine own_cs [(.int (Int32.ofNat pz))] 9 st52 ?_
 exact own_retI X52 hx hrt (hb hby dj42m157_9) hlk (by decide) (by decide) eq52 (⟨rfl, N52, rfl⟩)

def Q48 (z : Int32) (h0 : Heap) (n0 : Nat) (v : Option Value) (h : Heap) (L : List Loc) : Prop := v = some (.int z) ∧ Fr n0 L ∧ h = h0

theorem rm48 (l : Launch) (Z : State) (a0 : Array Value) (hw : own_HW a0 Z) (ws : List Jvm.Cond) (b1 : Addr) (k2 : ClassId) (vs2 : List Value) (mz : Nat) (h0 : Heap) (n0 : Nat) (hm' : mz ≤ 150) (V2 : Arv Z h0 b1 k2 .byte (Int32.ofNat (2 * mz)) vs2 (.int (0 : Int32))) :
  own_Met l own_M5 jdk_52_method_6_code 1 (some .int) ws own_R_0_0_0_0 Z #[(.ref b1)] h0 (Q48 (Int32.ofNat mz) h0 n0) := by
 refine own_enter #[.val (.ref b1)] (plainFor_of_name pn_java_lang_StringUTF16) (fun m => ef_R_1 m b1) ?_
 intro p e s m below meth c s₁ hx hby hml hown hnm hZ hrt hlk X0 e0
 have w := @own_w _ _ hw
 have N0 := Fr.nil n0
 refine own_tp (.ref b1) 1 (fun _ q => XS.aloadN X0.here hx rfl (hb hby dj52m6_0) rfl rfl q) ?_
 obtain ⟨cl51, Ar51, -, Sz51, Nn51, -, -⟩ := (id V2)
 refine own_t1 (.int (Int32.ofNat (2 * mz))) 2 (fun t q => X0.arraylength hx (by rw [e0]; exact Ar51.1) (State.isArrayOf_alike hZ.alike Ar51.2.1) (g := (mkF m 1 #[.val (.ref b1)] [(.ref b1)])) rfl rfl (hb hby dj52m6_1) _ (by rw [len_of Sz51 Nn51]; exact q)) ?_
 refine own_tp (.int (1 : Int32)) 3 (fun _ q => XS.iconst X0.here hx rfl (hb hby dj52m6_2) q) ?_
 refine own_t2 (.int ((Int32.ofNat (2 * mz)) >>> ((1 : Int32) &&& 31))) 4 (fun _ q => XS.ishr X0.here hx rfl (hb hby dj52m6_3) rfl q) ?_
 exact own_retI X0 hx hrt (hb hby dj52m6_4) hlk (by decide) (by decide) e0 (⟨by rw [own_shr1 (by omega)], N0, rfl⟩)

def Q49  (h0 : Heap) (n0 : Nat) (v : Option Value) (h : Heap) (L : List Loc) : Prop := v = none ∧ Fr n0 L ∧ h = h0

theorem rm49 (l : Launch) (Z : State) (a0 : Array Value) (hw : own_HW a0 Z) (ws : List Jvm.Cond) (b1 : Addr) (k2 : ClassId) (vs2 : List Value) (pz nz mz : Nat) (h0 : Heap) (n0 : Nat) (hp' : pz + nz ≤ mz) (hm' : mz ≤ 150) (V2 : Arv Z h0 b1 k2 .byte (Int32.ofNat (2 * mz)) vs2 (.int (0 : Int32))) (O0 : Old Z n0 h0) (G3 : Value) (rG3 : G3.isRef = true) (Sf : own_SF Z G3) :
  own_Met l own_M34 jdk_52_method_94_code 3 none ws own_R_2_0_0_31 Z #[(.int (Int32.ofNat pz)), (.int (Int32.ofNat nz)), (.ref b1)] h0 (Q49 h0 n0) := by
 refine own_enter #[.val (.int (Int32.ofNat pz)), .val (.int (Int32.ofNat nz)), .val (.ref b1)] (plainFor_of_name pn_java_lang_StringUTF16) (fun m => ef_IIR_3 m (Int32.ofNat pz) (Int32.ofNat nz) b1) ?_
 intro p e s m below meth c s₁ hx hby hml hown hnm hZ hrt hlk X0 e0
 have w := @own_w _ _ hw
 have N0 := Fr.nil n0
 refine own_tp (.int (Int32.ofNat pz)) 1 (fun _ q => XS.iloadN X0.here hx rfl (hb hby dj52m94_0) rfl q) ?_
 refine own_tp (.int (Int32.ofNat nz)) 2 (fun _ q => XS.iloadN X0.here hx rfl (hb hby dj52m94_1) rfl q) ?_
 refine own_tp (.ref b1) 3 (fun _ q => XS.aloadN X0.here hx rfl (hb hby dj52m94_2) rfl rfl q) ?_
 obtain ⟨_, _, ⟨T51, L51, k51, n51⟩, -, X51, ⟨Lc51, hQ51, l51, y51, z51⟩, st51⟩ := Jvm.LawKit.callS X0 hx (y := own_M5) hown (mvT hZ (w 235 rfl)) (mvT hZ (w 236 rfl)) (mvT hZ (w 28 rfl)) (mvT hZ (w 237 rfl)) (by decide) (backOf (W := 2) (rm48 l Z a0 hw [] b1 _ _ mz h0 n0 hm' V2) hZ (w 237 rfl) (w 28 rfl) (by decide) (by decide)) (g := (mkF m 3 #[.val (.int (Int32.ofNat pz)), .val (.int (Int32.ofNat nz)), .val (.ref b1)] [(.ref b1), (.int (Int32.ofNat nz)), (.int (Int32.ofNat pz))])) rfl (by rw [hml]; rfl) (argsL := [(.ref b1)]) (rest := [(.int (Int32.ofNat nz)), (.int (Int32.ofNat pz))]) (lenOf pd2 rfl) rfl (by show 2 * 0 + _ ≤ _; exact Nat.le_of_eq rfl) (hb hby dj52m94_3) (fun _ _ => ⟨rfl, e0, (by decide : 0 + 0 ≤ _), (by decide : 0 + 0 ≤ _)⟩)
 dsimp only [Pt.U, Pt.locs, Pt.cells, Pt.slots] at X51 l51 y51 z51 st51 hQ51
 subst l51 y51 z51
 obtain ⟨rfl, Nq51, eq51⟩ := hQ51
 have N51 := Fr.app N0 Nq51
 refine own_t1 (.int (Int32.ofNat mz)) 6 st51 ?_
 obtain ⟨_, _, ⟨T52, L52, k52, n52⟩, -, X52, ⟨Lc52, hQ52, l52, y52, z52⟩, st52⟩ := Jvm.LawKit.callS X51 hx (y := own_M33) hown (mvT hZ (w 265 rfl)) (mvT hZ (w 266 rfl)) (mvT hZ (w 5 rfl)) (mvT hZ (w 267 rfl)) (by decide) (backOf (W := 0) (rm47 l Z a0 hw [] pz nz mz h0 n0 hp' hm' O0 G3 rG3 Sf) hZ (w 267 rfl) (w 5 rfl) (by decide) (by decide)) (g := (mkF m 6 #[.val (.int (Int32.ofNat pz)), .val (.int (Int32.ofNat nz)), .val (.ref b1)] [(.int (Int32.ofNat mz)), (.int (Int32.ofNat nz)), (.int (Int32.ofNat pz))])) rfl (by rw [hml]; rfl) (argsL := [(.int (Int32.ofNat pz)), (.int (Int32.ofNat nz)), (.int (Int32.ofNat mz))]) (rest := []) (lenOf pd13 rfl) rfl (by show 2 * 0 + _ ≤ _; exact Nat.le_of_eq rfl) (hb hby dj52m94_6) (fun _ _ => ⟨rfl, eq51, (by decide : 0 + 0 ≤ _), (by decide : 0 + 0 ≤ _)⟩)
 dsimp only [Pt.U, Pt.locs, Pt.cells, Pt.slots] at X52 l52 y52 z52 st52 hQ52
 subst l52 y52 z52
 obtain ⟨rfl, Nq52, eq52⟩ := hQ52
 have N52 := Fr.app N51 Nq52
 refine own_d2 9 st52 ?_
 refine own_d1 10 (fun _ q => XS.pop X52.here hx rfl (hb hby dj52m94_9) rfl rfl q) ?_
 exact own_retV X52 hx hrt (hb hby dj52m94_10) hlk (by decide) (by decide) eq52 (⟨rfl, N52, rfl⟩)

def Q303 (Z : State) (b1 : Addr) (k1 : ClassId) (i : Nat) (p1 : Int32) (vs1 : List Value) (h0 : Heap) (n0 : Nat) (v : Option Value) (h : Heap) (L : List Loc) : Prop := v = none ∧ Fr n0 L ∧ Keep h0 h [b1] ∧ Arv Z h b1 k1 .byte (Int32.ofNat vs1.length) ((vs1.set (2 * i) (.int (own_b0 p1))).set (2 * i + 1) (.int (own_b1 p1))) (.int (0 : Int32))

theorem rm303 (l : Launch) (Z : State) (a0 : Array Value) (hw : own_HW a0 Z) (ws : List Jvm.Cond) (b1 : Addr) (k1 : ClassId) (i : Nat) (p1 : Int32) (vs1 : List Value) (h0 : Heap) (n0 : Nat) (Z0 : n0 ≤ h0.size) (g1 : n0 ≤ b1) (hi : 2 * i + 1 < vs1.length) (hv : vs1.length ≤ 4000) (V1 : Arv Z h0 b1 k1 .byte (Int32.ofNat vs1.length) vs1 (.int (0 : Int32))) (G1 : Int32) (US : own_US Z G1) (O0 : Old Z n0 h0) :
  own_Met l own_M35 jdk_52_method_4_code 3 none ws own_R_0_0_0_0 Z #[(.ref b1), (.int (Int32.ofNat i)), (.int p1)] h0 (Q303 Z b1 k1 i p1 vs1 h0 n0) := by
 refine own_enter #[.val (.ref b1), .val (.int (Int32.ofNat i)), .val (.int p1)] (plainFor_of_name pn_java_lang_StringUTF16) (fun m => ef_RII_3 m b1 (Int32.ofNat i) p1) ?_
 intro p e s m below meth c s₁ hx hby hml hown hnm hZ hrt hlk X0 e0
 have w := @own_w _ _ hw
 have N0 := Fr.nil n0
 obtain ⟨T51, X51, e51, st51⟩ := getS2 X0 hx hZ hown (host := "") (Or.inl (w 217 rfl)) Via.refl e0 (US.2.2.1.ext O0.2) (g := (mkF m 0 #[.val (.ref b1), .val (.int (Int32.ofNat i)), .val (.int p1)] [])) rfl (hb hby dj52m4_0)
 refine own_tp (.int (1 : Int32)) 3 st51 ?_
 refine own_d1 28 (fun _ q => XS.ifYes X51.here hx rfl (pc0 := 3) (pc' := 28) rfl (hb hby dj52m4_3) rfl ((if0 _ _).trans (feq (by decide : ¬ ((1 : Int32) = (0 : Int32)))).2) (by decide) (by decide) q) ?_
 refine own_tp (.int (Int32.ofNat i)) 29 (fun _ q => XS.iloadN X51.here hx rfl (hb hby dj52m4_28) rfl q) ?_
 refine own_tp (.int (1 : Int32)) 30 (fun _ q => XS.iconst X51.here hx rfl (hb hby dj52m4_29) q) ?_
 refine own_t2 (.int ((Int32.ofNat i) <<< ((1 : Int32) &&& 31))) 31 (fun _ q => XS.ishl X51.here hx rfl (hb hby dj52m4_30) rfl q) ?_
 rw [own_shl1 (by omega)]
 refine own_ls #[.val (.ref b1), .val (.int (Int32.ofNat (2 * i))), .val (.int p1)] 32 (fun _ q => XS.istoreN X51.here hx rfl (hb hby dj52m4_31) rfl (l' := #[.val (.ref b1), .val (.int (Int32.ofNat (2 * i))), .val (.int p1)]) rfl q) ?_
 refine own_tp (.ref b1) 33 (fun _ q => XS.aloadN X51.here hx rfl (hb hby dj52m4_32) rfl rfl q) ?_
 refine own_tp (.int (Int32.ofNat (2 * i))) 34 (fun _ q => XS.iloadN X51.here hx rfl (hb hby dj52m4_33) rfl q) ?_
 refine own_li #[.val (.ref b1), .val (.int ((Int32.ofNat (2 * i)) + (1 : Int32))), .val (.int p1)] 37 (fun _ q => XS.iinc X51.here hx rfl (hb hby dj52m4_34) rfl (l' := #[.val (.ref b1), .val (.int ((Int32.ofNat (2 * i)) + (1 : Int32))), .val (.int p1)]) rfl q) ?_
 rw [own_succ]
 refine own_tp (.int p1) 38 (fun _ q => XS.iloadN X51.here hx rfl (hb hby dj52m4_37) rfl q) ?_
 obtain ⟨T52, X52, e52, st52⟩ := getS2 X51 hx hZ hown (host := "") (Or.inl (w 218 rfl)) Via.refl e51 (US.2.2.2.1.ext O0.2) (g := (mkF m 38 #[.val (.ref b1), .val (.int (Int32.ofNat (2 * i + 1))), .val (.int p1)] [(.int p1), (.int (Int32.ofNat (2 * i))), (.ref b1)])) rfl (hb hby dj52m4_38)
 refine own_tp (.int (0 : Int32)) 41 st52 ?_
 refine own_t2 (.int (p1 >>> ((0 : Int32) &&& 31))) 42 (fun _ q => XS.ishr X52.here hx rfl (hb hby dj52m4_41) rfl q) ?_
 refine own_t1 (.int ((p1 >>> ((0 : Int32) &&& 31)).toInt8.toInt32)) 43 (fun _ q => XS.i2b X52.here hx rfl (hb hby dj52m4_42) rfl q) ?_
 obtain ⟨cl53, Ar53, q53, S53, Nn53, H53, G53⟩ := (id V1)
 have hin53 : ¬ ((Int32.ofNat (2 * i)) < 0 ∨ cl53.slots.size ≤ ((Int32.ofNat (2 * i))).toNatClampNeg) := inb_of S53 (own_inb (by omega) (by omega))
 obtain ⟨T54, h54, X54, e54, W54, st54⟩ := stB X52 hx hZ e52 Ar53 (j := (Int32.ofNat (2 * i))) hin53 (g := (mkF m 43 #[.val (.ref b1), .val (.int (Int32.ofNat (2 * i + 1))), .val (.int p1)] [(.int ((p1 >>> ((0 : Int32) &&& 31)).toInt8.toInt32)), (.int (Int32.ofNat (2 * i))), (.ref b1)])) rfl rfl (hb hby dj52m4_43)
 have V54 := Arv.set Ar53 q53 S53 Nn53 H53 G53 (fits_nar_byte _) W54 (2 * i) (own_ofn (by omega)).2 (by omega)
 have N54 := Fr.snoc X54 N0 g1
 have O54 := Old.wr O0 W54 g1
 have K54 : Keep h0 h54 [b1] := (Keep.refl h0 [b1]).wr W54 (Or.inl (List.mem_of_getElem? (i := 0) rfl))
 have Z54 : n0 ≤ h54.size := Nat.le_trans Z0 (Nat.le_of_eq W54.size.symm)
 have V54' : Arv Z h54 b1 k1 .byte (Int32.ofNat vs1.length) (vs1.set (2 * i) (.int ((p1 >>> ((0 : Int32) &&& 31)).toInt8.toInt32))) (.int (0 : Int32)) := by have q := V54; first | (rw [own_nb] at q; exact q) | (rw [own_nb2] at q; exact q)
 refine own_cs [] 44 st54 ?_
 refine own_tp (.ref b1) 45 (fun _ q => XS.aloadN X54.here hx rfl (hb hby dj52m4_44) rfl rfl q) ?_
 refine own_tp (.int (Int32.ofNat (2 * i + 1))) 46 (fun _ q => XS.iloadN X54.here hx rfl (hb hby dj52m4_45) rfl q) ?_
 refine own_tp (.int p1) 47 (fun _ q => XS.iloadN X54.here hx rfl (hb hby dj52m4_46) rfl q) ?_
 obtain ⟨T55, X55, e55, st55⟩ := getS2 X54 hx hZ hown (host := "") (Or.inl (w 219 rfl)) Via.refl e54 (US.2.2.2.2.ext O54.2) (g := (mkF m 47 #[.val (.ref b1), .val (.int (Int32.ofNat (2 * i + 1))), .val (.int p1)] [(.int p1), (.int (Int32.ofNat (2 * i + 1))), (.ref b1)])) rfl (hb hby dj52m4_47)
 refine own_tp (.int (8 : Int32)) 50 st55 ?_
 refine own_t2 (.int (p1 >>> ((8 : Int32) &&& 31))) 51 (fun _ q => XS.ishr X55.here hx rfl (hb hby dj52m4_50) rfl q) ?_
 refine own_t1 (.int ((p1 >>> ((8 : Int32) &&& 31)).toInt8.toInt32)) 52 (fun _ q => XS.i2b X55.here hx rfl (hb hby dj52m4_51) rfl q) ?_
 obtain ⟨cl56, Ar56, q56, S56, Nn56, H56, G56⟩ := (id V54')
 have hin56 : ¬ ((Int32.ofNat (2 * i + 1)) < 0 ∨ cl56.slots.size ≤ ((Int32.ofNat (2 * i + 1))).toNatClampNeg) := inb_of S56 (own_inb (by omega) (by omega))
 obtain ⟨T57, h57, X57, e57, W57, st57⟩ := stB X55 hx hZ e55 Ar56 (j := (Int32.ofNat (2 * i + 1))) hin56 (g := (mkF m 52 #[.val (.ref b1), .val (.int (Int32.ofNat (2 * i + 1))), .val (.int p1)] [(.int ((p1 >>> ((8 : Int32) &&& 31)).toInt8.toInt32)), (.int (Int32.ofNat (2 * i + 1))), (.ref b1)])) rfl rfl (hb hby dj52m4_52)
 have V57 := Arv.set Ar56 q56 S56 Nn56 H56 G56 (fits_nar_byte _) W57 (2 * i + 1) (own_ofn (by omega)).2 (by simp; omega)
 have N57 := Fr.snoc X57 N54 g1
 have O57 := Old.wr O54 W57 g1
 have K57 : Keep h0 h57 [b1] := K54.wr W57 (Or.inl (List.mem_of_getElem? (i := 0) rfl))
 have Z57 : n0 ≤ h57.size := Nat.le_trans Z54 (Nat.le_of_eq W57.size.symm)
 have V57' : Arv Z h57 b1 k1 .byte (Int32.ofNat vs1.length) ((vs1.set (2 * i) (.int ((p1 >>> ((0 : Int32) &&& 31)).toInt8.toInt32))).set (2 * i + 1) (.int ((p1 >>> ((8 : Int32) &&& 31)).toInt8.toInt32))) (.int (0 : Int32)) := by have q := V57; first | (rw [own_nb] at q; exact q) | (rw [own_nb2] at q; exact q)
 refine own_cs [] 53 st57 ?_
 exact own_retV X57 hx hrt (hb hby dj52m4_53) hlk (by decide) (by decide) e57 (⟨rfl, N57, K57, V57'⟩)

def Q50 (Z : State) (b1 : Addr) (k2 : ClassId) (ts : List Int32) (mz pz nz : Nat) (h0 : Heap) (n0 : Nat) (v : Option Value) (h : Heap) (L : List Loc) : Prop := v = none ∧ Fr n0 L ∧ Keep h0 h [b1] ∧ Arv Z h b1 k2 .byte (Int32.ofNat (2 * mz)) (own_A (2 * mz) (own_fW (ts.take (pz + nz)))) (.int (0 : Int32))

theorem rm50 (l : Launch) (Z : State) (a0 : Array Value) (hw : own_HW a0 Z) (ws : List Jvm.Cond) (a1 b1 : Addr) (k1 k2 : ClassId) (vs1 : List Value) (ts : List Int32) (sl mz pz nz : Nat) (h0 : Heap) (n0 : Nat) (hn' : nz ≤ sl) (hp' : pz + nz ≤ mz) (hm' : mz ≤ 150) (hsl : sl ≤ 150) (Z0 : n0 ≤ h0.size) (g1 : n0 ≤ b1) (hab : a1 ≠ b1) (V1 : Arv Z h0 a1 k1 .byte (Int32.ofNat sl) vs1 (.int (0 : Int32))) (V2 : Arv Z h0 b1 k2 .byte (Int32.ofNat (2 * mz)) (own_A (2 * mz) (own_fW (ts.take pz))) (.int (0 : Int32))) (hsrc : ∀ j, j < nz → vs1.getD j (.int (0 : Int32)) = .int (own_lo (ts.getD (pz + j) 0))) (hB5 : ∀ j, j < nz → 0 ≤ (ts.getD (pz + j) 0).toInt ∧ (ts.getD (pz + j) 0).toInt ≤ 255) (G1 : Int32) (US : own_US Z G1) (O0 : Old Z n0 h0) (G3 : Value) (rG3 : G3.isRef = true) (Sf : own_SF Z G3) :
  own_Met l own_M36 jdk_52_method_86_code 6 none ws own_R_3_0_0_45 Z #[(.ref a1), (.int (0 : Int32)), (.ref b1), (.int (Int32.ofNat pz)), (.int (Int32.ofNat nz))] h0 (Q50 Z b1 k2 ts mz pz nz h0 n0) := by
 refine own_enter #[.val (.ref a1), .val (.int (0 : Int32)), .val (.ref b1), .val (.int (Int32.ofNat pz)), .val (.int (Int32.ofNat nz)), .unset] (plainFor_of_name pn_java_lang_StringUTF16) (fun m => ef_RIRII_6 m a1 (0 : Int32) b1 (Int32.ofNat pz) (Int32.ofNat nz)) ?_
 intro p e s m below meth c s₁ hx hby hml hown hnm hZ hrt hlk X0 e0
 have w := @own_w _ _ hw
 have N0 := Fr.nil n0
 refine own_tp (.int (Int32.ofNat pz)) 1 (fun _ q => XS.iloadN X0.here hx rfl (hb hby dj52m86_0) rfl q) ?_
 refine own_tp (.int (Int32.ofNat nz)) 3 (fun _ q => XS.iload X0.here hx rfl (hb hby dj52m86_1) rfl q) ?_
 refine own_tp (.ref b1) 4 (fun _ q => XS.aloadN X0.here hx rfl (hb hby dj52m86_3) rfl rfl q) ?_
 obtain ⟨_, _, ⟨T51, L51, k51, n51⟩, -, X51, ⟨Lc51, hQ51, l51, y51, z51⟩, st51⟩ := Jvm.LawKit.callS X0 hx (y := own_M34) hown (mvT hZ (w 262 rfl)) (mvT hZ (w 263 rfl)) (mvT hZ (w 28 rfl)) (mvT hZ (w 264 rfl)) (by decide) (backOf (W := 0) (rm49 l Z a0 hw [] b1 _ _ pz nz mz h0 n0 hp' hm' V2 O0 G3 rG3 Sf) hZ (w 264 rfl) (w 28 rfl) (by decide) (by decide)) (g := (mkF m 4 #[.val (.ref a1), .val (.int (0 : Int32)), .val (.ref b1), .val (.int (Int32.ofNat pz)), .val (.int (Int32.ofNat nz)), .unset] [(.ref b1), (.int (Int32.ofNat nz)), (.int (Int32.ofNat pz))])) rfl (by rw [hml]; rfl) (argsL := [(.int (Int32.ofNat pz)), (.int (Int32.ofNat nz)), (.ref b1)]) (rest := []) (lenOf pd5 rfl) rfl (by show 2 * 0 + _ ≤ _; exact Nat.le_of_eq rfl) (hb hby dj52m86_4) (fun _ _ => ⟨rfl, e0, (by decide : 0 + 0 ≤ _), (by decide : 0 + 0 ≤ _)⟩)
 dsimp only [Pt.U, Pt.locs, Pt.cells, Pt.slots] at X51 l51 y51 z51 st51 hQ51
 subst l51 y51 z51
 obtain ⟨rfl, Nq51, eq51⟩ := hQ51
 have N51 := Fr.app N0 Nq51
 refine own_cs [] 7 st51 ?_
 refine own_tp (.int (0 : Int32)) 8 (fun _ q => XS.iconst X51.here hx rfl (hb hby dj52m86_7) q) ?_
 refine own_ls #[.val (.ref a1), .val (.int (0 : Int32)), .val (.ref b1), .val (.int (Int32.ofNat pz)), .val (.int (Int32.ofNat nz)), .val (.int (0 : Int32))] 10 (fun _ q => XS.istore X51.here hx rfl (hb hby dj52m86_8) rfl (l' := #[.val (.ref a1), .val (.int (0 : Int32)), .val (.ref b1), .val (.int (Int32.ofNat pz)), .val (.int (Int32.ofNat nz)), .val (.int (0 : Int32))]) rfl q) ?_
 have loop : ∀ (r i : Nat) (Tj : State) (lj : List Loc) (hj : Heap), i + r = nz → Stand p l e own_R_3_0_0_45 s m #[(.ref a1), (.int (0 : Int32)), (.ref b1), (.int (Int32.ofNat pz)), (.int (Int32.ofNat nz))] below meth c Tj lj 0 0 → Fr n0 lj → Tj.heap = hj → Keep h0 hj [b1] → n0 ≤ hj.size → Old Z n0 hj → Arv Z hj b1 k2 .byte (Int32.ofNat (2 * mz)) (own_A (2 * mz) (own_fW (ts.take (pz + i)))) (.int (0 : Int32)) → own_Goes p e below (own_FN s (Q50 Z b1 k2 ts mz pz nz h0 n0) own_R_3_0_0_45.cells own_R_3_0_0_45.slots) (Tj.setTop (mkF m 10 #[.val (.ref a1), .val (.int (Int32.ofNat i)), .val (.ref b1), .val (.int (Int32.ofNat (pz + i))), .val (.int (Int32.ofNat nz)), .val (.int (Int32.ofNat i))] [])) := by
  intro r
  induction r with
  | zero =>
   intro i Tj lj hj hi Xj Nj ej Kj Zj Oj Vj
   have hlt : ¬ ((Int32.ofNat i) < (Int32.ofNat nz)) := fun q => by have := (own_ltM (by omega) (by omega)).mp q; omega
   refine own_tp (.int (Int32.ofNat i)) 12 (fun _ q => XS.iload Xj.here hx rfl (hb hby dj52m86_10) rfl q) ?_
   refine own_tp (.int (Int32.ofNat nz)) 14 (fun _ q => XS.iload Xj.here hx rfl (hb hby dj52m86_12) rfl q) ?_
   refine own_d2 41 (fun _ q => XS.icmpYes Xj.here hx rfl (pc0 := 14) (pc' := 41) rfl (hb hby dj52m86_14) rfl (flt hlt).2.1 (by decide) (by decide) q) ?_
   have hi' : i = nz := by omega
   subst hi'
   exact own_retV Xj hx hrt (hb hby dj52m86_41) hlk (by decide) (by decide) ej (⟨rfl, Nj, Kj, Vj⟩)
  | succ r ih =>
   intro i Tj lj hj hi Xj Nj ej Kj Zj Oj Vj
   have hlt : (Int32.ofNat i) < (Int32.ofNat nz) := (own_ltM (by omega) (by omega)).mpr (by omega)
   refine own_tp (.int (Int32.ofNat i)) 12 (fun _ q => XS.iload Xj.here hx rfl (hb hby dj52m86_10) rfl q) ?_
   refine own_tp (.int (Int32.ofNat nz)) 14 (fun _ q => XS.iload Xj.here hx rfl (hb hby dj52m86_12) rfl q) ?_
   refine own_d2 17 (fun _ q => XS.icmpNo Xj.here hx rfl (hb hby dj52m86_14) rfl (tlt hlt).2.1 q) ?_
   refine own_tp (.ref b1) 18 (fun _ q => XS.aloadN Xj.here hx rfl (hb hby dj52m86_17) rfl rfl q) ?_
   refine own_tp (.int (Int32.ofNat (pz + i))) 19 (fun _ q => XS.iloadN Xj.here hx rfl (hb hby dj52m86_18) rfl q) ?_
   refine own_li #[.val (.ref a1), .val (.int (Int32.ofNat i)), .val (.ref b1), .val (.int ((Int32.ofNat (pz + i)) + (1 : Int32))), .val (.int (Int32.ofNat nz)), .val (.int (Int32.ofNat i))] 22 (fun _ q => XS.iinc Xj.here hx rfl (hb hby dj52m86_19) rfl (l' := #[.val (.ref a1), .val (.int (Int32.ofNat i)), .val (.ref b1), .val (.int ((Int32.ofNat (pz + i)) + (1 : Int32))), .val (.int (Int32.ofNat nz)), .val (.int (Int32.ofNat i))]) rfl q) ?_
   refine own_tp (.ref a1) 23 (fun _ q => XS.aloadN Xj.here hx rfl (hb hby dj52m86_22) rfl rfl q) ?_
   refine own_tp (.int (Int32.ofNat i)) 24 (fun _ q => XS.iloadN Xj.here hx rfl (hb hby dj52m86_23) rfl q) ?_
   refine own_li #[.val (.ref a1), .val (.int ((Int32.ofNat i) + (1 : Int32))), .val (.ref b1), .val (.int ((Int32.ofNat (pz + i)) + (1 : Int32))), .val (.int (Int32.ofNat nz)), .val (.int (Int32.ofNat i))] 27 (fun _ q => XS.iinc Xj.here hx rfl (hb hby dj52m86_24) rfl (l' := #[.val (.ref a1), .val (.int ((Int32.ofNat i) + (1 : Int32))), .val (.ref b1), .val (.int ((Int32.ofNat (pz + i)) + (1 : Int32))), .val (.int (Int32.ofNat nz)), .val (.int (Int32.ofNat i))]) rfl q) ?_
   obtain ⟨cl52, Ar52, q52, S52, Nn52, H52, G52⟩ := (id (V1.keep Kj (ninS hab nin0)))
   have hin52 : ¬ ((Int32.ofNat i) < 0 ∨ cl52.slots.size ≤ ((Int32.ofNat i)).toNatClampNeg) := inb_of S52 (own_inb (by omega) (by omega))
   have hat52 : cl52.slots[((Int32.ofNat i)).toNatClampNeg]? = some (.int (own_lo (ts.getD (pz + i) 0))) := H52.at hin52 (by rw [(own_ofn (by omega)).2]; exact hsrc i (by omega))
   refine own_t2 (.int (own_lo (ts.getD (pz + i) 0))) 28 (fun _ q => Xj.baloadBytes hx (j := (Int32.ofNat i)) (v := (.int (own_lo (ts.getD (pz + i) 0)))) (by rw [ej]; exact Ar52.1) (State.isArrayOf_alike hZ.alike Ar52.2.1) Ar52.2.2 hin52 hat52 (g := (mkF m 27 #[.val (.ref a1), .val (.int ((Int32.ofNat i) + (1 : Int32))), .val (.ref b1), .val (.int ((Int32.ofNat (pz + i)) + (1 : Int32))), .val (.int (Int32.ofNat nz)), .val (.int (Int32.ofNat i))] [(.int (Int32.ofNat i)), (.ref a1), (.int (Int32.ofNat (pz + i))), (.ref b1)])) rfl rfl (hb hby dj52m86_27) _ q) ?_
   refine own_tp (.int (255 : Int32)) 31 (fun _ q => XS.sipush Xj.here hx rfl (hb hby dj52m86_28) q) ?_
   refine own_t2 (.int ((own_lo (ts.getD (pz + i) 0)) &&& (255 : Int32))) 32 (fun _ q => XS.iand Xj.here hx rfl (hb hby dj52m86_31) rfl q) ?_
   rw [own_lo255 (hB5 i (by omega))]
   obtain ⟨_, _, ⟨T53, L53, k53, n53⟩, -, X53, ⟨Lc53, hQ53, l53, y53, z53⟩, st53⟩ := Jvm.LawKit.callS Xj hx (y := own_M35) hown (mvT hZ (w 214 rfl)) (mvT hZ (w 215 rfl)) (mvT hZ (w 28 rfl)) (mvT hZ (w 216 rfl)) (by decide) (backOf (W := 0) (rm303 l Z a0 hw [] b1 k2 (pz + i) (ts.getD (pz + i) 0) (own_A (2 * mz) (own_fW (ts.take (pz + i)))) hj n0 Zj g1 (by rw [own_A_len]; omega) (by rw [own_A_len]; omega) (by rw [own_A_len]; exact Vj) G1 US Oj) hZ (w 216 rfl) (w 28 rfl) (by decide) (by decide)) (g := (mkF m 32 #[.val (.ref a1), .val (.int ((Int32.ofNat i) + (1 : Int32))), .val (.ref b1), .val (.int ((Int32.ofNat (pz + i)) + (1 : Int32))), .val (.int (Int32.ofNat nz)), .val (.int (Int32.ofNat i))] [(.int (ts.getD (pz + i) 0)), (.int (Int32.ofNat (pz + i))), (.ref b1)])) rfl (by rw [hml]; rfl) (argsL := [(.ref b1), (.int (Int32.ofNat (pz + i))), (.int (ts.getD (pz + i) 0))]) (rest := []) (lenOf pd19 rfl) rfl (by show 2 * 0 + _ ≤ _; exact Nat.le_of_eq rfl) (hb hby dj52m86_32) (fun _ _ => ⟨rfl, ej, (by decide : 0 + 0 ≤ _), (by decide : 0 + 0 ≤ _)⟩)
   dsimp only [Pt.U, Pt.locs, Pt.cells, Pt.slots] at X53 l53 y53 z53 st53 hQ53
   subst l53 y53 z53
   obtain ⟨rfl, Nq53, Kp53, V53⟩ := hQ53
   have N53 := Fr.app Nj Nq53
   have O53 := Old.keep Oj Kp53 (allS g1 all0)
   have Z53 : n0 ≤ T53.heap.size := Nat.le_trans Zj Kp53.1
   have K53 : Keep h0 T53.heap [b1] := Keep.trans Kj Kp53 (allS (Or.inl (List.mem_of_getElem? (i := 0) rfl)) all0)
   have V53' : Arv Z T53.heap b1 k2 .byte (Int32.ofNat (2 * mz)) (own_A (2 * mz) (own_fW (ts.take ((pz + i) + 1)))) (.int (0 : Int32)) := by have q := V53; rw [own_A_len, own_setW (by omega)] at q; exact q
   refine own_cs [] 35 st53 ?_
   refine own_li #[.val (.ref a1), .val (.int ((Int32.ofNat i) + (1 : Int32))), .val (.ref b1), .val (.int ((Int32.ofNat (pz + i)) + (1 : Int32))), .val (.int (Int32.ofNat nz)), .val (.int ((Int32.ofNat i) + (1 : Int32)))] 38 (fun _ q => XS.iinc X53.here hx rfl (hb hby dj52m86_35) rfl (l' := #[.val (.ref a1), .val (.int ((Int32.ofNat i) + (1 : Int32))), .val (.ref b1), .val (.int ((Int32.ofNat (pz + i)) + (1 : Int32))), .val (.int (Int32.ofNat nz)), .val (.int ((Int32.ofNat i) + (1 : Int32)))]) rfl q) ?_
   refine own_d0 10 (fun _ q => XS.goto X53.here hx rfl (pc0 := 38) (pc' := 10) rfl (hb hby dj52m86_38) (by decide) (by decide) q) ?_
   rw [own_succ, own_succ]
   exact ih (i + 1) T53 _ T53.heap (by omega) X53 N53 rfl K53 Z53 O53 V53'
 exact loop nz 0 T51 _ h0 (by omega) X51 N51 eq51 (Keep.refl h0 [b1]) Z0 O0 V2

def Q51 (Z : State) (b1 : Addr) (k2 : ClassId) (ts : List Int32) (mz pz nz : Nat) (h0 : Heap) (n0 : Nat) (v : Option Value) (h : Heap) (L : List Loc) : Prop := v = none ∧ Fr n0 L ∧ Keep h0 h [b1] ∧ Arv Z h b1 k2 .byte (Int32.ofNat (2 * mz)) (own_A (2 * mz) (own_fW (ts.take (pz + nz)))) (.int (0 : Int32))

theorem rm51 (l : Launch) (Z : State) (a0 : Array Value) (hw : own_HW a0 Z) (ws : List Jvm.Cond) (a1 b1 : Addr) (k1 k2 : ClassId) (vs1 : List Value) (ts : List Int32) (sl mz pz nz : Nat) (h0 : Heap) (n0 : Nat) (hn' : nz ≤ sl) (hp' : pz + nz ≤ mz) (hm' : mz ≤ 150) (hsl : sl ≤ 150) (Z0 : n0 ≤ h0.size) (g1 : n0 ≤ b1) (hab : a1 ≠ b1) (V1 : Arv Z h0 a1 k1 .byte (Int32.ofNat sl) vs1 (.int (0 : Int32))) (V2 : Arv Z h0 b1 k2 .byte (Int32.ofNat (2 * mz)) (own_A (2 * mz) (own_fW (ts.take pz))) (.int (0 : Int32))) (hsrc : ∀ j, j < nz → vs1.getD j (.int (0 : Int32)) = .int (own_lo (ts.getD (pz + j) 0))) (hB5 : ∀ j, j < nz → 0 ≤ (ts.getD (pz + j) 0).toInt ∧ (ts.getD (pz + j) 0).toInt ≤ 255) (G1 : Int32) (US : own_US Z G1) (O0 : Old Z n0 h0) (G3 : Value) (rG3 : G3.isRef = true) (Sf : own_SF Z G3) :
  own_Met l own_M37 jdk_43_method_50_code 5 none ws own_R_4_0_0_62 Z #[(.ref a1), (.int (0 : Int32)), (.ref b1), (.int (Int32.ofNat pz)), (.int (Int32.ofNat nz))] h0 (Q51 Z b1 k2 ts mz pz nz h0 n0) := by
 refine own_enter #[.val (.ref a1), .val (.int (0 : Int32)), .val (.ref b1), .val (.int (Int32.ofNat pz)), .val (.int (Int32.ofNat nz))] (plainFor_of_name pn_java_lang_StringLatin1) (fun m => ef_RIRII_5 m a1 (0 : Int32) b1 (Int32.ofNat pz) (Int32.ofNat nz)) ?_
 intro p e s m below meth c s₁ hx hby hml hown hnm hZ hrt hlk X0 e0
 have w := @own_w _ _ hw
 have N0 := Fr.nil n0
 refine own_tp (.ref a1) 1 (fun _ q => XS.aloadN X0.here hx rfl (hb hby dj43m50_0) rfl rfl q) ?_
 refine own_tp (.int (0 : Int32)) 2 (fun _ q => XS.iloadN X0.here hx rfl (hb hby dj43m50_1) rfl q) ?_
 refine own_tp (.ref b1) 3 (fun _ q => XS.aloadN X0.here hx rfl (hb hby dj43m50_2) rfl rfl q) ?_
 refine own_tp (.int (Int32.ofNat pz)) 4 (fun _ q => XS.iloadN X0.here hx rfl (hb hby dj43m50_3) rfl q) ?_
 refine own_tp (.int (Int32.ofNat nz)) 6 (fun _ q => XS.iload X0.here hx rfl (hb hby dj43m50_4) rfl q) ?_
 obtain ⟨_, _, ⟨T51, L51, k51, n51⟩, -, X51, ⟨Lc51, hQ51, l51, y51, z51⟩, st51⟩ := Jvm.LawKit.callS X0 hx (y := own_M36) hown (mvT hZ (w 259 rfl)) (mvT hZ (w 260 rfl)) (mvT hZ (w 28 rfl)) (mvT hZ (w 261 rfl)) (by decide) (backOf (W := 0) (rm50 l Z a0 hw [] a1 b1 k1 k2 vs1 ts sl mz pz nz h0 n0 hn' hp' hm' hsl Z0 g1 hab V1 V2 hsrc hB5 G1 US O0 G3 rG3 Sf) hZ (w 261 rfl) (w 28 rfl) (by decide) (by decide)) (g := (mkF m 6 #[.val (.ref a1), .val (.int (0 : Int32)), .val (.ref b1), .val (.int (Int32.ofNat pz)), .val (.int (Int32.ofNat nz))] [(.int (Int32.ofNat nz)), (.int (Int32.ofNat pz)), (.ref b1), (.int (0 : Int32)), (.ref a1)])) rfl (by rw [hml]; rfl) (argsL := [(.ref a1), (.int (0 : Int32)), (.ref b1), (.int (Int32.ofNat pz)), (.int (Int32.ofNat nz))]) (rest := []) (lenOf pd20 rfl) rfl (by show 2 * 0 + _ ≤ _; exact Nat.le_of_eq rfl) (hb hby dj43m50_6) (fun _ _ => ⟨rfl, e0, (by decide : 0 + 0 ≤ _), (by decide : 0 + 0 ≤ _)⟩)
 dsimp only [Pt.U, Pt.locs, Pt.cells, Pt.slots] at X51 l51 y51 z51 st51 hQ51
 subst l51 y51 z51
 obtain ⟨rfl, Nq51, Kp51, rest51⟩ := hQ51
 refine own_cs [] 9 st51 ?_
 exact own_retV X51 hx hrt (hb hby dj43m50_9) hlk (by decide) (by decide) rfl (⟨rfl, Fr.app N0 Nq51, Kp51, rest51⟩)

def Q52 (Z : State) (sb : Addr) (ts : List Int32) (cap k : Nat) (h0 : Heap) (n0 : Nat) (v : Option Value) (h : Heap) (L : List Loc) : Prop := v = none ∧ Fr n0 L ∧ Keep h0 h [sb] ∧ ∃ (nv : Addr) (kn : ClassId), n0 ≤ nv ∧ h0.size ≤ nv ∧ own_B Z h sb nv kn (1 : Int32) (Int32.ofNat k) (Int32.ofNat (2 * cap)) (own_A (2 * cap) (own_fW (ts.take k)))

theorem rm52 (l : Launch) (Z : State) (a0 : Array Value) (hw : own_HW a0 Z) (ws : List Jvm.Cond) (sb vb : Addr) (kv : ClassId) (ts : List Int32) (cap k : Nat) (h0 : Heap) (n0 : Nat) (Z0 : n0 ≤ h0.size) (gs : n0 ≤ sb) (gv : n0 ≤ vb) (hsv : sb ≠ vb) (hcap : cap ≤ 150) (hkc : k ≤ cap) (B0 : own_B Z h0 sb vb kv (0 : Int32) (Int32.ofNat k) (Int32.ofNat cap) (own_A cap (own_fL (ts.take k)))) (hB5 : ∀ j, j < k → 0 ≤ (ts.getD j 0).toInt ∧ (ts.getD j 0).toInt ≤ 255) (G1 : Int32) (US : own_US Z G1) (O0 : Old Z n0 h0) (G3 : Value) (rG3 : G3.isRef = true) (Sf : own_SF Z G3) :
  own_Met l own_M38 jdk_68_method_11_code 2 none ws own_R_5_1_300_78 Z #[(.ref sb)] h0 (Q52 Z sb ts cap k h0 n0) := by
 refine own_enter #[.val (.ref sb), .unset] (plainFor_of_name pn_java_lang_AbstractStringBuilder) (fun m => ef_R_2 m sb) ?_
 intro p e s m below meth c s₁ hx hby hml hown hnm hZ hrt hlk X0 e0
 have w := @own_w _ _ hw
 have N0 := Fr.nil n0
 refine own_tp (.ref sb) 1 (fun _ q => XS.aloadN X0.here hx rfl (hb hby dj68m11_0) rfl rfl q) ?_
 obtain ⟨cq51, kq51, q51a, q51b, q51c⟩ := isOf hZ e0 B0.1
 obtain ⟨_, _, ⟨T51, L51, k51, n51⟩, -, X51, ⟨Lc51, hQ51, l51, y51, z51⟩, st51⟩ := X0.virtualBack hx (y := own_M29) (z := own_M29) hown (mvT hZ (w 254 rfl)) (mvT hZ (w 182 rfl)) (notFace_of_selects (args := #[]) (mvT hZ (w 184 rfl))) (mvT hZ (w 184 rfl)) (mvT hZ (w 183 rfl)) (by decide) (backOf (W := 0) (rm45 l Z a0 hw [] sb vb kv ts cap k h0 n0 Z0 gs gv hsv (by omega) (by omega) B0 G1 US O0) hZ (w 185 rfl) (w 86 rfl) (by decide) (by decide)) q51a q51c (g := (mkF m 1 #[.val (.ref sb), .unset] [(.ref sb)])) rfl (by rw [hml]; rfl) (Steps.refl _) (argsL := []) (rest := []) (lenOf pd9 rfl) rfl (by show 2 * 0 + _ ≤ _; exact Nat.le_of_eq rfl) (hb hby dj68m11_1) (fun _ _ => ⟨rfl, e0, (by decide : 0 + 0 ≤ _), (by decide : 0 + 0 ≤ _)⟩)
 dsimp only [Pt.U, Pt.locs, Pt.cells, Pt.slots] at X51 l51 y51 z51 st51 hQ51
 subst l51 y51 z51
 obtain ⟨rfl, Nq51, eq51⟩ := hQ51
 have N51 := Fr.app N0 Nq51
 refine own_csR [(.int (1 : Int32))] 4 st51 ?_
 refine own_d1 8 (fun _ q => XS.ifYes X51.here hx rfl (pc0 := 4) (pc' := 8) rfl (hb hby dj68m11_4) rfl ((if0 _ _).trans (feq (by decide : ¬ ((1 : Int32) = (0 : Int32)))).2) (by decide) (by decide) q) ?_
 refine own_tp (.ref sb) 9 (fun _ q => XS.aloadN X51.here hx rfl (hb hby dj68m11_8) rfl rfl q) ?_
 obtain ⟨T52, X52, e52, st52⟩ := getF X51 hx hZ hown (host := "") (Or.inl (w 90 rfl)) Via.refl eq51 B0.2.1 (g := (mkF m 9 #[.val (.ref sb), .unset] [(.ref sb)])) rfl rfl (hb hby dj68m11_9)
 refine own_t1 (.ref vb) 12 st52 ?_
 obtain ⟨cl53, Ar53, -, Sz53, Nn53, -, -⟩ := (id B0.2.2.2.2.2)
 refine own_t1 (.int (Int32.ofNat cap)) 13 (fun t q => X52.arraylength hx (by rw [e52]; exact Ar53.1) (State.isArrayOf_alike hZ.alike Ar53.2.1) (g := (mkF m 12 #[.val (.ref sb), .unset] [(.ref vb)])) rfl rfl (hb hby dj68m11_12) _ (by rw [len_of Sz53 Nn53]; exact q)) ?_
 obtain ⟨_, _, ⟨T54, L54, k54, n54⟩, -, X54, ⟨Lc54, hQ54, l54, y54, z54⟩, st54⟩ := Jvm.LawKit.callS X52 hx (y := own_M31) hown (mvT hZ (w 255 rfl)) (mvT hZ (w 208 rfl)) (mvT hZ (w 28 rfl)) (mvT hZ (w 209 rfl)) (by decide) (backOf (W := 0) (rm302 l Z a0 hw [] cap h0 n0 (by omega) Z0) hZ (w 209 rfl) (w 28 rfl) (by decide) (by decide)) (g := (mkF m 13 #[.val (.ref sb), .unset] [(.int (Int32.ofNat cap))])) rfl (by rw [hml]; rfl) (argsL := [(.int (Int32.ofNat cap))]) (rest := []) (lenOf pd21 rfl) rfl (by show 2 * 0 + _ ≤ _; exact Nat.le_of_eq rfl) (hb hby dj68m11_13) (fun _ _ => ⟨rfl, e52, (by decide : 0 + 1 ≤ _), (by decide : 0 + 300 ≤ _)⟩)
 dsimp only [Pt.U, Pt.locs, Pt.cells, Pt.slots] at X54 l54 y54 z54 st54 hQ54
 subst l54 y54 z54
 obtain ⟨nb54, kn54, rfl, Nq54, Kp54, ge54, sz54, V54⟩ := hQ54
 have ne55 : sb ≠ nb54 := Nat.ne_of_lt (Nat.lt_of_lt_of_le B0.1.lt sz54)
 have ne56 : vb ≠ nb54 := Nat.ne_of_lt (Nat.lt_of_lt_of_le B0.2.2.2.2.2.lt sz54)
 have s0nb54 : h0.size ≤ nb54 := Nat.le_trans (Keep.refl h0 [sb]).1 sz54
 have N54 := Fr.app N51 Nq54
 have O54 := Old.keep O0 Kp54 all0
 have Z54 : n0 ≤ T54.heap.size := Nat.le_trans Z0 Kp54.1
 have K54 : Keep h0 T54.heap [sb] := Keep.trans (Keep.refl h0 [sb]) Kp54 all0
 have V54_ : Arv Z T54.heap nb54 kn54 .byte (Int32.ofNat (2 * cap)) (own_A (2 * cap) (own_fW [])) (.int (0 : Int32)) := by have q := V54; rw [own_repW] at q; exact q
 refine own_t1 (.ref nb54) 16 st54 ?_
 refine own_ls #[.val (.ref sb), .val (.ref nb54)] 17 (fun _ q => XS.astoreN X54.here hx rfl (hb hby dj68m11_16) rfl rfl (l' := #[.val (.ref sb), .val (.ref nb54)]) rfl q) ?_
 refine own_tp (.ref sb) 18 (fun _ q => XS.aloadN X54.here hx rfl (hb hby dj68m11_17) rfl rfl q) ?_
 have f57 := (B0.2.1.keep Kp54 nin0)
 obtain ⟨T58, X58, e58, st58⟩ := getF X54 hx hZ hown (host := "") (Or.inl (w 90 rfl)) Via.refl rfl f57 (g := (mkF m 18 #[.val (.ref sb), .val (.ref nb54)] [(.ref sb)])) rfl rfl (hb hby dj68m11_18)
 refine own_t1 (.ref vb) 21 st58 ?_
 refine own_tp (.int (0 : Int32)) 22 (fun _ q => XS.iconst X58.here hx rfl (hb hby dj68m11_21) q) ?_
 refine own_tp (.ref nb54) 23 (fun _ q => XS.aloadN X58.here hx rfl (hb hby dj68m11_22) rfl rfl q) ?_
 refine own_tp (.int (0 : Int32)) 24 (fun _ q => XS.iconst X58.here hx rfl (hb hby dj68m11_23) q) ?_
 refine own_tp (.ref sb) 25 (fun _ q => XS.aloadN X58.here hx rfl (hb hby dj68m11_24) rfl rfl q) ?_
 have f59 := (B0.2.2.2.1.keep Kp54 nin0)
 obtain ⟨T60, X60, e60, st60⟩ := getF X58 hx hZ hown (host := "") (Or.inl (w 106 rfl)) Via.refl e58 f59 (g := (mkF m 25 #[.val (.ref sb), .val (.ref nb54)] [(.ref sb), (.int (0 : Int32)), (.ref nb54), (.int (0 : Int32)), (.ref vb)])) rfl rfl (hb hby dj68m11_25)
 refine own_t1 (.int (Int32.ofNat k)) 28 st60 ?_
 have f61 := (B0.2.2.2.2.2.keep Kp54 nin0)
 obtain ⟨_, _, ⟨T62, L62, k62, n62⟩, -, X62, ⟨Lc62, hQ62, l62, y62, z62⟩, st62⟩ := Jvm.LawKit.callS X60 hx (y := own_M37) hown (mvT hZ (w 256 rfl)) (mvT hZ (w 257 rfl)) (mvT hZ (w 71 rfl)) (mvT hZ (w 258 rfl)) (by decide) (backOf (W := 0) (rm51 l Z a0 hw [] vb nb54 kv kn54 (own_A cap (own_fL (ts.take k))) ts cap cap 0 k T54.heap n0 (by omega) (by omega) (by omega) (by omega) Z54 ge54 ne56 f61 V54_ (fun j hj => by rw [own_A_at _ (by omega)]; unfold own_fL; rw [own_tkD, if_pos (by omega), Nat.zero_add]) (fun j hj => by rw [Nat.zero_add]; exact hB5 j hj) G1 US O54 G3 rG3 Sf) hZ (w 258 rfl) (w 71 rfl) (by decide) (by decide)) (g := (mkF m 28 #[.val (.ref sb), .val (.ref nb54)] [(.int (Int32.ofNat k)), (.int (0 : Int32)), (.ref nb54), (.int (0 : Int32)), (.ref vb)])) rfl (by rw [hml]; rfl) (argsL := [(.ref vb), (.int (0 : Int32)), (.ref nb54), (.int (0 : Int32)), (.int (Int32.ofNat k))]) (rest := []) (lenOf pd20 rfl) rfl (by show 2 * 0 + _ ≤ _; exact Nat.le_of_eq rfl) (hb hby dj68m11_28) (fun _ _ => ⟨rfl, e60, (by decide : 1 + 0 ≤ _), (by decide : 300 + 0 ≤ _)⟩)
 dsimp only [Pt.U, Pt.locs, Pt.cells, Pt.slots] at X62 l62 y62 z62 st62 hQ62
 subst l62 y62 z62
 obtain ⟨rfl, Nq62, Kp62, V62⟩ := hQ62
 have N62 := Fr.app N54 Nq62
 have O62 := Old.keep O54 Kp62 (allS ge54 all0)
 have Z62 : n0 ≤ T62.heap.size := Nat.le_trans Z54 Kp62.1
 have K62 : Keep h0 T62.heap [sb] := Keep.trans K54 Kp62 (allS (Or.inr s0nb54) all0)
 have V62_ : Arv Z T62.heap nb54 kn54 .byte (Int32.ofNat (2 * cap)) (own_A (2 * cap) (own_fW (ts.take k))) (.int (0 : Int32)) := by have q := V62; rw [Nat.zero_add] at q; exact q
 refine own_cs [] 31 st62 ?_
 refine own_tp (.ref sb) 32 (fun _ q => XS.aloadN X62.here hx rfl (hb hby dj68m11_31) rfl rfl q) ?_
 refine own_tp (.ref nb54) 33 (fun _ q => XS.aloadN X62.here hx rfl (hb hby dj68m11_32) rfl rfl q) ?_
 have f63 := (f57.keep Kp62 (ninS ne55 nin0))
 have f64 := ((B0.1.keep Kp54).keep Kp62)
 obtain ⟨T65, h65, X65, e65, W65, st65⟩ := putF X62 hx hZ hown (host := "") (Or.inl (w 90 rfl)) Via.refl rfl f63 f64 (Or.inl (w 91 rfl)) (w 77 rfl) (ty := (.array .byte)) (by decide) rfl rfl (g := (mkF m 33 #[.val (.ref sb), .val (.ref nb54)] [(.ref nb54), (.ref sb)])) rfl rfl (hb hby dj68m11_33)
 have Fw65 := f63.same W65
 have N65 := Fr.snoc X65 N62 gs
 have O65 := Old.wr O62 W65 gs
 have K65 : Keep h0 h65 [sb] := K62.wr W65 (Or.inl (List.mem_of_getElem? (i := 0) rfl))
 have Z65 : n0 ≤ h65.size := Nat.le_trans Z62 (Nat.le_of_eq W65.size.symm)
 refine own_d2 36 st65 ?_
 refine own_tp (.ref sb) 37 (fun _ q => XS.aloadN X65.here hx rfl (hb hby dj68m11_36) rfl rfl q) ?_
 refine own_tp (.int (1 : Int32)) 38 (fun _ q => XS.iconst X65.here hx rfl (hb hby dj68m11_37) q) ?_
 have f66 := (((B0.2.2.1.keep Kp54 nin0).keep Kp62 (ninS ne55 nin0)).other W65 (Or.inr (slot_ne (Or.inl (w 93 rfl)) (Or.inl (w 91 rfl)) (by decide) (t := .byte) (t' := (.array .byte)) (by decide) (by decide))))
 have f67 := (f64.wr W65)
 obtain ⟨T68, h68, X68, e68, W68, st68⟩ := putFN X65 hx hZ hown (w 92 rfl) Via.refl e65 f66 f67 (Or.inl (w 93 rfl)) (w 77 rfl) (ty := .byte) (v' := (.int (1 : Int32))) (by decide) rfl rfl (g := (mkF m 38 #[.val (.ref sb), .val (.ref nb54)] [(.int (1 : Int32)), (.ref sb)])) rfl rfl (hb hby dj68m11_38)
 have Fw68 := f66.same W68
 have N68 := Fr.snoc X68 N65 gs
 have O68 := Old.wr O65 W68 gs
 have K68 : Keep h0 h68 [sb] := K65.wr W68 (Or.inl (List.mem_of_getElem? (i := 0) rfl))
 have Z68 : n0 ≤ h68.size := Nat.le_trans Z65 (Nat.le_of_eq W68.size.symm)
 refine own_d2 41 st68 ?_
 have f69 := (f67.wr W68)
 have f70 := (Fw65.other W68 (Or.inr (slot_ne (Or.inl (w 91 rfl)) (Or.inl (w 93 rfl)) (by decide) (t := (.array .byte)) (t' := .byte) (by decide) (by decide))))
 have f71 := (((f59.keep Kp62 (ninS ne55 nin0)).other W65 (Or.inr (slot_ne (Or.inl (w 107 rfl)) (Or.inl (w 91 rfl)) (by decide) (t := .int) (t' := (.array .byte)) (by decide) (by decide)))).other W68 (Or.inr (slot_ne (Or.inl (w 107 rfl)) (Or.inl (w 93 rfl)) (by decide) (t := .int) (t' := .byte) (by decide) (by decide))))
 have f72 := ((((B0.2.2.2.2.1.keep Kp54 nin0).keep Kp62 (ninS ne55 nin0)).other W65 (Or.inr (slot_ne (Or.inl (w 272 rfl)) (Or.inl (w 91 rfl)) (by decide) (t := .boolean) (t' := (.array .byte)) (by decide) (by decide)))).other W68 (Or.inr (slot_ne (Or.inl (w 272 rfl)) (Or.inl (w 93 rfl)) (by decide) (t := .boolean) (t' := .byte) (by decide) (by decide))))
 have f73 := ((V62_.other W65 (Ne.symm ne55)).other W68 (Ne.symm ne55))
 exact own_retV X68 hx hrt (hb hby dj68m11_41) hlk (by decide) (by decide) e68 (⟨rfl, N68, K68, nb54, _, ge54, s0nb54, ⟨f69, f70, Fw68, f71, f72, f73⟩⟩)

def Q53 (Z : State) (sb : Addr) (ts : List Int32) (cap k : Nat) (h0 : Heap) (n0 : Nat) (v : Option Value) (h : Heap) (L : List Loc) : Prop := v = none ∧ Fr n0 L ∧ Keep h0 h [sb] ∧ ∃ (nv : Addr) (kn : ClassId), n0 ≤ nv ∧ h0.size ≤ nv ∧ own_B Z h sb nv kn (1 : Int32) (Int32.ofNat k) (Int32.ofNat (2 * cap)) (own_A (2 * cap) (own_fW (ts.take k)))

theorem rm53 (l : Launch) (Z : State) (a0 : Array Value) (hw : own_HW a0 Z) (ws : List Jvm.Cond) (sb vb : Addr) (kv : ClassId) (ts : List Int32) (cap k : Nat) (st sv : Addr) (ks : ClassId) (ds : List Int32) (n : Nat) (h0 : Heap) (n0 : Nat) (Z0 : n0 ≤ h0.size) (gs : n0 ≤ sb) (gv : n0 ≤ vb) (hsv : sb ≠ vb) (hcap : cap ≤ 150) (hkc : k ≤ cap) (n1 : st ≠ sb) (n2 : sv ≠ sb) (n3 : st ≠ vb) (n4 : sv ≠ vb) (B0 : own_B Z h0 sb vb kv (0 : Int32) (Int32.ofNat k) (Int32.ofNat cap) (own_A cap (own_fL (ts.take k)))) (D0 : own_D Z h0 st sv ks (1 : Int32) (Int32.ofNat (2 * n)) (own_wide ds)) (hds : ds.length = n) (hd : ∀ j, j < n → ds.getD j 0 = ts.getD (k + j) 0) (hB5 : ∀ j, j < k → 0 ≤ (ts.getD j 0).toInt ∧ (ts.getD j 0).toInt ≤ 255) (hg : k + n ≤ cap) (G1 : Int32) (US : own_US Z G1) (O0 : Old Z n0 h0) (G3 : Value) (rG3 : G3.isRef = true) (Sf : own_SF Z G3) :
  own_Met l own_M24 jdk_68_method_71_code 2 none ws own_R_6_1_300_91 Z #[(.ref sb), (.ref st)] h0 (Q53 Z sb ts cap k h0 n0) := by
 refine own_enter #[.val (.ref sb), .val (.ref st)] (plainFor_of_name pn_java_lang_AbstractStringBuilder) (fun m => ef_RR_2 m sb st) ?_
 intro p e s m below meth c s₁ hx hby hml hown hnm hZ hrt hlk X0 e0
 have w := @own_w _ _ hw
 have N0 := Fr.nil n0
 obtain ⟨T51, X51, e51, st51⟩ := getS2 X0 hx hZ hown (host := "") (Or.inl (w 89 rfl)) Via.refl e0 (US.2.1.ext O0.2) (g := (mkF m 0 #[.val (.ref sb), .val (.ref st)] [])) rfl (hb hby dj68m71_0)
 refine own_tp (.int G1) 3 st51 ?_
 refine own_d1 6 (fun _ q => XS.ifNo X51.here hx rfl (hb hby dj68m71_3) rfl ((if0 _ _).trans (feq US.1).1) q) ?_
 refine own_tp (.ref sb) 7 (fun _ q => XS.aloadN X51.here hx rfl (hb hby dj68m71_6) rfl rfl q) ?_
 obtain ⟨T52, X52, e52, st52⟩ := getF X51 hx hZ hown (host := "") (Or.inl (w 92 rfl)) Via.refl e51 B0.2.2.1 (g := (mkF m 7 #[.val (.ref sb), .val (.ref st)] [(.ref sb)])) rfl rfl (hb hby dj68m71_7)
 refine own_t1 (.int (0 : Int32)) 10 st52 ?_
 refine own_tp (.ref st) 11 (fun _ q => XS.aloadN X52.here hx rfl (hb hby dj68m71_10) rfl rfl q) ?_
 obtain ⟨cq53, kq53, q53a, q53b, q53c⟩ := isOf hZ e52 D0.1
 obtain ⟨_, _, ⟨T53, L53, k53, n53⟩, -, X53, ⟨Lc53, hQ53, l53, y53, z53⟩, st53⟩ := X52.virtualBack hx (y := own_M12) (z := own_M12) hown (mvT hZ (w 149 rfl)) (mvT hZ (w 65 rfl)) (notFace_of_selects (args := #[]) (mvT hZ (w 67 rfl))) (mvT hZ (w 67 rfl)) (mvT hZ (w 66 rfl)) (by decide) (backOf (W := 1) (rm43 l Z a0 hw [] st h0 n0 D0.1 D0.2.1 G1 US O0) hZ (w 68 rfl) (w 5 rfl) (by decide) (by decide)) q53a q53c (g := (mkF m 11 #[.val (.ref sb), .val (.ref st)] [(.ref st), (.int (0 : Int32))])) rfl (by rw [hml]; rfl) (Steps.refl _) (argsL := []) (rest := [(.int (0 : Int32))]) (lenOf pd8 rfl) rfl (by show 2 * 0 + _ ≤ _; exact Nat.le_of_eq rfl) (hb hby dj68m71_11) (fun _ _ => ⟨rfl, e52, (by decide : 0 + 0 ≤ _), (by decide : 0 + 0 ≤ _)⟩)
 dsimp only [Pt.U, Pt.locs, Pt.cells, Pt.slots] at X53 l53 y53 z53 st53 hQ53
 subst l53 y53 z53
 obtain ⟨rfl, Nq53, eq53⟩ := hQ53
 have N53 := Fr.app N0 Nq53
 refine own_csR [(.int (1 : Int32)), (.int (0 : Int32))] 14 st53 ?_
 refine own_d2 17 (fun _ q => XS.icmpNo X53.here hx rfl (hb hby dj68m71_14) rfl (feq (by decide : ¬ ((0 : Int32) = (1 : Int32)))).1 q) ?_
 refine own_tp (.ref sb) 18 (fun _ q => XS.aloadN X53.here hx rfl (hb hby dj68m71_17) rfl rfl q) ?_
 obtain ⟨cq54, kq54, q54a, q54b, q54c⟩ := isOf hZ eq53 B0.1
 obtain ⟨_, _, ⟨T54, L54, k54, n54⟩, -, X54, ⟨Lc54, hQ54, l54, y54, z54⟩, st54⟩ := X53.virtualBack hx (y := own_M38) (z := own_M38) hown (mvT hZ (w 249 rfl)) (mvT hZ (own_decl (w 250 rfl) (w 253 rfl))) (notFace_of_selects (args := #[]) (mvT hZ (w 252 rfl))) (mvT hZ (w 252 rfl)) (mvT hZ (w 250 rfl)) (by decide) (backOf (W := 0) (rm52 l Z a0 hw [] sb vb kv ts cap k h0 n0 Z0 gs gv hsv (by omega) (by omega) B0 hB5 G1 US O0 G3 rG3 Sf) hZ (w 253 rfl) (w 86 rfl) (by decide) (by decide)) q54a q54c (g := (mkF m 18 #[.val (.ref sb), .val (.ref st)] [(.ref sb)])) rfl (by rw [hml]; rfl) (Steps.refl _) (argsL := []) (rest := []) (lenOf pd22 rfl) rfl (by show 2 * 0 + _ ≤ _; exact Nat.le_of_eq rfl) (hb hby dj68m71_18) (fun _ _ => ⟨rfl, eq53, (by decide : 0 + 1 ≤ _), (by decide : 0 + 300 ≤ _)⟩)
 dsimp only [Pt.U, Pt.locs, Pt.cells, Pt.slots] at X54 l54 y54 z54 st54 hQ54
 subst l54 y54 z54
 obtain ⟨rfl, Nq54, Kp54, nv54, kn54, gn54, sn54, B54⟩ := hQ54
 have ne55 : sb ≠ nv54 := Nat.ne_of_lt (Nat.lt_of_lt_of_le B0.1.lt sn54)
 have ne56 : vb ≠ nv54 := Nat.ne_of_lt (Nat.lt_of_lt_of_le B0.2.2.2.2.2.lt sn54)
 have ne57 : st ≠ nv54 := Nat.ne_of_lt (Nat.lt_of_lt_of_le D0.1.lt sn54)
 have ne58 : sv ≠ nv54 := Nat.ne_of_lt (Nat.lt_of_lt_of_le D0.2.2.2.lt sn54)
 have s0nv54 : h0.size ≤ nv54 := Nat.le_trans (Keep.refl h0 [sb]).1 sn54
 have N54 := Fr.app N53 Nq54
 have O54 := Old.keep O0 Kp54 (allS gs all0)
 have Z54 : n0 ≤ T54.heap.size := Nat.le_trans Z0 Kp54.1
 have K54 : Keep h0 T54.heap [sb] := Keep.trans (Keep.refl h0 [sb]) Kp54 (allS (Or.inl (List.mem_of_getElem? (i := 0) rfl)) all0)
 refine own_csR [] 21 st54 ?_
 exact own_retV X54 hx hrt (hb hby dj68m71_21) hlk (by decide) (by decide) rfl (⟨rfl, N54, K54, nv54, _, gn54, s0nv54, B54⟩)

def Q54 (Z : State) (vb : Addr) (kv : ClassId) (ts : List Int32) (cap k n : Nat) (h0 : Heap) (n0 : Nat) (v : Option Value) (h : Heap) (L : List Loc) : Prop := v = none ∧ Fr n0 L ∧ Keep h0 h [vb] ∧ Arv Z h vb kv .byte (Int32.ofNat (2 * cap)) (own_A (2 * cap) (own_fW (ts.take (k + n)))) (.int (0 : Int32))

theorem rm54 (l : Launch) (Z : State) (a0 : Array Value) (hw : own_HW a0 Z) (ws : List Jvm.Cond) (sb vb : Addr) (kv : ClassId) (ts : List Int32) (cap k : Nat) (st sv : Addr) (ks : ClassId) (ds : List Int32) (n : Nat) (h0 : Heap) (n0 : Nat) (Z0 : n0 ≤ h0.size) (gs : n0 ≤ sb) (gv : n0 ≤ vb) (hsv : sb ≠ vb) (hcap : cap ≤ 150) (hkc : k ≤ cap) (n1 : st ≠ sb) (n2 : sv ≠ sb) (n3 : st ≠ vb) (n4 : sv ≠ vb) (B0 : own_B Z h0 sb vb kv (1 : Int32) (Int32.ofNat k) (Int32.ofNat (2 * cap)) (own_A (2 * cap) (own_fW (ts.take k)))) (D0 : own_D Z h0 st sv ks (1 : Int32) (Int32.ofNat (2 * n)) (own_wide ds)) (hds : ds.length = n) (hd : ∀ j, j < n → ds.getD j 0 = ts.getD (k + j) 0) (hB5 : ∀ j, j < k → 0 ≤ (ts.getD j 0).toInt ∧ (ts.getD j 0).toInt ≤ 255) (hg : k + n ≤ cap) (G1 : Int32) (US : own_US Z G1) (O0 : Old Z n0 h0) (G3 : Value) (rG3 : G3.isRef = true) (Sf : own_SF Z G3) :
  own_Met l own_M25 jdk_42_method_147_code 4 none ws own_R_1_0_0_44 Z #[(.ref st), (.ref vb), (.int (Int32.ofNat k)), (.int (1 : Int32))] h0 (Q54 Z vb kv ts cap k n h0 n0) := by
 refine own_enter #[.val (.ref st), .val (.ref vb), .val (.int (Int32.ofNat k)), .val (.int (1 : Int32))] (plainFor_of_name pn_java_lang_String) (fun m => ef_RRII_4 m st vb (Int32.ofNat k) (1 : Int32)) ?_
 intro p e s m below meth c s₁ hx hby hml hown hnm hZ hrt hlk X0 e0
 have w := @own_w _ _ hw
 have N0 := Fr.nil n0
 refine own_tp (.ref st) 1 (fun _ q => XS.aloadN X0.here hx rfl (hb hby dj42m147_0) rfl rfl q) ?_
 obtain ⟨cq51, kq51, q51a, q51b, q51c⟩ := isOf hZ e0 D0.1
 obtain ⟨_, _, ⟨T51, L51, k51, n51⟩, -, X51, ⟨Lc51, hQ51, l51, y51, z51⟩, st51⟩ := X0.virtualBack hx (y := own_M12) (z := own_M12) hown (mvT hZ (w 64 rfl)) (mvT hZ (w 65 rfl)) (notFace_of_selects (args := #[]) (mvT hZ (w 67 rfl))) (mvT hZ (w 67 rfl)) (mvT hZ (w 66 rfl)) (by decide) (backOf (W := 0) (rm43 l Z a0 hw [] st h0 n0 D0.1 D0.2.1 G1 US O0) hZ (w 68 rfl) (w 5 rfl) (by decide) (by decide)) q51a q51c (g := (mkF m 1 #[.val (.ref st), .val (.ref vb), .val (.int (Int32.ofNat k)), .val (.int (1 : Int32))] [(.ref st)])) rfl (by rw [hml]; rfl) (Steps.refl _) (argsL := []) (rest := []) (lenOf pd8 rfl) rfl (by show 2 * 0 + _ ≤ _; exact Nat.le_of_eq rfl) (hb hby dj42m147_1) (fun _ _ => ⟨rfl, e0, (by decide : 0 + 0 ≤ _), (by decide : 0 + 0 ≤ _)⟩)
 dsimp only [Pt.U, Pt.locs, Pt.cells, Pt.slots] at X51 l51 y51 z51 st51 hQ51
 subst l51 y51 z51
 obtain ⟨rfl, Nq51, eq51⟩ := hQ51
 have N51 := Fr.app N0 Nq51
 refine own_csR [(.int (1 : Int32))] 4 st51 ?_
 refine own_tp (.int (1 : Int32)) 5 (fun _ q => XS.iloadN X51.here hx rfl (hb hby dj42m147_4) rfl q) ?_
 refine own_d2 8 (fun _ q => XS.icmpNo X51.here hx rfl (hb hby dj42m147_5) rfl (teq (by decide : (1 : Int32) = (1 : Int32))).2 q) ?_
 refine own_tp (.ref st) 9 (fun _ q => XS.aloadN X51.here hx rfl (hb hby dj42m147_8) rfl rfl q) ?_
 obtain ⟨T52, X52, e52, st52⟩ := getF X51 hx hZ hown (host := "") (Or.inl (w 22 rfl)) Via.refl eq51 D0.2.2.1 (g := (mkF m 9 #[.val (.ref st), .val (.ref vb), .val (.int (Int32.ofNat k)), .val (.int (1 : Int32))] [(.ref st)])) rfl rfl (hb hby dj42m147_9)
 refine own_t1 (.ref sv) 12 st52 ?_
 refine own_tp (.int (0 : Int32)) 13 (fun _ q => XS.iconst X52.here hx rfl (hb hby dj42m147_12) q) ?_
 refine own_tp (.ref vb) 14 (fun _ q => XS.aloadN X52.here hx rfl (hb hby dj42m147_13) rfl rfl q) ?_
 refine own_tp (.int (Int32.ofNat k)) 15 (fun _ q => XS.iloadN X52.here hx rfl (hb hby dj42m147_14) rfl q) ?_
 refine own_tp (.int (1 : Int32)) 16 (fun _ q => XS.iloadN X52.here hx rfl (hb hby dj42m147_15) rfl q) ?_
 refine own_t2 (.int ((Int32.ofNat k) <<< ((1 : Int32) &&& 31))) 17 (fun _ q => XS.ishl X52.here hx rfl (hb hby dj42m147_16) rfl q) ?_
 rw [own_shl1 (by omega)]
 refine own_tp (.ref st) 18 (fun _ q => XS.aloadN X52.here hx rfl (hb hby dj42m147_17) rfl rfl q) ?_
 obtain ⟨T53, X53, e53, st53⟩ := getF X52 hx hZ hown (host := "") (Or.inl (w 22 rfl)) Via.refl e52 D0.2.2.1 (g := (mkF m 18 #[.val (.ref st), .val (.ref vb), .val (.int (Int32.ofNat k)), .val (.int (1 : Int32))] [(.ref st), (.int (Int32.ofNat (2 * k))), (.ref vb), (.int (0 : Int32)), (.ref sv)])) rfl rfl (hb hby dj42m147_18)
 refine own_t1 (.ref sv) 21 st53 ?_
 obtain ⟨cl54, Ar54, -, Sz54, Nn54, -, -⟩ := (id D0.2.2.2)
 refine own_t1 (.int (Int32.ofNat (2 * n))) 22 (fun t q => X53.arraylength hx (by rw [e53]; exact Ar54.1) (State.isArrayOf_alike hZ.alike Ar54.2.1) (g := (mkF m 21 #[.val (.ref st), .val (.ref vb), .val (.int (Int32.ofNat k)), .val (.int (1 : Int32))] [(.ref sv), (.int (Int32.ofNat (2 * k))), (.ref vb), (.int (0 : Int32)), (.ref sv)])) rfl rfl (hb hby dj42m147_21) _ (by rw [len_of Sz54 Nn54]; exact q)) ?_
 obtain ⟨T55, h55, L55, X55, e55, Kp55, B55, V55, st55⟩ := own_acopy X53 hx hZ hown (w 155 rfl) (w 138 rfl) (w 136 rfl) (w 137 rfl) e53 D0.2.2.2 B0.2.2.2.2.2 (2 * k) (2 * n) (by omega) (by rw [(own_ofn (by omega)).2]; omega) (by rw [(own_ofn (by omega)).2]; omega) (by first | (rw [own_A_len, (own_ofn (by omega)).2]; done) | (rw [List.length_replicate, (own_ofn (by omega)).2]; done)) (g := (mkF m 22 #[.val (.ref st), .val (.ref vb), .val (.int (Int32.ofNat k)), .val (.int (1 : Int32))] [(.int (Int32.ofNat (2 * n))), (.int (Int32.ofNat (2 * k))), (.ref vb), (.int (0 : Int32)), (.ref sv)])) rfl (by rw [hml]; rfl) (rest := []) rfl (hb hby dj42m147_22) (by decide) (W := 0) (by show 2 * 0 + _ ≤ _; exact Nat.le_of_eq rfl) (by decide)
 have Nq55 : Fr n0 L55 := fun y hy => by rw [B55 y hy]; exact gv
 have N55 := Fr.app N51 Nq55
 have O55 := Old.keep O0 Kp55 (allS gv all0)
 have Z55 : n0 ≤ h55.size := Nat.le_trans Z0 Kp55.1
 have K55 : Keep h0 h55 [vb] := Keep.trans (Keep.refl h0 [vb]) Kp55 (allS (Or.inl (List.mem_of_getElem? (i := 0) rfl)) all0)
 have V55' : Arv Z h55 vb kv .byte (Int32.ofNat (2 * cap)) (own_A (2 * cap) (own_fW (ts.take (k + n)))) (.int (0 : Int32)) := by have q := V55; rw [own_wideA, own_catW (by omega) hd] at q; exact q
 refine own_cs [] 25 st55 ?_
 refine own_d0 43 (fun _ q => XS.goto X55.here hx rfl (pc0 := 25) (pc' := 43) rfl (hb hby dj42m147_25) (by decide) (by decide) q) ?_
 exact own_retV X55 hx hrt (hb hby dj42m147_43) hlk (by decide) (by decide) e55 (⟨rfl, N55, K55, V55'⟩)

def Q55 (Z : State) (sb : Addr) (ts : List Int32) (cap k n : Nat) (h0 : Heap) (n0 : Nat) (v : Option Value) (h : Heap) (L : List Loc) : Prop := v = none ∧ Fr n0 L ∧ Keep h0 h [sb] ∧ ∃ (nv : Addr) (kn : ClassId), n0 ≤ nv ∧ h0.size ≤ nv ∧ own_B Z h sb nv kn (1 : Int32) (Int32.ofNat k) (Int32.ofNat (2 * cap)) (own_A (2 * cap) (own_fW (ts.take (k + n))))

theorem rm55 (l : Launch) (Z : State) (a0 : Array Value) (hw : own_HW a0 Z) (ws : List Jvm.Cond) (sb vb : Addr) (kv : ClassId) (ts : List Int32) (cap k : Nat) (st sv : Addr) (ks : ClassId) (ds : List Int32) (n : Nat) (h0 : Heap) (n0 : Nat) (Z0 : n0 ≤ h0.size) (gs : n0 ≤ sb) (gv : n0 ≤ vb) (hsv : sb ≠ vb) (hcap : cap ≤ 150) (hkc : k ≤ cap) (n1 : st ≠ sb) (n2 : sv ≠ sb) (n3 : st ≠ vb) (n4 : sv ≠ vb) (B0 : own_B Z h0 sb vb kv (0 : Int32) (Int32.ofNat k) (Int32.ofNat cap) (own_A cap (own_fL (ts.take k)))) (D0 : own_D Z h0 st sv ks (1 : Int32) (Int32.ofNat (2 * n)) (own_wide ds)) (hds : ds.length = n) (hd : ∀ j, j < n → ds.getD j 0 = ts.getD (k + j) 0) (hB5 : ∀ j, j < k → 0 ≤ (ts.getD j 0).toInt ∧ (ts.getD j 0).toInt ≤ 255) (hg : k + n ≤ cap) (G1 : Int32) (US : own_US Z G1) (O0 : Old Z n0 h0) (G3 : Value) (rG3 : G3.isRef = true) (Sf : own_SF Z G3) :
  own_Met l own_M26 jdk_68_method_73_code 3 none ws own_R_7_1_300_104 Z #[(.ref sb), (.int (Int32.ofNat k)), (.ref st)] h0 (Q55 Z sb ts cap k n h0 n0) := by
 refine own_enter #[.val (.ref sb), .val (.int (Int32.ofNat k)), .val (.ref st)] (plainFor_of_name pn_java_lang_AbstractStringBuilder) (fun m => ef_RIR_3 m sb (Int32.ofNat k) st) ?_
 intro p e s m below meth c s₁ hx hby hml hown hnm hZ hrt hlk X0 e0
 have w := @own_w _ _ hw
 have N0 := Fr.nil n0
 refine own_tp (.ref sb) 1 (fun _ q => XS.aloadN X0.here hx rfl (hb hby dj68m73_0) rfl rfl q) ?_
 refine own_tp (.ref st) 2 (fun _ q => XS.aloadN X0.here hx rfl (hb hby dj68m73_1) rfl rfl q) ?_
 obtain ⟨cq51, kq51, q51a, q51b, q51c⟩ := isOf hZ e0 B0.1
 obtain ⟨_, _, ⟨T51, L51, k51, n51⟩, -, X51, ⟨Lc51, hQ51, l51, y51, z51⟩, st51⟩ := X0.virtualBack hx (y := own_M24) (z := own_M24) hown (mvT hZ (w 144 rfl)) (mvT hZ (own_decl (w 145 rfl) (w 148 rfl))) (notFace_of_selects (args := #[]) (mvT hZ (w 147 rfl))) (mvT hZ (w 147 rfl)) (mvT hZ (w 145 rfl)) (by decide) (backOf (W := 0) (rm53 l Z a0 hw [] sb vb kv ts cap k st sv ks ds n h0 n0 Z0 gs gv hsv (by omega) (by omega) n1 n2 n3 n4 B0 D0 hds hd hB5 (by omega) G1 US O0 G3 rG3 Sf) hZ (w 148 rfl) (w 86 rfl) (by decide) (by decide)) q51a q51c (g := (mkF m 2 #[.val (.ref sb), .val (.int (Int32.ofNat k)), .val (.ref st)] [(.ref st), (.ref sb)])) rfl (by rw [hml]; rfl) (Steps.refl _) (argsL := [(.ref st)]) (rest := []) (lenOf pd15 rfl) rfl (by show 2 * 0 + _ ≤ _; exact Nat.le_of_eq rfl) (hb hby dj68m73_2) (fun _ _ => ⟨rfl, e0, (by decide : 0 + 1 ≤ _), (by decide : 0 + 300 ≤ _)⟩)
 dsimp only [Pt.U, Pt.locs, Pt.cells, Pt.slots] at X51 l51 y51 z51 st51 hQ51
 subst l51 y51 z51
 obtain ⟨rfl, Nq51, Kp51, nv51, kn51, gn51, sn51, B51⟩ := hQ51
 have ne52 : sb ≠ nv51 := Nat.ne_of_lt (Nat.lt_of_lt_of_le B0.1.lt sn51)
 have ne53 : vb ≠ nv51 := Nat.ne_of_lt (Nat.lt_of_lt_of_le B0.2.2.2.2.2.lt sn51)
 have ne54 : st ≠ nv51 := Nat.ne_of_lt (Nat.lt_of_lt_of_le D0.1.lt sn51)
 have ne55 : sv ≠ nv51 := Nat.ne_of_lt (Nat.lt_of_lt_of_le D0.2.2.2.lt sn51)
 have s0nv51 : h0.size ≤ nv51 := Nat.le_trans (Keep.refl h0 [sb]).1 sn51
 have N51 := Fr.app N0 Nq51
 have O51 := Old.keep O0 Kp51 (allS gs all0)
 have Z51 : n0 ≤ T51.heap.size := Nat.le_trans Z0 Kp51.1
 have K51 : Keep h0 T51.heap [sb] := Keep.trans (Keep.refl h0 [sb]) Kp51 (allS (Or.inl (List.mem_of_getElem? (i := 0) rfl)) all0)
 refine own_csR [] 5 st51 ?_
 refine own_tp (.ref st) 6 (fun _ q => XS.aloadN X51.here hx rfl (hb hby dj68m73_5) rfl rfl q) ?_
 refine own_tp (.ref sb) 7 (fun _ q => XS.aloadN X51.here hx rfl (hb hby dj68m73_6) rfl rfl q) ?_
 obtain ⟨T56, X56, e56, st56⟩ := getF X51 hx hZ hown (host := "") (Or.inl (w 90 rfl)) Via.refl rfl B51.2.1 (g := (mkF m 7 #[.val (.ref sb), .val (.int (Int32.ofNat k)), .val (.ref st)] [(.ref sb), (.ref st)])) rfl rfl (hb hby dj68m73_7)
 refine own_t1 (.ref nv51) 10 st56 ?_
 refine own_tp (.int (Int32.ofNat k)) 11 (fun _ q => XS.iloadN X56.here hx rfl (hb hby dj68m73_10) rfl q) ?_
 refine own_tp (.ref sb) 12 (fun _ q => XS.aloadN X56.here hx rfl (hb hby dj68m73_11) rfl rfl q) ?_
 obtain ⟨T57, X57, e57, st57⟩ := getF X56 hx hZ hown (host := "") (Or.inl (w 92 rfl)) Via.refl e56 B51.2.2.1 (g := (mkF m 12 #[.val (.ref sb), .val (.int (Int32.ofNat k)), .val (.ref st)] [(.ref sb), (.int (Int32.ofNat k)), (.ref nv51), (.ref st)])) rfl rfl (hb hby dj68m73_12)
 refine own_t1 (.int (1 : Int32)) 15 st57 ?_
 have f58 := (D0.1.keep Kp51)
 have f59 := (D0.2.1.keep Kp51 (ninS n1 nin0))
 have f60 := (D0.2.2.1.keep Kp51 (ninS n1 nin0))
 have f61 := (D0.2.2.2.keep Kp51 (ninS n2 nin0))
 obtain ⟨cq62, kq62, q62a, q62b, q62c⟩ := isOf hZ e57 f58
 obtain ⟨_, _, ⟨T62, L62, k62, n62⟩, -, X62, ⟨Lc62, hQ62, l62, y62, z62⟩, st62⟩ := X57.virtualBack hx (y := own_M25) (z := own_M25) hown (mvT hZ (w 150 rfl)) (mvT hZ (w 151 rfl)) (notFace_of_selects (args := #[]) (mvT hZ (w 153 rfl))) (mvT hZ (w 153 rfl)) (mvT hZ (w 152 rfl)) (by decide) (backOf (W := 0) (rm54 l Z a0 hw [] sb nv51 kn51 ts cap k st sv ks ds n T51.heap n0 Z51 gs gn51 ne52 (by omega) (by omega) n1 n2 ne54 ne55 B51 ⟨f58, f59, f60, f61⟩ hds hd hB5 (by omega) G1 US O51 G3 rG3 Sf) hZ (w 154 rfl) (w 5 rfl) (by decide) (by decide)) q62a q62c (g := (mkF m 15 #[.val (.ref sb), .val (.int (Int32.ofNat k)), .val (.ref st)] [(.int (1 : Int32)), (.int (Int32.ofNat k)), (.ref nv51), (.ref st)])) rfl (by rw [hml]; rfl) (Steps.refl _) (argsL := [(.ref nv51), (.int (Int32.ofNat k)), (.int (1 : Int32))]) (rest := []) (lenOf pd16 rfl) rfl (by show 2 * 0 + _ ≤ _; exact Nat.le_of_eq rfl) (hb hby dj68m73_15) (fun _ _ => ⟨rfl, e57, (by decide : 1 + 0 ≤ _), (by decide : 300 + 0 ≤ _)⟩)
 dsimp only [Pt.U, Pt.locs, Pt.cells, Pt.slots] at X62 l62 y62 z62 st62 hQ62
 subst l62 y62 z62
 obtain ⟨rfl, Nq62, Kp62, V62⟩ := hQ62
 have N62 := Fr.app N51 Nq62
 have O62 := Old.keep O51 Kp62 (allS gn51 all0)
 have Z62 : n0 ≤ T62.heap.size := Nat.le_trans Z51 Kp62.1
 have K62 : Keep h0 T62.heap [sb] := Keep.trans K51 Kp62 (allS (Or.inr s0nv51) all0)
 refine own_csR [] 18 st62 ?_
 have f63 := (B51.1.keep Kp62)
 have f64 := (B51.2.1.keep Kp62 (ninS ne52 nin0))
 have f65 := (B51.2.2.1.keep Kp62 (ninS ne52 nin0))
 have f66 := (B51.2.2.2.1.keep Kp62 (ninS ne52 nin0))
 have f67 := (B51.2.2.2.2.1.keep Kp62 (ninS ne52 nin0))
 exact own_retV X62 hx hrt (hb hby dj68m73_18) hlk (by decide) (by decide) rfl (⟨rfl, N62, K62, nv51, _, gn51, s0nv51, ⟨f63, f64, f65, f66, f67, V62⟩⟩)

def Q56 (Z : State) (sb vb : Addr) (ts : List Int32) (cap k n : Nat) (h0 : Heap) (n0 : Nat) (v : Option Value) (h : Heap) (L : List Loc) : Prop := v = some (.ref sb) ∧ Fr n0 L ∧ Keep h0 h [sb, vb] ∧ ∃ (nv : Addr) (kn : ClassId), n0 ≤ nv ∧ h0.size ≤ nv ∧ own_B Z h sb nv kn (1 : Int32) (Int32.ofNat (k + n)) (Int32.ofNat (2 * cap)) (own_A (2 * cap) (own_fW (ts.take (k + n))))

theorem rm56 (l : Launch) (Z : State) (a0 : Array Value) (hw : own_HW a0 Z) (ws : List Jvm.Cond) (sb vb : Addr) (kv : ClassId) (ts : List Int32) (cap k : Nat) (st sv : Addr) (ks : ClassId) (ds : List Int32) (n : Nat) (h0 : Heap) (n0 : Nat) (Z0 : n0 ≤ h0.size) (gs : n0 ≤ sb) (gv : n0 ≤ vb) (hsv : sb ≠ vb) (hcap : cap ≤ 150) (hkc : k ≤ cap) (n1 : st ≠ sb) (n2 : sv ≠ sb) (n3 : st ≠ vb) (n4 : sv ≠ vb) (B0 : own_B Z h0 sb vb kv (0 : Int32) (Int32.ofNat k) (Int32.ofNat cap) (own_A cap (own_fL (ts.take k)))) (D0 : own_D Z h0 st sv ks (1 : Int32) (Int32.ofNat (2 * n)) (own_wide ds)) (hds : ds.length = n) (hd : ∀ j, j < n → ds.getD j 0 = ts.getD (k + j) 0) (hB5 : ∀ j, j < k → 0 ≤ (ts.getD j 0).toInt ∧ (ts.getD j 0).toInt ≤ 255) (hg : k + n ≤ cap) (G1 : Int32) (US : own_US Z G1) (O0 : Old Z n0 h0) (G3 : Value) (rG3 : G3.isRef = true) (Sf : own_SF Z G3) :
  own_Met l own_M27 jdk_68_method_22_code 3 (some (.object "java/lang/AbstractStringBuilder")) ws own_R_8_1_300_118 Z #[(.ref sb), (.ref st)] h0 (Q56 Z sb vb ts cap k n h0 n0) := by
 refine own_enter #[.val (.ref sb), .val (.ref st), .unset] (plainFor_of_name pn_java_lang_AbstractStringBuilder) (fun m => ef_RR_3 m sb st) ?_
 intro p e s m below meth c s₁ hx hby hml hown hnm hZ hrt hlk X0 e0
 have w := @own_w _ _ hw
 have N0 := Fr.nil n0
 refine own_tp (.ref st) 1 (fun _ q => XS.aloadN X0.here hx rfl (hb hby dj68m22_0) rfl rfl q) ?_
 refine own_d1 9 (fun _ q => XS.ifnonnullYes X0.here hx rfl (pc0 := 1) (pc' := 9) rfl (hb hby dj68m22_1) rfl (by decide) (by decide) q) ?_
 refine own_tp (.ref st) 10 (fun _ q => XS.aloadN X0.here hx rfl (hb hby dj68m22_9) rfl rfl q) ?_
 obtain ⟨cq51, kq51, q51a, q51b, q51c⟩ := isOf hZ e0 D0.1
 obtain ⟨_, _, ⟨T51, L51, k51, n51⟩, -, X51, ⟨Lc51, hQ51, l51, y51, z51⟩, st51⟩ := X0.virtualBack hx (y := own_M14) (z := own_M14) hown (mvT hZ (w 105 rfl)) (mvT hZ (w 60 rfl)) (notFace_of_selects (args := #[]) (mvT hZ (w 62 rfl))) (mvT hZ (w 62 rfl)) (mvT hZ (w 61 rfl)) (by decide) (backOf (W := 0) (rm44 l Z a0 hw [] st sv ks ds n h0 n0 (by omega) D0 G1 US O0) hZ (w 63 rfl) (w 5 rfl) (by decide) (by decide)) q51a q51c (g := (mkF m 10 #[.val (.ref sb), .val (.ref st), .unset] [(.ref st)])) rfl (by rw [hml]; rfl) (Steps.refl _) (argsL := []) (rest := []) (lenOf pd10 rfl) rfl (by show 2 * 0 + _ ≤ _; exact Nat.le_of_eq rfl) (hb hby dj68m22_10) (fun _ _ => ⟨rfl, e0, (by decide : 0 + 0 ≤ _), (by decide : 0 + 0 ≤ _)⟩)
 dsimp only [Pt.U, Pt.locs, Pt.cells, Pt.slots] at X51 l51 y51 z51 st51 hQ51
 subst l51 y51 z51
 obtain ⟨rfl, Nq51, eq51⟩ := hQ51
 have N51 := Fr.app N0 Nq51
 refine own_csR [(.int (Int32.ofNat n))] 13 st51 ?_
 refine own_ls #[.val (.ref sb), .val (.ref st), .val (.int (Int32.ofNat n))] 14 (fun _ q => XS.istoreN X51.here hx rfl (hb hby dj68m22_13) rfl (l' := #[.val (.ref sb), .val (.ref st), .val (.int (Int32.ofNat n))]) rfl q) ?_
 refine own_tp (.ref sb) 15 (fun _ q => XS.aloadN X51.here hx rfl (hb hby dj68m22_14) rfl rfl q) ?_
 refine own_tp (.ref sb) 16 (fun _ q => XS.aloadN X51.here hx rfl (hb hby dj68m22_15) rfl rfl q) ?_
 obtain ⟨T52, X52, e52, st52⟩ := getF X51 hx hZ hown (host := "") (Or.inl (w 106 rfl)) Via.refl eq51 B0.2.2.2.1 (g := (mkF m 16 #[.val (.ref sb), .val (.ref st), .val (.int (Int32.ofNat n))] [(.ref sb), (.ref sb)])) rfl rfl (hb hby dj68m22_16)
 refine own_t1 (.int (Int32.ofNat k)) 19 st52 ?_
 refine own_tp (.int (Int32.ofNat n)) 20 (fun _ q => XS.iloadN X52.here hx rfl (hb hby dj68m22_19) rfl q) ?_
 refine own_t2 (.int ((Int32.ofNat k) + (Int32.ofNat n))) 21 (fun _ q => XS.iadd X52.here hx rfl (hb hby dj68m22_20) rfl q) ?_
 rw [← Int32.ofNat_add]
 obtain ⟨cq53, kq53, q53a, q53b, q53c⟩ := isOf hZ e52 B0.1
 obtain ⟨_, _, ⟨T53, L53, k53, n53⟩, -, X53, ⟨Lc53, hQ53, l53, y53, z53⟩, st53⟩ := X52.virtualBack hx (y := own_M23) (z := own_M23) hown (mvT hZ (w 108 rfl)) (mvT hZ (own_decl (w 109 rfl) (w 112 rfl))) (notFace_of_selects (args := #[]) (mvT hZ (w 111 rfl))) (mvT hZ (w 111 rfl)) (mvT hZ (w 109 rfl)) (by decide) (backOf (W := 0) (rm40 l Z a0 hw [] sb vb kv ts cap k n h0 n0 Z0 gs gv hsv (by omega) (by omega) hg B0 G1 US O0) hZ (w 112 rfl) (w 86 rfl) (by decide) (by decide)) q53a q53c (g := (mkF m 21 #[.val (.ref sb), .val (.ref st), .val (.int (Int32.ofNat n))] [(.int (Int32.ofNat (k + n))), (.ref sb)])) rfl (by rw [hml]; rfl) (Steps.refl _) (argsL := [(.int (Int32.ofNat (k + n)))]) (rest := []) (lenOf pd12 rfl) rfl (by show 2 * 0 + _ ≤ _; exact Nat.le_of_eq rfl) (hb hby dj68m22_21) (fun _ _ => ⟨rfl, e52, (by decide : 0 + 0 ≤ _), (by decide : 0 + 0 ≤ _)⟩)
 dsimp only [Pt.U, Pt.locs, Pt.cells, Pt.slots] at X53 l53 y53 z53 st53 hQ53
 subst l53 y53 z53
 obtain ⟨rfl, Nq53, eq53⟩ := hQ53
 have N53 := Fr.app N51 Nq53
 refine own_csR [] 24 st53 ?_
 refine own_tp (.ref sb) 25 (fun _ q => XS.aloadN X53.here hx rfl (hb hby dj68m22_24) rfl rfl q) ?_
 refine own_tp (.ref sb) 26 (fun _ q => XS.aloadN X53.here hx rfl (hb hby dj68m22_25) rfl rfl q) ?_
 obtain ⟨T54, X54, e54, st54⟩ := getF X53 hx hZ hown (host := "") (Or.inl (w 106 rfl)) Via.refl eq53 B0.2.2.2.1 (g := (mkF m 26 #[.val (.ref sb), .val (.ref st), .val (.int (Int32.ofNat n))] [(.ref sb), (.ref sb)])) rfl rfl (hb hby dj68m22_26)
 refine own_t1 (.int (Int32.ofNat k)) 29 st54 ?_
 refine own_tp (.ref st) 30 (fun _ q => XS.aloadN X54.here hx rfl (hb hby dj68m22_29) rfl rfl q) ?_
 obtain ⟨cq55, kq55, q55a, q55b, q55c⟩ := isOf hZ e54 B0.1
 obtain ⟨_, _, ⟨T55, L55, k55, n55⟩, -, X55, ⟨Lc55, hQ55, l55, y55, z55⟩, st55⟩ := X54.virtualBack hx (y := own_M26) (z := own_M26) hown (mvT hZ (w 139 rfl)) (mvT hZ (own_decl (w 140 rfl) (w 143 rfl))) (notFace_of_selects (args := #[]) (mvT hZ (w 142 rfl))) (mvT hZ (w 142 rfl)) (mvT hZ (w 140 rfl)) (by decide) (backOf (W := 0) (rm55 l Z a0 hw [] sb vb kv ts cap k st sv ks ds n h0 n0 Z0 gs gv hsv (by omega) (by omega) n1 n2 n3 n4 B0 D0 hds hd hB5 (by omega) G1 US O0 G3 rG3 Sf) hZ (w 143 rfl) (w 86 rfl) (by decide) (by decide)) q55a q55c (g := (mkF m 30 #[.val (.ref sb), .val (.ref st), .val (.int (Int32.ofNat n))] [(.ref st), (.int (Int32.ofNat k)), (.ref sb)])) rfl (by rw [hml]; rfl) (Steps.refl _) (argsL := [(.int (Int32.ofNat k)), (.ref st)]) (rest := []) (lenOf pd17 rfl) rfl (by show 2 * 0 + _ ≤ _; exact Nat.le_of_eq rfl) (hb hby dj68m22_30) (fun _ _ => ⟨rfl, e54, (by decide : 0 + 1 ≤ _), (by decide : 0 + 300 ≤ _)⟩)
 dsimp only [Pt.U, Pt.locs, Pt.cells, Pt.slots] at X55 l55 y55 z55 st55 hQ55
 subst l55 y55 z55
 obtain ⟨rfl, Nq55, Kp55, nv55, kn55, gn55, sn55, B55⟩ := hQ55
 have ne56 : sb ≠ nv55 := Nat.ne_of_lt (Nat.lt_of_lt_of_le B0.1.lt sn55)
 have ne57 : vb ≠ nv55 := Nat.ne_of_lt (Nat.lt_of_lt_of_le B0.2.2.2.2.2.lt sn55)
 have ne58 : st ≠ nv55 := Nat.ne_of_lt (Nat.lt_of_lt_of_le D0.1.lt sn55)
 have ne59 : sv ≠ nv55 := Nat.ne_of_lt (Nat.lt_of_lt_of_le D0.2.2.2.lt sn55)
 have s0nv55 : h0.size ≤ nv55 := Nat.le_trans (Keep.refl h0 [sb, vb]).1 sn55
 have N55 := Fr.app N53 Nq55
 have O55 := Old.keep O0 Kp55 (allS gs all0)
 have Z55 : n0 ≤ T55.heap.size := Nat.le_trans Z0 Kp55.1
 have K55 : Keep h0 T55.heap [sb, vb] := Keep.trans (Keep.refl h0 [sb, vb]) Kp55 (allS (Or.inl (List.mem_of_getElem? (i := 0) rfl)) all0)
 refine own_csR [] 33 st55 ?_
 refine own_tp (.ref sb) 34 (fun _ q => XS.aloadN X55.here hx rfl (hb hby dj68m22_33) rfl rfl q) ?_
 refine own_tp (.ref sb) 35 (fun _ q => XS.dup X55.here hx rfl (hb hby dj68m22_34) rfl rfl q) ?_
 obtain ⟨T60, X60, e60, st60⟩ := getF X55 hx hZ hown (host := "") (Or.inl (w 106 rfl)) Via.refl rfl B55.2.2.2.1 (g := (mkF m 35 #[.val (.ref sb), .val (.ref st), .val (.int (Int32.ofNat n))] [(.ref sb), (.ref sb)])) rfl rfl (hb hby dj68m22_35)
 refine own_t1 (.int (Int32.ofNat k)) 38 st60 ?_
 refine own_tp (.int (Int32.ofNat n)) 39 (fun _ q => XS.iloadN X60.here hx rfl (hb hby dj68m22_38) rfl q) ?_
 refine own_t2 (.int ((Int32.ofNat k) + (Int32.ofNat n))) 40 (fun _ q => XS.iadd X60.here hx rfl (hb hby dj68m22_39) rfl q) ?_
 rw [← Int32.ofNat_add]
 obtain ⟨T61, h61, X61, e61, W61, st61⟩ := putF X60 hx hZ hown (host := "") (Or.inl (w 106 rfl)) Via.refl e60 B55.2.2.2.1 B55.1 (Or.inl (w 107 rfl)) (w 77 rfl) (ty := .int) (by decide) rfl rfl (g := (mkF m 40 #[.val (.ref sb), .val (.ref st), .val (.int (Int32.ofNat n))] [(.int (Int32.ofNat (k + n))), (.ref sb)])) rfl rfl (hb hby dj68m22_40)
 have Fw61 := B55.2.2.2.1.same W61
 have N61 := Fr.snoc X61 N55 gs
 have O61 := Old.wr O55 W61 gs
 have K61 : Keep h0 h61 [sb, vb] := K55.wr W61 (Or.inl (List.mem_of_getElem? (i := 0) rfl))
 have Z61 : n0 ≤ h61.size := Nat.le_trans Z55 (Nat.le_of_eq W61.size.symm)
 refine own_d2 43 st61 ?_
 refine own_tp (.ref sb) 44 (fun _ q => XS.aloadN X61.here hx rfl (hb hby dj68m22_43) rfl rfl q) ?_
 have f62 := (B55.1.wr W61)
 have f63 := (B55.2.1.other W61 (Or.inr (slot_ne (Or.inl (w 91 rfl)) (Or.inl (w 107 rfl)) (by decide) (t := (.array .byte)) (t' := .int) (by decide) (by decide))))
 have f64 := (B55.2.2.1.other W61 (Or.inr (slot_ne (Or.inl (w 93 rfl)) (Or.inl (w 107 rfl)) (by decide) (t := .byte) (t' := .int) (by decide) (by decide))))
 have f65 := (B55.2.2.2.2.1.other W61 (Or.inr (slot_ne (Or.inl (w 272 rfl)) (Or.inl (w 107 rfl)) (by decide) (t := .boolean) (t' := .int) (by decide) (by decide))))
 have f66 := (B55.2.2.2.2.2.other W61 (Ne.symm ne56))
 exact own_retR X61 hx hrt (hb hby dj68m22_44) rfl rfl hlk (by decide) (by decide) e61 (⟨rfl, N61, K61, nv55, _, gn55, s0nv55, ⟨f62, f63, f64, Fw61, f65, f66⟩⟩)

def Q57 (Z : State) (sb vb : Addr) (ts : List Int32) (cap k n : Nat) (h0 : Heap) (n0 : Nat) (v : Option Value) (h : Heap) (L : List Loc) : Prop := v = some (.ref sb) ∧ Fr n0 L ∧ Keep h0 h [sb, vb] ∧ ∃ (nv : Addr) (kn : ClassId), n0 ≤ nv ∧ h0.size ≤ nv ∧ own_B Z h sb nv kn (1 : Int32) (Int32.ofNat (k + n)) (Int32.ofNat (2 * cap)) (own_A (2 * cap) (own_fW (ts.take (k + n))))

theorem rm57 (l : Launch) (Z : State) (a0 : Array Value) (hw : own_HW a0 Z) (ws : List Jvm.Cond) (sb vb : Addr) (kv : ClassId) (ts : List Int32) (cap k : Nat) (st sv : Addr) (ks : ClassId) (ds : List Int32) (n : Nat) (h0 : Heap) (n0 : Nat) (Z0 : n0 ≤ h0.size) (gs : n0 ≤ sb) (gv : n0 ≤ vb) (hsv : sb ≠ vb) (hcap : cap ≤ 150) (hkc : k ≤ cap) (n1 : st ≠ sb) (n2 : sv ≠ sb) (n3 : st ≠ vb) (n4 : sv ≠ vb) (B0 : own_B Z h0 sb vb kv (0 : Int32) (Int32.ofNat k) (Int32.ofNat cap) (own_A cap (own_fL (ts.take k)))) (D0 : own_D Z h0 st sv ks (1 : Int32) (Int32.ofNat (2 * n)) (own_wide ds)) (hds : ds.length = n) (hd : ∀ j, j < n → ds.getD j 0 = ts.getD (k + j) 0) (hB5 : ∀ j, j < k → 0 ≤ (ts.getD j 0).toInt ∧ (ts.getD j 0).toInt ≤ 255) (hg : k + n ≤ cap) (G1 : Int32) (US : own_US Z G1) (O0 : Old Z n0 h0) (G3 : Value) (rG3 : G3.isRef = true) (Sf : own_SF Z G3) :
  own_Met l own_M28 jdk_67_method_7_code 2 (some (.object "java/lang/StringBuilder")) ws own_R_9_1_300_132 Z #[(.ref sb), (.ref st)] h0 (Q57 Z sb vb ts cap k n h0 n0) := by
 refine own_enter #[.val (.ref sb), .val (.ref st)] (plainFor_of_name pn_java_lang_StringBuilder) (fun m => ef_RR_2 m sb st) ?_
 intro p e s m below meth c s₁ hx hby hml hown hnm hZ hrt hlk X0 e0
 have w := @own_w _ _ hw
 have N0 := Fr.nil n0
 refine own_tp (.ref sb) 1 (fun _ q => XS.aloadN X0.here hx rfl (hb hby dj67m7_0) rfl rfl q) ?_
 refine own_tp (.ref st) 2 (fun _ q => XS.aloadN X0.here hx rfl (hb hby dj67m7_1) rfl rfl q) ?_
 obtain ⟨_, _, ⟨T51, L51, k51, n51⟩, -, X51, ⟨Lc51, hQ51, l51, y51, z51⟩, st51⟩ := superBack X0 hx hZ (K := "java/lang/StringBuilder") (y := own_M27) hown (w 100 rfl) (own_same (w 103 rfl) (w 111 rfl) rfl (by decide)) (w 101 rfl) (w 102 rfl) (by decide) (backOf (W := 0) (rm56 l Z a0 hw [] sb vb kv ts cap k st sv ks ds n h0 n0 Z0 gs gv hsv (by omega) (by omega) n1 n2 n3 n4 B0 D0 hds hd hB5 hg G1 US O0 G3 rG3 Sf) hZ (w 104 rfl) (w 86 rfl) (by decide) (by decide)) e0 (Ins.self B0.1) (g := (mkF m 2 #[.val (.ref sb), .val (.ref st)] [(.ref st), (.ref sb)])) rfl (by rw [hml]; rfl) (w 104 rfl) (argsL := [(.ref st)]) (rest := []) (lenOf pd18 rfl) rfl (by show 2 * 0 + _ ≤ _; exact Nat.le_of_eq rfl) (hb hby dj67m7_2) (fun _ _ => ⟨rfl, e0, (by decide : 0 + 1 ≤ _), (by decide : 0 + 300 ≤ _)⟩)
 dsimp only [Pt.U, Pt.locs, Pt.cells, Pt.slots] at X51 l51 y51 z51 st51 hQ51
 subst l51 y51 z51
 obtain ⟨rfl, Nq51, Kp51, rest51⟩ := hQ51
 refine own_csR [(.ref sb)] 5 st51 ?_
 refine own_d1 6 (fun _ q => XS.pop X51.here hx rfl (hb hby dj67m7_5) rfl rfl q) ?_
 refine own_tp (.ref sb) 7 (fun _ q => XS.aloadN X51.here hx rfl (hb hby dj67m7_6) rfl rfl q) ?_
 exact own_retR X51 hx hrt (hb hby dj67m7_7) rfl rfl hlk (by decide) (by decide) rfl (⟨rfl, Fr.app N0 Nq51, Kp51, rest51⟩)

def Q58 (Z : State) (sb vb : Addr) (ts : List Int32) (cap k n C : Nat) (h0 : Heap) (n0 : Nat) (v : Option Value) (h : Heap) (L : List Loc) : Prop := v = some (.ref sb) ∧ Fr n0 L ∧ Keep h0 h [sb, vb] ∧ ∃ (nv : Addr) (kn : ClassId), n0 ≤ nv ∧ h0.size ≤ nv ∧ own_B Z h sb nv kn (1 : Int32) (Int32.ofNat (k + n)) (Int32.ofNat (2 * C)) (own_A (2 * C) (own_fW (ts.take (k + n))))

theorem rm58 (l : Launch) (Z : State) (a0 : Array Value) (hw : own_HW a0 Z) (ws : List Jvm.Cond) (sb vb : Addr) (kv : ClassId) (ts : List Int32) (cap k : Nat) (st sv : Addr) (ks : ClassId) (ds : List Int32) (n C : Nat) (h0 : Heap) (n0 : Nat) (Z0 : n0 ≤ h0.size) (gs : n0 ≤ sb) (gv : n0 ≤ vb) (hsv : sb ≠ vb) (hcap : cap ≤ 150) (hkc : k ≤ cap) (n1 : st ≠ sb) (n2 : sv ≠ sb) (n3 : st ≠ vb) (n4 : sv ≠ vb) (B0 : own_B Z h0 sb vb kv (0 : Int32) (Int32.ofNat k) (Int32.ofNat cap) (own_A cap (own_fL (ts.take k)))) (D0 : own_D Z h0 st sv ks (1 : Int32) (Int32.ofNat (2 * n)) (own_wide ds)) (hds : ds.length = n) (hd : ∀ j, j < n → ds.getD j 0 = ts.getD (k + j) 0) (hB5 : ∀ j, j < k → 0 ≤ (ts.getD j 0).toInt ∧ (ts.getD j 0).toInt ≤ 255) (hg : cap < k + n) (hcp : 0 < cap) (hC : (cap + max (k + n - cap) (cap + 2)) = C) (hC2 : C ≤ 150) (hC3 : k + n ≤ C) (G1 : Int32) (US : own_US Z G1) (O0 : Old Z n0 h0) (G3 : Value) (rG3 : G3.isRef = true) (Sf : own_SF Z G3) :
  own_Met l own_M27 jdk_68_method_22_code 3 (some (.object "java/lang/AbstractStringBuilder")) ws own_R_8_2_450_118 Z #[(.ref sb), (.ref st)] h0 (Q58 Z sb vb ts cap k n C h0 n0) := by
 refine own_enter #[.val (.ref sb), .val (.ref st), .unset] (plainFor_of_name pn_java_lang_AbstractStringBuilder) (fun m => ef_RR_3 m sb st) ?_
 intro p e s m below meth c s₁ hx hby hml hown hnm hZ hrt hlk X0 e0
 have w := @own_w _ _ hw
 have N0 := Fr.nil n0
 refine own_tp (.ref st) 1 (fun _ q => XS.aloadN X0.here hx rfl (hb hby dj68m22_0) rfl rfl q) ?_
 refine own_d1 9 (fun _ q => XS.ifnonnullYes X0.here hx rfl (pc0 := 1) (pc' := 9) rfl (hb hby dj68m22_1) rfl (by decide) (by decide) q) ?_
 refine own_tp (.ref st) 10 (fun _ q => XS.aloadN X0.here hx rfl (hb hby dj68m22_9) rfl rfl q) ?_
 obtain ⟨cq51, kq51, q51a, q51b, q51c⟩ := isOf hZ e0 D0.1
 obtain ⟨_, _, ⟨T51, L51, k51, n51⟩, -, X51, ⟨Lc51, hQ51, l51, y51, z51⟩, st51⟩ := X0.virtualBack hx (y := own_M14) (z := own_M14) hown (mvT hZ (w 105 rfl)) (mvT hZ (w 60 rfl)) (notFace_of_selects (args := #[]) (mvT hZ (w 62 rfl))) (mvT hZ (w 62 rfl)) (mvT hZ (w 61 rfl)) (by decide) (backOf (W := 0) (rm44 l Z a0 hw [] st sv ks ds n h0 n0 (by omega) D0 G1 US O0) hZ (w 63 rfl) (w 5 rfl) (by decide) (by decide)) q51a q51c (g := (mkF m 10 #[.val (.ref sb), .val (.ref st), .unset] [(.ref st)])) rfl (by rw [hml]; rfl) (Steps.refl _) (argsL := []) (rest := []) (lenOf pd10 rfl) rfl (by show 2 * 0 + _ ≤ _; exact Nat.le_of_eq rfl) (hb hby dj68m22_10) (fun _ _ => ⟨rfl, e0, (by decide : 0 + 0 ≤ _), (by decide : 0 + 0 ≤ _)⟩)
 dsimp only [Pt.U, Pt.locs, Pt.cells, Pt.slots] at X51 l51 y51 z51 st51 hQ51
 subst l51 y51 z51
 obtain ⟨rfl, Nq51, eq51⟩ := hQ51
 have N51 := Fr.app N0 Nq51
 refine own_csR [(.int (Int32.ofNat n))] 13 st51 ?_
 refine own_ls #[.val (.ref sb), .val (.ref st), .val (.int (Int32.ofNat n))] 14 (fun _ q => XS.istoreN X51.here hx rfl (hb hby dj68m22_13) rfl (l' := #[.val (.ref sb), .val (.ref st), .val (.int (Int32.ofNat n))]) rfl q) ?_
 refine own_tp (.ref sb) 15 (fun _ q => XS.aloadN X51.here hx rfl (hb hby dj68m22_14) rfl rfl q) ?_
 refine own_tp (.ref sb) 16 (fun _ q => XS.aloadN X51.here hx rfl (hb hby dj68m22_15) rfl rfl q) ?_
 obtain ⟨T52, X52, e52, st52⟩ := getF X51 hx hZ hown (host := "") (Or.inl (w 106 rfl)) Via.refl eq51 B0.2.2.2.1 (g := (mkF m 16 #[.val (.ref sb), .val (.ref st), .val (.int (Int32.ofNat n))] [(.ref sb), (.ref sb)])) rfl rfl (hb hby dj68m22_16)
 refine own_t1 (.int (Int32.ofNat k)) 19 st52 ?_
 refine own_tp (.int (Int32.ofNat n)) 20 (fun _ q => XS.iloadN X52.here hx rfl (hb hby dj68m22_19) rfl q) ?_
 refine own_t2 (.int ((Int32.ofNat k) + (Int32.ofNat n))) 21 (fun _ q => XS.iadd X52.here hx rfl (hb hby dj68m22_20) rfl q) ?_
 rw [← Int32.ofNat_add]
 obtain ⟨cq53, kq53, q53a, q53b, q53c⟩ := isOf hZ e52 B0.1
 obtain ⟨_, _, ⟨T53, L53, k53, n53⟩, -, X53, ⟨Lc53, hQ53, l53, y53, z53⟩, st53⟩ := X52.virtualBack hx (y := own_M23) (z := own_M23) hown (mvT hZ (w 108 rfl)) (mvT hZ (own_decl (w 109 rfl) (w 112 rfl))) (notFace_of_selects (args := #[]) (mvT hZ (w 111 rfl))) (mvT hZ (w 111 rfl)) (mvT hZ (w 109 rfl)) (by decide) (backOf (W := 0) (rm32 l Z a0 hw [] sb vb kv ts cap k n C h0 n0 Z0 gs gv hsv (by omega) (by omega) hg hcp hC hC2 B0 G1 US O0) hZ (w 112 rfl) (w 86 rfl) (by decide) (by decide)) q53a q53c (g := (mkF m 21 #[.val (.ref sb), .val (.ref st), .val (.int (Int32.ofNat n))] [(.int (Int32.ofNat (k + n))), (.ref sb)])) rfl (by rw [hml]; rfl) (Steps.refl _) (argsL := [(.int (Int32.ofNat (k + n)))]) (rest := []) (lenOf pd12 rfl) rfl (by show 2 * 0 + _ ≤ _; exact Nat.le_of_eq rfl) (hb hby dj68m22_21) (fun _ _ => ⟨rfl, e52, (by decide : 0 + 1 ≤ _), (by decide : 0 + 150 ≤ _)⟩)
 dsimp only [Pt.U, Pt.locs, Pt.cells, Pt.slots] at X53 l53 y53 z53 st53 hQ53
 subst l53 y53 z53
 obtain ⟨rfl, Nq53, Kp53, nv53, kn53, gn53, sn53, B53⟩ := hQ53
 have ne54 : sb ≠ nv53 := Nat.ne_of_lt (Nat.lt_of_lt_of_le B0.1.lt sn53)
 have ne55 : vb ≠ nv53 := Nat.ne_of_lt (Nat.lt_of_lt_of_le B0.2.2.2.2.2.lt sn53)
 have ne56 : st ≠ nv53 := Nat.ne_of_lt (Nat.lt_of_lt_of_le D0.1.lt sn53)
 have ne57 : sv ≠ nv53 := Nat.ne_of_lt (Nat.lt_of_lt_of_le D0.2.2.2.lt sn53)
 have s0nv53 : h0.size ≤ nv53 := Nat.le_trans (Keep.refl h0 [sb, vb]).1 sn53
 have N53 := Fr.app N51 Nq53
 have O53 := Old.keep O0 Kp53 (allS gs all0)
 have Z53 : n0 ≤ T53.heap.size := Nat.le_trans Z0 Kp53.1
 have K53 : Keep h0 T53.heap [sb, vb] := Keep.trans (Keep.refl h0 [sb, vb]) Kp53 (allS (Or.inl (List.mem_of_getElem? (i := 0) rfl)) all0)
 refine own_csR [] 24 st53 ?_
 refine own_tp (.ref sb) 25 (fun _ q => XS.aloadN X53.here hx rfl (hb hby dj68m22_24) rfl rfl q) ?_
 refine own_tp (.ref sb) 26 (fun _ q => XS.aloadN X53.here hx rfl (hb hby dj68m22_25) rfl rfl q) ?_
 obtain ⟨T58, X58, e58, st58⟩ := getF X53 hx hZ hown (host := "") (Or.inl (w 106 rfl)) Via.refl rfl B53.2.2.2.1 (g := (mkF m 26 #[.val (.ref sb), .val (.ref st), .val (.int (Int32.ofNat n))] [(.ref sb), (.ref sb)])) rfl rfl (hb hby dj68m22_26)
 refine own_t1 (.int (Int32.ofNat k)) 29 st58 ?_
 refine own_tp (.ref st) 30 (fun _ q => XS.aloadN X58.here hx rfl (hb hby dj68m22_29) rfl rfl q) ?_
 have f59 := (D0.1.keep Kp53)
 have f60 := (D0.2.1.keep Kp53 (ninS n1 nin0))
 have f61 := (D0.2.2.1.keep Kp53 (ninS n1 nin0))
 have f62 := (D0.2.2.2.keep Kp53 (ninS n2 nin0))
 obtain ⟨cq63, kq63, q63a, q63b, q63c⟩ := isOf hZ e58 B53.1
 obtain ⟨_, _, ⟨T63, L63, k63, n63⟩, -, X63, ⟨Lc63, hQ63, l63, y63, z63⟩, st63⟩ := X58.virtualBack hx (y := own_M26) (z := own_M26) hown (mvT hZ (w 139 rfl)) (mvT hZ (own_decl (w 140 rfl) (w 143 rfl))) (notFace_of_selects (args := #[]) (mvT hZ (w 142 rfl))) (mvT hZ (w 142 rfl)) (mvT hZ (w 140 rfl)) (by decide) (backOf (W := 0) (rm55 l Z a0 hw [] sb nv53 kn53 ts C k st sv ks ds n T53.heap n0 Z53 gs gn53 ne54 (by omega) (by omega) n1 n2 ne56 ne57 B53 ⟨f59, f60, f61, f62⟩ hds hd hB5 (by omega) G1 US O53 G3 rG3 Sf) hZ (w 143 rfl) (w 86 rfl) (by decide) (by decide)) q63a q63c (g := (mkF m 30 #[.val (.ref sb), .val (.ref st), .val (.int (Int32.ofNat n))] [(.ref st), (.int (Int32.ofNat k)), (.ref sb)])) rfl (by rw [hml]; rfl) (Steps.refl _) (argsL := [(.int (Int32.ofNat k)), (.ref st)]) (rest := []) (lenOf pd17 rfl) rfl (by show 2 * 0 + _ ≤ _; exact Nat.le_of_eq rfl) (hb hby dj68m22_30) (fun _ _ => ⟨rfl, e58, (by decide : 1 + 1 ≤ _), (by decide : 150 + 300 ≤ _)⟩)
 dsimp only [Pt.U, Pt.locs, Pt.cells, Pt.slots] at X63 l63 y63 z63 st63 hQ63
 subst l63 y63 z63
 obtain ⟨rfl, Nq63, Kp63, nv63, kn63, gn63, sn63, B63⟩ := hQ63
 have ne64 : sb ≠ nv63 := Nat.ne_of_lt (Nat.lt_of_lt_of_le B53.1.lt sn63)
 have ne65 : st ≠ nv63 := Nat.ne_of_lt (Nat.lt_of_lt_of_le f59.lt sn63)
 have ne66 : sv ≠ nv63 := Nat.ne_of_lt (Nat.lt_of_lt_of_le f62.lt sn63)
 have ne67 : nv53 ≠ nv63 := Nat.ne_of_lt (Nat.lt_of_lt_of_le B53.2.2.2.2.2.lt sn63)
 have s0nv63 : h0.size ≤ nv63 := Nat.le_trans K53.1 sn63
 have N63 := Fr.app N53 Nq63
 have O63 := Old.keep O53 Kp63 (allS gs all0)
 have Z63 : n0 ≤ T63.heap.size := Nat.le_trans Z53 Kp63.1
 have K63 : Keep h0 T63.heap [sb, vb] := Keep.trans K53 Kp63 (allS (Or.inl (List.mem_of_getElem? (i := 0) rfl)) all0)
 refine own_csR [] 33 st63 ?_
 refine own_tp (.ref sb) 34 (fun _ q => XS.aloadN X63.here hx rfl (hb hby dj68m22_33) rfl rfl q) ?_
 refine own_tp (.ref sb) 35 (fun _ q => XS.dup X63.here hx rfl (hb hby dj68m22_34) rfl rfl q) ?_
 obtain ⟨T68, X68, e68, st68⟩ := getF X63 hx hZ hown (host := "") (Or.inl (w 106 rfl)) Via.refl rfl B63.2.2.2.1 (g := (mkF m 35 #[.val (.ref sb), .val (.ref st), .val (.int (Int32.ofNat n))] [(.ref sb), (.ref sb)])) rfl rfl (hb hby dj68m22_35)
 refine own_t1 (.int (Int32.ofNat k)) 38 st68 ?_
 refine own_tp (.int (Int32.ofNat n)) 39 (fun _ q => XS.iloadN X68.here hx rfl (hb hby dj68m22_38) rfl q) ?_
 refine own_t2 (.int ((Int32.ofNat k) + (Int32.ofNat n))) 40 (fun _ q => XS.iadd X68.here hx rfl (hb hby dj68m22_39) rfl q) ?_
 rw [← Int32.ofNat_add]
 obtain ⟨T69, h69, X69, e69, W69, st69⟩ := putF X68 hx hZ hown (host := "") (Or.inl (w 106 rfl)) Via.refl e68 B63.2.2.2.1 B63.1 (Or.inl (w 107 rfl)) (w 77 rfl) (ty := .int) (by decide) rfl rfl (g := (mkF m 40 #[.val (.ref sb), .val (.ref st), .val (.int (Int32.ofNat n))] [(.int (Int32.ofNat (k + n))), (.ref sb)])) rfl rfl (hb hby dj68m22_40)
 have Fw69 := B63.2.2.2.1.same W69
 have N69 := Fr.snoc X69 N63 gs
 have O69 := Old.wr O63 W69 gs
 have K69 : Keep h0 h69 [sb, vb] := K63.wr W69 (Or.inl (List.mem_of_getElem? (i := 0) rfl))
 have Z69 : n0 ≤ h69.size := Nat.le_trans Z63 (Nat.le_of_eq W69.size.symm)
 refine own_d2 43 st69 ?_
 refine own_tp (.ref sb) 44 (fun _ q => XS.aloadN X69.here hx rfl (hb hby dj68m22_43) rfl rfl q) ?_
 have f70 := (B63.1.wr W69)
 have f71 := (B63.2.1.other W69 (Or.inr (slot_ne (Or.inl (w 91 rfl)) (Or.inl (w 107 rfl)) (by decide) (t := (.array .byte)) (t' := .int) (by decide) (by decide))))
 have f72 := (B63.2.2.1.other W69 (Or.inr (slot_ne (Or.inl (w 93 rfl)) (Or.inl (w 107 rfl)) (by decide) (t := .byte) (t' := .int) (by decide) (by decide))))
 have f73 := (B63.2.2.2.2.1.other W69 (Or.inr (slot_ne (Or.inl (w 272 rfl)) (Or.inl (w 107 rfl)) (by decide) (t := .boolean) (t' := .int) (by decide) (by decide))))
 have f74 := (B63.2.2.2.2.2.other W69 (Ne.symm ne64))
 exact own_retR X69 hx hrt (hb hby dj68m22_44) rfl rfl hlk (by decide) (by decide) e69 (⟨rfl, N69, K69, nv63, _, gn63, s0nv63, ⟨f70, f71, f72, Fw69, f73, f74⟩⟩)

def Q59 (Z : State) (sb vb : Addr) (ts : List Int32) (cap k n C : Nat) (h0 : Heap) (n0 : Nat) (v : Option Value) (h : Heap) (L : List Loc) : Prop := v = some (.ref sb) ∧ Fr n0 L ∧ Keep h0 h [sb, vb] ∧ ∃ (nv : Addr) (kn : ClassId), n0 ≤ nv ∧ h0.size ≤ nv ∧ own_B Z h sb nv kn (1 : Int32) (Int32.ofNat (k + n)) (Int32.ofNat (2 * C)) (own_A (2 * C) (own_fW (ts.take (k + n))))

theorem rm59 (l : Launch) (Z : State) (a0 : Array Value) (hw : own_HW a0 Z) (ws : List Jvm.Cond) (sb vb : Addr) (kv : ClassId) (ts : List Int32) (cap k : Nat) (st sv : Addr) (ks : ClassId) (ds : List Int32) (n C : Nat) (h0 : Heap) (n0 : Nat) (Z0 : n0 ≤ h0.size) (gs : n0 ≤ sb) (gv : n0 ≤ vb) (hsv : sb ≠ vb) (hcap : cap ≤ 150) (hkc : k ≤ cap) (n1 : st ≠ sb) (n2 : sv ≠ sb) (n3 : st ≠ vb) (n4 : sv ≠ vb) (B0 : own_B Z h0 sb vb kv (0 : Int32) (Int32.ofNat k) (Int32.ofNat cap) (own_A cap (own_fL (ts.take k)))) (D0 : own_D Z h0 st sv ks (1 : Int32) (Int32.ofNat (2 * n)) (own_wide ds)) (hds : ds.length = n) (hd : ∀ j, j < n → ds.getD j 0 = ts.getD (k + j) 0) (hB5 : ∀ j, j < k → 0 ≤ (ts.getD j 0).toInt ∧ (ts.getD j 0).toInt ≤ 255) (hg : cap < k + n) (hcp : 0 < cap) (hC : (cap + max (k + n - cap) (cap + 2)) = C) (hC2 : C ≤ 150) (hC3 : k + n ≤ C) (G1 : Int32) (US : own_US Z G1) (O0 : Old Z n0 h0) (G3 : Value) (rG3 : G3.isRef = true) (Sf : own_SF Z G3) :
  own_Met l own_M28 jdk_67_method_7_code 2 (some (.object "java/lang/StringBuilder")) ws own_R_9_2_450_132 Z #[(.ref sb), (.ref st)] h0 (Q59 Z sb vb ts cap k n C h0 n0) := by
 refine own_enter #[.val (.ref sb), .val (.ref st)] (plainFor_of_name pn_java_lang_StringBuilder) (fun m => ef_RR_2 m sb st) ?_
 intro p e s m below meth c s₁ hx hby hml hown hnm hZ hrt hlk X0 e0
 have w := @own_w _ _ hw
 have N0 := Fr.nil n0
 refine own_tp (.ref sb) 1 (fun _ q => XS.aloadN X0.here hx rfl (hb hby dj67m7_0) rfl rfl q) ?_
 refine own_tp (.ref st) 2 (fun _ q => XS.aloadN X0.here hx rfl (hb hby dj67m7_1) rfl rfl q) ?_
 obtain ⟨_, _, ⟨T51, L51, k51, n51⟩, -, X51, ⟨Lc51, hQ51, l51, y51, z51⟩, st51⟩ := superBack X0 hx hZ (K := "java/lang/StringBuilder") (y := own_M27) hown (w 100 rfl) (own_same (w 103 rfl) (w 111 rfl) rfl (by decide)) (w 101 rfl) (w 102 rfl) (by decide) (backOf (W := 0) (rm58 l Z a0 hw [] sb vb kv ts cap k st sv ks ds n C h0 n0 Z0 gs gv hsv (by omega) (by omega) n1 n2 n3 n4 B0 D0 hds hd hB5 hg hcp hC hC2 hC3 G1 US O0 G3 rG3 Sf) hZ (w 104 rfl) (w 86 rfl) (by decide) (by decide)) e0 (Ins.self B0.1) (g := (mkF m 2 #[.val (.ref sb), .val (.ref st)] [(.ref st), (.ref sb)])) rfl (by rw [hml]; rfl) (w 104 rfl) (argsL := [(.ref st)]) (rest := []) (lenOf pd18 rfl) rfl (by show 2 * 0 + _ ≤ _; exact Nat.le_of_eq rfl) (hb hby dj67m7_2) (fun _ _ => ⟨rfl, e0, (by decide : 0 + 2 ≤ _), (by decide : 0 + 450 ≤ _)⟩)
 dsimp only [Pt.U, Pt.locs, Pt.cells, Pt.slots] at X51 l51 y51 z51 st51 hQ51
 subst l51 y51 z51
 obtain ⟨rfl, Nq51, Kp51, rest51⟩ := hQ51
 refine own_csR [(.ref sb)] 5 st51 ?_
 refine own_d1 6 (fun _ q => XS.pop X51.here hx rfl (hb hby dj67m7_5) rfl rfl q) ?_
 refine own_tp (.ref sb) 7 (fun _ q => XS.aloadN X51.here hx rfl (hb hby dj67m7_6) rfl rfl q) ?_
 exact own_retR X51 hx hrt (hb hby dj67m7_7) rfl rfl hlk (by decide) (by decide) rfl (⟨rfl, Fr.app N0 Nq51, Kp51, rest51⟩)

def Q60  (h0 : Heap) (n0 : Nat) (v : Option Value) (h : Heap) (L : List Loc) : Prop := v = none ∧ Fr n0 L ∧ h = h0

theorem rm60 (l : Launch) (Z : State) (a0 : Array Value) (hw : own_HW a0 Z) (ws : List Jvm.Cond) (sb vb : Addr) (kv : ClassId) (ts : List Int32) (cap k n : Nat) (h0 : Heap) (n0 : Nat) (Z0 : n0 ≤ h0.size) (gs : n0 ≤ sb) (gv : n0 ≤ vb) (hsv : sb ≠ vb) (hcap : cap ≤ 150) (hkc : k ≤ cap) (hn' : k + n ≤ cap) (B0 : own_B Z h0 sb vb kv (1 : Int32) (Int32.ofNat k) (Int32.ofNat (2 * cap)) (own_A (2 * cap) (own_fW (ts.take k)))) (G1 : Int32) (US : own_US Z G1) (O0 : Old Z n0 h0) :
  own_Met l own_M23 jdk_68_method_9_code 3 none ws own_R_0_0_0_0 Z #[(.ref sb), (.int (Int32.ofNat (k + n)))] h0 (Q60 h0 n0) := by
 refine own_enter #[.val (.ref sb), .val (.int (Int32.ofNat (k + n))), .unset] (plainFor_of_name pn_java_lang_AbstractStringBuilder) (fun m => ef_RI_3 m sb (Int32.ofNat (k + n))) ?_
 intro p e s m below meth c s₁ hx hby hml hown hnm hZ hrt hlk X0 e0
 have w := @own_w _ _ hw
 have N0 := Fr.nil n0
 refine own_tp (.ref sb) 1 (fun _ q => XS.aloadN X0.here hx rfl (hb hby dj68m9_0) rfl rfl q) ?_
 obtain ⟨T51, X51, e51, st51⟩ := getF X0 hx hZ hown (host := "") (Or.inl (w 90 rfl)) Via.refl e0 B0.2.1 (g := (mkF m 1 #[.val (.ref sb), .val (.int (Int32.ofNat (k + n))), .unset] [(.ref sb)])) rfl rfl (hb hby dj68m9_1)
 refine own_t1 (.ref vb) 4 st51 ?_
 obtain ⟨cl52, Ar52, -, Sz52, Nn52, -, -⟩ := (id B0.2.2.2.2.2)
 refine own_t1 (.int (Int32.ofNat (2 * cap))) 5 (fun t q => X51.arraylength hx (by rw [e51]; exact Ar52.1) (State.isArrayOf_alike hZ.alike Ar52.2.1) (g := (mkF m 4 #[.val (.ref sb), .val (.int (Int32.ofNat (k + n))), .unset] [(.ref vb)])) rfl rfl (hb hby dj68m9_4) _ (by rw [len_of Sz52 Nn52]; exact q)) ?_
 refine own_tp (.ref sb) 6 (fun _ q => XS.aloadN X51.here hx rfl (hb hby dj68m9_5) rfl rfl q) ?_
 obtain ⟨T53, X53, e53, st53⟩ := getF X51 hx hZ hown (host := "") (Or.inl (w 92 rfl)) Via.refl e51 B0.2.2.1 (g := (mkF m 6 #[.val (.ref sb), .val (.int (Int32.ofNat (k + n))), .unset] [(.ref sb), (.int (Int32.ofNat (2 * cap)))])) rfl rfl (hb hby dj68m9_6)
 refine own_t1 (.int (1 : Int32)) 9 st53 ?_
 refine own_t2 (.int ((Int32.ofNat (2 * cap)) >>> ((1 : Int32) &&& 31))) 10 (fun _ q => XS.ishr X53.here hx rfl (hb hby dj68m9_9) rfl q) ?_
 rw [own_shr1 (by omega)]
 refine own_ls #[.val (.ref sb), .val (.int (Int32.ofNat (k + n))), .val (.int (Int32.ofNat cap))] 11 (fun _ q => XS.istoreN X53.here hx rfl (hb hby dj68m9_10) rfl (l' := #[.val (.ref sb), .val (.int (Int32.ofNat (k + n))), .val (.int (Int32.ofNat cap))]) rfl q) ?_
 refine own_tp (.int (Int32.ofNat (k + n))) 12 (fun _ q => XS.iloadN X53.here hx rfl (hb hby dj68m9_11) rfl q) ?_
 refine own_tp (.int (Int32.ofNat cap)) 13 (fun _ q => XS.iloadN X53.here hx rfl (hb hby dj68m9_12) rfl q) ?_
 refine own_t2 (.int ((Int32.ofNat (k + n)) - (Int32.ofNat cap))) 14 (fun _ q => XS.isub X53.here hx rfl (hb hby dj68m9_13) rfl q) ?_
 refine own_d1 38 (fun _ q => XS.ifYes X53.here hx rfl (pc0 := 14) (pc' := 38) rfl (hb hby dj68m9_14) rfl ((if0 _ _).trans (flt (fun q => by have := (own_gt0 (by omega) (by omega)).mp q; omega)).2.2.2) (by decide) (by decide) q) ?_
 exact own_retV X53 hx hrt (hb hby dj68m9_38) hlk (by decide) (by decide) e53 (⟨rfl, N0, rfl⟩)

def Q61  (h0 : Heap) (n0 : Nat) (v : Option Value) (h : Heap) (L : List Loc) : Prop := v = some (.int (0 : Int32)) ∧ Fr n0 L ∧ h = h0

theorem rm61 (l : Launch) (Z : State) (a0 : Array Value) (hw : own_HW a0 Z) (ws : List Jvm.Cond) (sb vb : Addr) (kv : ClassId) (ts : List Int32) (cap k : Nat) (h0 : Heap) (n0 : Nat) (Z0 : n0 ≤ h0.size) (gs : n0 ≤ sb) (gv : n0 ≤ vb) (hsv : sb ≠ vb) (hcap : cap ≤ 150) (hkc : k ≤ cap) (B0 : own_B Z h0 sb vb kv (1 : Int32) (Int32.ofNat k) (Int32.ofNat (2 * cap)) (own_A (2 * cap) (own_fW (ts.take k)))) (G1 : Int32) (US : own_US Z G1) (O0 : Old Z n0 h0) :
  own_Met l own_M29 jdk_68_method_68_code 1 (some .boolean) ws own_R_0_0_0_0 Z #[(.ref sb)] h0 (Q61 h0 n0) := by
 refine own_enter #[.val (.ref sb)] (plainFor_of_name pn_java_lang_AbstractStringBuilder) (fun m => ef_R_1 m sb) ?_
 intro p e s m below meth c s₁ hx hby hml hown hnm hZ hrt hlk X0 e0
 have w := @own_w _ _ hw
 have N0 := Fr.nil n0
 obtain ⟨T51, X51, e51, st51⟩ := getS2 X0 hx hZ hown (host := "") (Or.inl (w 89 rfl)) Via.refl e0 (US.2.1.ext O0.2) (g := (mkF m 0 #[.val (.ref sb)] [])) rfl (hb hby dj68m68_0)
 refine own_tp (.int G1) 3 st51 ?_
 refine own_d1 6 (fun _ q => XS.ifNo X51.here hx rfl (hb hby dj68m68_3) rfl ((if0 _ _).trans (feq US.1).1) q) ?_
 refine own_tp (.ref sb) 7 (fun _ q => XS.aloadN X51.here hx rfl (hb hby dj68m68_6) rfl rfl q) ?_
 obtain ⟨T52, X52, e52, st52⟩ := getF X51 hx hZ hown (host := "") (Or.inl (w 92 rfl)) Via.refl e51 B0.2.2.1 (g := (mkF m 7 #[.val (.ref sb)] [(.ref sb)])) rfl rfl (hb hby dj68m68_7)
 refine own_t1 (.int (1 : Int32)) 10 st52 ?_
 refine own_d1 17 (fun _ q => XS.ifYes X52.here hx rfl (pc0 := 10) (pc' := 17) rfl (hb hby dj68m68_10) rfl ((if0 _ _).trans (feq (by decide : ¬ ((1 : Int32) = (0 : Int32)))).2) (by decide) (by decide) q) ?_
 refine own_tp (.int (0 : Int32)) 18 (fun _ q => XS.iconst X52.here hx rfl (hb hby dj68m68_17) q) ?_
 exact own_retN (t := .boolean) X52 hx hrt (hb hby dj68m68_18) (by simp) hlk (by decide) (by decide) e52 (⟨rfl, N0, rfl⟩)

def Q62  (h0 : Heap) (n0 : Nat) (v : Option Value) (h : Heap) (L : List Loc) : Prop := v = none ∧ Fr n0 L ∧ h = h0

theorem rm62 (l : Launch) (Z : State) (a0 : Array Value) (hw : own_HW a0 Z) (ws : List Jvm.Cond) (sb vb : Addr) (kv : ClassId) (ts : List Int32) (cap k : Nat) (h0 : Heap) (n0 : Nat) (Z0 : n0 ≤ h0.size) (gs : n0 ≤ sb) (gv : n0 ≤ vb) (hsv : sb ≠ vb) (hcap : cap ≤ 150) (hkc : k ≤ cap) (B0 : own_B Z h0 sb vb kv (1 : Int32) (Int32.ofNat k) (Int32.ofNat (2 * cap)) (own_A (2 * cap) (own_fW (ts.take k)))) (G1 : Int32) (US : own_US Z G1) (O0 : Old Z n0 h0) :
  own_Met l own_M38 jdk_68_method_11_code 2 none ws own_R_1_0_0_12 Z #[(.ref sb)] h0 (Q62 h0 n0) := by
 refine own_enter #[.val (.ref sb), .unset] (plainFor_of_name pn_java_lang_AbstractStringBuilder) (fun m => ef_R_2 m sb) ?_
 intro p e s m below meth c s₁ hx hby hml hown hnm hZ hrt hlk X0 e0
 have w := @own_w _ _ hw
 have N0 := Fr.nil n0
 refine own_tp (.ref sb) 1 (fun _ q => XS.aloadN X0.here hx rfl (hb hby dj68m11_0) rfl rfl q) ?_
 obtain ⟨cq51, kq51, q51a, q51b, q51c⟩ := isOf hZ e0 B0.1
 obtain ⟨_, _, ⟨T51, L51, k51, n51⟩, -, X51, ⟨Lc51, hQ51, l51, y51, z51⟩, st51⟩ := X0.virtualBack hx (y := own_M29) (z := own_M29) hown (mvT hZ (w 254 rfl)) (mvT hZ (w 182 rfl)) (notFace_of_selects (args := #[]) (mvT hZ (w 184 rfl))) (mvT hZ (w 184 rfl)) (mvT hZ (w 183 rfl)) (by decide) (backOf (W := 0) (rm61 l Z a0 hw [] sb vb kv ts cap k h0 n0 Z0 gs gv hsv (by omega) (by omega) B0 G1 US O0) hZ (w 185 rfl) (w 86 rfl) (by decide) (by decide)) q51a q51c (g := (mkF m 1 #[.val (.ref sb), .unset] [(.ref sb)])) rfl (by rw [hml]; rfl) (Steps.refl _) (argsL := []) (rest := []) (lenOf pd9 rfl) rfl (by show 2 * 0 + _ ≤ _; exact Nat.le_of_eq rfl) (hb hby dj68m11_1) (fun _ _ => ⟨rfl, e0, (by decide : 0 + 0 ≤ _), (by decide : 0 + 0 ≤ _)⟩)
 dsimp only [Pt.U, Pt.locs, Pt.cells, Pt.slots] at X51 l51 y51 z51 st51 hQ51
 subst l51 y51 z51
 obtain ⟨rfl, Nq51, eq51⟩ := hQ51
 have N51 := Fr.app N0 Nq51
 refine own_csR [(.int (0 : Int32))] 4 st51 ?_
 refine own_d1 7 (fun _ q => XS.ifNo X51.here hx rfl (hb hby dj68m11_4) rfl ((if0 _ _).trans (teq (by decide : (0 : Int32) = (0 : Int32))).2) q) ?_
 exact own_retV X51 hx hrt (hb hby dj68m11_7) hlk (by decide) (by decide) eq51 (⟨rfl, N51, rfl⟩)

def Q63  (h0 : Heap) (n0 : Nat) (v : Option Value) (h : Heap) (L : List Loc) : Prop := v = none ∧ Fr n0 L ∧ h = h0

theorem rm63 (l : Launch) (Z : State) (a0 : Array Value) (hw : own_HW a0 Z) (ws : List Jvm.Cond) (sb vb : Addr) (kv : ClassId) (ts : List Int32) (cap k : Nat) (st sv : Addr) (ks : ClassId) (ds : List Int32) (n : Nat) (h0 : Heap) (n0 : Nat) (Z0 : n0 ≤ h0.size) (gs : n0 ≤ sb) (gv : n0 ≤ vb) (hsv : sb ≠ vb) (hcap : cap ≤ 150) (hkc : k ≤ cap) (n1 : st ≠ sb) (n2 : sv ≠ sb) (n3 : st ≠ vb) (n4 : sv ≠ vb) (B0 : own_B Z h0 sb vb kv (1 : Int32) (Int32.ofNat k) (Int32.ofNat (2 * cap)) (own_A (2 * cap) (own_fW (ts.take k)))) (D0 : own_D Z h0 st sv ks (0 : Int32) (Int32.ofNat n) (own_lows ds)) (hds : ds.length = n) (hd : ∀ j, j < n → ds.getD j 0 = ts.getD (k + j) 0) (hB5 : ∀ j, j < n → 0 ≤ (ts.getD (k + j) 0).toInt ∧ (ts.getD (k + j) 0).toInt ≤ 255) (hg : k + n ≤ cap) (G1 : Int32) (US : own_US Z G1) (O0 : Old Z n0 h0) (G3 : Value) (rG3 : G3.isRef = true) (Sf : own_SF Z G3) :
  own_Met l own_M24 jdk_68_method_71_code 2 none ws own_R_2_0_0_25 Z #[(.ref sb), (.ref st)] h0 (Q63 h0 n0) := by
 refine own_enter #[.val (.ref sb), .val (.ref st)] (plainFor_of_name pn_java_lang_AbstractStringBuilder) (fun m => ef_RR_2 m sb st) ?_
 intro p e s m below meth c s₁ hx hby hml hown hnm hZ hrt hlk X0 e0
 have w := @own_w _ _ hw
 have N0 := Fr.nil n0
 obtain ⟨T51, X51, e51, st51⟩ := getS2 X0 hx hZ hown (host := "") (Or.inl (w 89 rfl)) Via.refl e0 (US.2.1.ext O0.2) (g := (mkF m 0 #[.val (.ref sb), .val (.ref st)] [])) rfl (hb hby dj68m71_0)
 refine own_tp (.int G1) 3 st51 ?_
 refine own_d1 6 (fun _ q => XS.ifNo X51.here hx rfl (hb hby dj68m71_3) rfl ((if0 _ _).trans (feq US.1).1) q) ?_
 refine own_tp (.ref sb) 7 (fun _ q => XS.aloadN X51.here hx rfl (hb hby dj68m71_6) rfl rfl q) ?_
 obtain ⟨T52, X52, e52, st52⟩ := getF X51 hx hZ hown (host := "") (Or.inl (w 92 rfl)) Via.refl e51 B0.2.2.1 (g := (mkF m 7 #[.val (.ref sb), .val (.ref st)] [(.ref sb)])) rfl rfl (hb hby dj68m71_7)
 refine own_t1 (.int (1 : Int32)) 10 st52 ?_
 refine own_tp (.ref st) 11 (fun _ q => XS.aloadN X52.here hx rfl (hb hby dj68m71_10) rfl rfl q) ?_
 obtain ⟨cq53, kq53, q53a, q53b, q53c⟩ := isOf hZ e52 D0.1
 obtain ⟨_, _, ⟨T53, L53, k53, n53⟩, -, X53, ⟨Lc53, hQ53, l53, y53, z53⟩, st53⟩ := X52.virtualBack hx (y := own_M12) (z := own_M12) hown (mvT hZ (w 149 rfl)) (mvT hZ (w 65 rfl)) (notFace_of_selects (args := #[]) (mvT hZ (w 67 rfl))) (mvT hZ (w 67 rfl)) (mvT hZ (w 66 rfl)) (by decide) (backOf (W := 1) (rm33 l Z a0 hw [] st h0 n0 D0.1 D0.2.1 G1 US O0) hZ (w 68 rfl) (w 5 rfl) (by decide) (by decide)) q53a q53c (g := (mkF m 11 #[.val (.ref sb), .val (.ref st)] [(.ref st), (.int (1 : Int32))])) rfl (by rw [hml]; rfl) (Steps.refl _) (argsL := []) (rest := [(.int (1 : Int32))]) (lenOf pd8 rfl) rfl (by show 2 * 0 + _ ≤ _; exact Nat.le_of_eq rfl) (hb hby dj68m71_11) (fun _ _ => ⟨rfl, e52, (by decide : 0 + 0 ≤ _), (by decide : 0 + 0 ≤ _)⟩)
 dsimp only [Pt.U, Pt.locs, Pt.cells, Pt.slots] at X53 l53 y53 z53 st53 hQ53
 subst l53 y53 z53
 obtain ⟨rfl, Nq53, eq53⟩ := hQ53
 have N53 := Fr.app N0 Nq53
 refine own_csR [(.int (0 : Int32)), (.int (1 : Int32))] 14 st53 ?_
 refine own_d2 17 (fun _ q => XS.icmpNo X53.here hx rfl (hb hby dj68m71_14) rfl (feq (by decide : ¬ ((1 : Int32) = (0 : Int32)))).1 q) ?_
 refine own_tp (.ref sb) 18 (fun _ q => XS.aloadN X53.here hx rfl (hb hby dj68m71_17) rfl rfl q) ?_
 obtain ⟨cq54, kq54, q54a, q54b, q54c⟩ := isOf hZ eq53 B0.1
 obtain ⟨_, _, ⟨T54, L54, k54, n54⟩, -, X54, ⟨Lc54, hQ54, l54, y54, z54⟩, st54⟩ := X53.virtualBack hx (y := own_M38) (z := own_M38) hown (mvT hZ (w 249 rfl)) (mvT hZ (own_decl (w 250 rfl) (w 253 rfl))) (notFace_of_selects (args := #[]) (mvT hZ (w 252 rfl))) (mvT hZ (w 252 rfl)) (mvT hZ (w 250 rfl)) (by decide) (backOf (W := 0) (rm62 l Z a0 hw [] sb vb kv ts cap k h0 n0 Z0 gs gv hsv (by omega) (by omega) B0 G1 US O0) hZ (w 253 rfl) (w 86 rfl) (by decide) (by decide)) q54a q54c (g := (mkF m 18 #[.val (.ref sb), .val (.ref st)] [(.ref sb)])) rfl (by rw [hml]; rfl) (Steps.refl _) (argsL := []) (rest := []) (lenOf pd22 rfl) rfl (by show 2 * 0 + _ ≤ _; exact Nat.le_of_eq rfl) (hb hby dj68m71_18) (fun _ _ => ⟨rfl, eq53, (by decide : 0 + 0 ≤ _), (by decide : 0 + 0 ≤ _)⟩)
 dsimp only [Pt.U, Pt.locs, Pt.cells, Pt.slots] at X54 l54 y54 z54 st54 hQ54
 subst l54 y54 z54
 obtain ⟨rfl, Nq54, eq54⟩ := hQ54
 have N54 := Fr.app N53 Nq54
 refine own_csR [] 21 st54 ?_
 exact own_retV X54 hx hrt (hb hby dj68m71_21) hlk (by decide) (by decide) eq54 (⟨rfl, N54, rfl⟩)

def Q64 (Z : State) (vb : Addr) (kv : ClassId) (ts : List Int32) (cap k n : Nat) (h0 : Heap) (n0 : Nat) (v : Option Value) (h : Heap) (L : List Loc) : Prop := v = none ∧ Fr n0 L ∧ Keep h0 h [vb] ∧ Arv Z h vb kv .byte (Int32.ofNat (2 * cap)) (own_A (2 * cap) (own_fW (ts.take (k + n)))) (.int (0 : Int32))

theorem rm64 (l : Launch) (Z : State) (a0 : Array Value) (hw : own_HW a0 Z) (ws : List Jvm.Cond) (sb vb : Addr) (kv : ClassId) (ts : List Int32) (cap k : Nat) (st sv : Addr) (ks : ClassId) (ds : List Int32) (n : Nat) (h0 : Heap) (n0 : Nat) (Z0 : n0 ≤ h0.size) (gs : n0 ≤ sb) (gv : n0 ≤ vb) (hsv : sb ≠ vb) (hcap : cap ≤ 150) (hkc : k ≤ cap) (n1 : st ≠ sb) (n2 : sv ≠ sb) (n3 : st ≠ vb) (n4 : sv ≠ vb) (B0 : own_B Z h0 sb vb kv (1 : Int32) (Int32.ofNat k) (Int32.ofNat (2 * cap)) (own_A (2 * cap) (own_fW (ts.take k)))) (D0 : own_D Z h0 st sv ks (0 : Int32) (Int32.ofNat n) (own_lows ds)) (hds : ds.length = n) (hd : ∀ j, j < n → ds.getD j 0 = ts.getD (k + j) 0) (hB5 : ∀ j, j < n → 0 ≤ (ts.getD (k + j) 0).toInt ∧ (ts.getD (k + j) 0).toInt ≤ 255) (hg : k + n ≤ cap) (G1 : Int32) (US : own_US Z G1) (O0 : Old Z n0 h0) (G3 : Value) (rG3 : G3.isRef = true) (Sf : own_SF Z G3) :
  own_Met l own_M25 jdk_42_method_147_code 4 none ws own_R_5_0_0_78 Z #[(.ref st), (.ref vb), (.int (Int32.ofNat k)), (.int (1 : Int32))] h0 (Q64 Z vb kv ts cap k n h0 n0) := by
 refine own_enter #[.val (.ref st), .val (.ref vb), .val (.int (Int32.ofNat k)), .val (.int (1 : Int32))] (plainFor_of_name pn_java_lang_String) (fun m => ef_RRII_4 m st vb (Int32.ofNat k) (1 : Int32)) ?_
 intro p e s m below meth c s₁ hx hby hml hown hnm hZ hrt hlk X0 e0
 have w := @own_w _ _ hw
 have N0 := Fr.nil n0
 refine own_tp (.ref st) 1 (fun _ q => XS.aloadN X0.here hx rfl (hb hby dj42m147_0) rfl rfl q) ?_
 obtain ⟨cq51, kq51, q51a, q51b, q51c⟩ := isOf hZ e0 D0.1
 obtain ⟨_, _, ⟨T51, L51, k51, n51⟩, -, X51, ⟨Lc51, hQ51, l51, y51, z51⟩, st51⟩ := X0.virtualBack hx (y := own_M12) (z := own_M12) hown (mvT hZ (w 64 rfl)) (mvT hZ (w 65 rfl)) (notFace_of_selects (args := #[]) (mvT hZ (w 67 rfl))) (mvT hZ (w 67 rfl)) (mvT hZ (w 66 rfl)) (by decide) (backOf (W := 0) (rm33 l Z a0 hw [] st h0 n0 D0.1 D0.2.1 G1 US O0) hZ (w 68 rfl) (w 5 rfl) (by decide) (by decide)) q51a q51c (g := (mkF m 1 #[.val (.ref st), .val (.ref vb), .val (.int (Int32.ofNat k)), .val (.int (1 : Int32))] [(.ref st)])) rfl (by rw [hml]; rfl) (Steps.refl _) (argsL := []) (rest := []) (lenOf pd8 rfl) rfl (by show 2 * 0 + _ ≤ _; exact Nat.le_of_eq rfl) (hb hby dj42m147_1) (fun _ _ => ⟨rfl, e0, (by decide : 0 + 0 ≤ _), (by decide : 0 + 0 ≤ _)⟩)
 dsimp only [Pt.U, Pt.locs, Pt.cells, Pt.slots] at X51 l51 y51 z51 st51 hQ51
 subst l51 y51 z51
 obtain ⟨rfl, Nq51, eq51⟩ := hQ51
 have N51 := Fr.app N0 Nq51
 refine own_csR [(.int (0 : Int32))] 4 st51 ?_
 refine own_tp (.int (1 : Int32)) 5 (fun _ q => XS.iloadN X51.here hx rfl (hb hby dj42m147_4) rfl q) ?_
 refine own_d2 28 (fun _ q => XS.icmpYes X51.here hx rfl (pc0 := 5) (pc' := 28) rfl (hb hby dj42m147_5) rfl (feq (by decide : ¬ ((0 : Int32) = (1 : Int32)))).2 (by decide) (by decide) q) ?_
 refine own_tp (.ref st) 29 (fun _ q => XS.aloadN X51.here hx rfl (hb hby dj42m147_28) rfl rfl q) ?_
 obtain ⟨T52, X52, e52, st52⟩ := getF X51 hx hZ hown (host := "") (Or.inl (w 22 rfl)) Via.refl eq51 D0.2.2.1 (g := (mkF m 29 #[.val (.ref st), .val (.ref vb), .val (.int (Int32.ofNat k)), .val (.int (1 : Int32))] [(.ref st)])) rfl rfl (hb hby dj42m147_29)
 refine own_t1 (.ref sv) 32 st52 ?_
 refine own_tp (.int (0 : Int32)) 33 (fun _ q => XS.iconst X52.here hx rfl (hb hby dj42m147_32) q) ?_
 refine own_tp (.ref vb) 34 (fun _ q => XS.aloadN X52.here hx rfl (hb hby dj42m147_33) rfl rfl q) ?_
 refine own_tp (.int (Int32.ofNat k)) 35 (fun _ q => XS.iloadN X52.here hx rfl (hb hby dj42m147_34) rfl q) ?_
 refine own_tp (.ref st) 36 (fun _ q => XS.aloadN X52.here hx rfl (hb hby dj42m147_35) rfl rfl q) ?_
 obtain ⟨T53, X53, e53, st53⟩ := getF X52 hx hZ hown (host := "") (Or.inl (w 22 rfl)) Via.refl e52 D0.2.2.1 (g := (mkF m 36 #[.val (.ref st), .val (.ref vb), .val (.int (Int32.ofNat k)), .val (.int (1 : Int32))] [(.ref st), (.int (Int32.ofNat k)), (.ref vb), (.int (0 : Int32)), (.ref sv)])) rfl rfl (hb hby dj42m147_36)
 refine own_t1 (.ref sv) 39 st53 ?_
 obtain ⟨cl54, Ar54, -, Sz54, Nn54, -, -⟩ := (id D0.2.2.2)
 refine own_t1 (.int (Int32.ofNat n)) 40 (fun t q => X53.arraylength hx (by rw [e53]; exact Ar54.1) (State.isArrayOf_alike hZ.alike Ar54.2.1) (g := (mkF m 39 #[.val (.ref st), .val (.ref vb), .val (.int (Int32.ofNat k)), .val (.int (1 : Int32))] [(.ref sv), (.int (Int32.ofNat k)), (.ref vb), (.int (0 : Int32)), (.ref sv)])) rfl rfl (hb hby dj42m147_39) _ (by rw [len_of Sz54 Nn54]; exact q)) ?_
 obtain ⟨_, _, ⟨T55, L55, k55, n55⟩, -, X55, ⟨Lc55, hQ55, l55, y55, z55⟩, st55⟩ := Jvm.LawKit.callS X53 hx (y := own_M37) hown (mvT hZ (w 275 rfl)) (mvT hZ (w 257 rfl)) (mvT hZ (w 71 rfl)) (mvT hZ (w 258 rfl)) (by decide) (backOf (W := 0) (rm51 l Z a0 hw [] sv vb ks kv (own_lows ds) ts n cap k n h0 n0 (by omega) (by omega) (by omega) (by omega) Z0 gv n4 D0.2.2.2 B0.2.2.2.2.2 (fun j hj => by rw [own_lows_at _ ds j (by omega), hd j hj]) hB5 G1 US O0 G3 rG3 Sf) hZ (w 258 rfl) (w 71 rfl) (by decide) (by decide)) (g := (mkF m 40 #[.val (.ref st), .val (.ref vb), .val (.int (Int32.ofNat k)), .val (.int (1 : Int32))] [(.int (Int32.ofNat n)), (.int (Int32.ofNat k)), (.ref vb), (.int (0 : Int32)), (.ref sv)])) rfl (by rw [hml]; rfl) (argsL := [(.ref sv), (.int (0 : Int32)), (.ref vb), (.int (Int32.ofNat k)), (.int (Int32.ofNat n))]) (rest := []) (lenOf pd20 rfl) rfl (by show 2 * 0 + _ ≤ _; exact Nat.le_of_eq rfl) (hb hby dj42m147_40) (fun _ _ => ⟨rfl, e53, (by decide : 0 + 0 ≤ _), (by decide : 0 + 0 ≤ _)⟩)
 dsimp only [Pt.U, Pt.locs, Pt.cells, Pt.slots] at X55 l55 y55 z55 st55 hQ55
 subst l55 y55 z55
 obtain ⟨rfl, Nq55, Kp55, V55⟩ := hQ55
 have N55 := Fr.app N51 Nq55
 have O55 := Old.keep O0 Kp55 (allS gv all0)
 have Z55 : n0 ≤ T55.heap.size := Nat.le_trans Z0 Kp55.1
 have K55 : Keep h0 T55.heap [vb] := Keep.trans (Keep.refl h0 [vb]) Kp55 (allS (Or.inl (List.mem_of_getElem? (i := 0) rfl)) all0)
 refine own_cs [] 43 st55 ?_
 exact own_retV X55 hx hrt (hb hby dj42m147_43) hlk (by decide) (by decide) rfl (⟨rfl, N55, K55, V55⟩)

def Q65 (Z : State) (sb vb : Addr) (kv : ClassId) (ts : List Int32) (cap k n : Nat) (h0 : Heap) (n0 : Nat) (v : Option Value) (h : Heap) (L : List Loc) : Prop := v = none ∧ Fr n0 L ∧ Keep h0 h [sb, vb] ∧ own_B Z h sb vb kv (1 : Int32) (Int32.ofNat k) (Int32.ofNat (2 * cap)) (own_A (2 * cap) (own_fW (ts.take (k + n))))

theorem rm65 (l : Launch) (Z : State) (a0 : Array Value) (hw : own_HW a0 Z) (ws : List Jvm.Cond) (sb vb : Addr) (kv : ClassId) (ts : List Int32) (cap k : Nat) (st sv : Addr) (ks : ClassId) (ds : List Int32) (n : Nat) (h0 : Heap) (n0 : Nat) (Z0 : n0 ≤ h0.size) (gs : n0 ≤ sb) (gv : n0 ≤ vb) (hsv : sb ≠ vb) (hcap : cap ≤ 150) (hkc : k ≤ cap) (n1 : st ≠ sb) (n2 : sv ≠ sb) (n3 : st ≠ vb) (n4 : sv ≠ vb) (B0 : own_B Z h0 sb vb kv (1 : Int32) (Int32.ofNat k) (Int32.ofNat (2 * cap)) (own_A (2 * cap) (own_fW (ts.take k)))) (D0 : own_D Z h0 st sv ks (0 : Int32) (Int32.ofNat n) (own_lows ds)) (hds : ds.length = n) (hd : ∀ j, j < n → ds.getD j 0 = ts.getD (k + j) 0) (hB5 : ∀ j, j < n → 0 ≤ (ts.getD (k + j) 0).toInt ∧ (ts.getD (k + j) 0).toInt ≤ 255) (hg : k + n ≤ cap) (G1 : Int32) (US : own_US Z G1) (O0 : Old Z n0 h0) (G3 : Value) (rG3 : G3.isRef = true) (Sf : own_SF Z G3) :
  own_Met l own_M26 jdk_68_method_73_code 3 none ws own_R_6_0_0_93 Z #[(.ref sb), (.int (Int32.ofNat k)), (.ref st)] h0 (Q65 Z sb vb kv ts cap k n h0 n0) := by
 refine own_enter #[.val (.ref sb), .val (.int (Int32.ofNat k)), .val (.ref st)] (plainFor_of_name pn_java_lang_AbstractStringBuilder) (fun m => ef_RIR_3 m sb (Int32.ofNat k) st) ?_
 intro p e s m below meth c s₁ hx hby hml hown hnm hZ hrt hlk X0 e0
 have w := @own_w _ _ hw
 have N0 := Fr.nil n0
 refine own_tp (.ref sb) 1 (fun _ q => XS.aloadN X0.here hx rfl (hb hby dj68m73_0) rfl rfl q) ?_
 refine own_tp (.ref st) 2 (fun _ q => XS.aloadN X0.here hx rfl (hb hby dj68m73_1) rfl rfl q) ?_
 obtain ⟨cq51, kq51, q51a, q51b, q51c⟩ := isOf hZ e0 B0.1
 obtain ⟨_, _, ⟨T51, L51, k51, n51⟩, -, X51, ⟨Lc51, hQ51, l51, y51, z51⟩, st51⟩ := X0.virtualBack hx (y := own_M24) (z := own_M24) hown (mvT hZ (w 144 rfl)) (mvT hZ (own_decl (w 145 rfl) (w 148 rfl))) (notFace_of_selects (args := #[]) (mvT hZ (w 147 rfl))) (mvT hZ (w 147 rfl)) (mvT hZ (w 145 rfl)) (by decide) (backOf (W := 0) (rm63 l Z a0 hw [] sb vb kv ts cap k st sv ks ds n h0 n0 Z0 gs gv hsv (by omega) (by omega) n1 n2 n3 n4 B0 D0 hds hd hB5 (by omega) G1 US O0 G3 rG3 Sf) hZ (w 148 rfl) (w 86 rfl) (by decide) (by decide)) q51a q51c (g := (mkF m 2 #[.val (.ref sb), .val (.int (Int32.ofNat k)), .val (.ref st)] [(.ref st), (.ref sb)])) rfl (by rw [hml]; rfl) (Steps.refl _) (argsL := [(.ref st)]) (rest := []) (lenOf pd15 rfl) rfl (by show 2 * 0 + _ ≤ _; exact Nat.le_of_eq rfl) (hb hby dj68m73_2) (fun _ _ => ⟨rfl, e0, (by decide : 0 + 0 ≤ _), (by decide : 0 + 0 ≤ _)⟩)
 dsimp only [Pt.U, Pt.locs, Pt.cells, Pt.slots] at X51 l51 y51 z51 st51 hQ51
 subst l51 y51 z51
 obtain ⟨rfl, Nq51, eq51⟩ := hQ51
 have N51 := Fr.app N0 Nq51
 refine own_csR [] 5 st51 ?_
 refine own_tp (.ref st) 6 (fun _ q => XS.aloadN X51.here hx rfl (hb hby dj68m73_5) rfl rfl q) ?_
 refine own_tp (.ref sb) 7 (fun _ q => XS.aloadN X51.here hx rfl (hb hby dj68m73_6) rfl rfl q) ?_
 obtain ⟨T52, X52, e52, st52⟩ := getF X51 hx hZ hown (host := "") (Or.inl (w 90 rfl)) Via.refl eq51 B0.2.1 (g := (mkF m 7 #[.val (.ref sb), .val (.int (Int32.ofNat k)), .val (.ref st)] [(.ref sb), (.ref st)])) rfl rfl (hb hby dj68m73_7)
 refine own_t1 (.ref vb) 10 st52 ?_
 refine own_tp (.int (Int32.ofNat k)) 11 (fun _ q => XS.iloadN X52.here hx rfl (hb hby dj68m73_10) rfl q) ?_
 refine own_tp (.ref sb) 12 (fun _ q => XS.aloadN X52.here hx rfl (hb hby dj68m73_11) rfl rfl q) ?_
 obtain ⟨T53, X53, e53, st53⟩ := getF X52 hx hZ hown (host := "") (Or.inl (w 92 rfl)) Via.refl e52 B0.2.2.1 (g := (mkF m 12 #[.val (.ref sb), .val (.int (Int32.ofNat k)), .val (.ref st)] [(.ref sb), (.int (Int32.ofNat k)), (.ref vb), (.ref st)])) rfl rfl (hb hby dj68m73_12)
 refine own_t1 (.int (1 : Int32)) 15 st53 ?_
 obtain ⟨cq54, kq54, q54a, q54b, q54c⟩ := isOf hZ e53 D0.1
 obtain ⟨_, _, ⟨T54, L54, k54, n54⟩, -, X54, ⟨Lc54, hQ54, l54, y54, z54⟩, st54⟩ := X53.virtualBack hx (y := own_M25) (z := own_M25) hown (mvT hZ (w 150 rfl)) (mvT hZ (w 151 rfl)) (notFace_of_selects (args := #[]) (mvT hZ (w 153 rfl))) (mvT hZ (w 153 rfl)) (mvT hZ (w 152 rfl)) (by decide) (backOf (W := 0) (rm64 l Z a0 hw [] sb vb kv ts cap k st sv ks ds n h0 n0 Z0 gs gv hsv (by omega) (by omega) n1 n2 n3 n4 B0 D0 hds hd hB5 (by omega) G1 US O0 G3 rG3 Sf) hZ (w 154 rfl) (w 5 rfl) (by decide) (by decide)) q54a q54c (g := (mkF m 15 #[.val (.ref sb), .val (.int (Int32.ofNat k)), .val (.ref st)] [(.int (1 : Int32)), (.int (Int32.ofNat k)), (.ref vb), (.ref st)])) rfl (by rw [hml]; rfl) (Steps.refl _) (argsL := [(.ref vb), (.int (Int32.ofNat k)), (.int (1 : Int32))]) (rest := []) (lenOf pd16 rfl) rfl (by show 2 * 0 + _ ≤ _; exact Nat.le_of_eq rfl) (hb hby dj68m73_15) (fun _ _ => ⟨rfl, e53, (by decide : 0 + 0 ≤ _), (by decide : 0 + 0 ≤ _)⟩)
 dsimp only [Pt.U, Pt.locs, Pt.cells, Pt.slots] at X54 l54 y54 z54 st54 hQ54
 subst l54 y54 z54
 obtain ⟨rfl, Nq54, Kp54, V54⟩ := hQ54
 have N54 := Fr.app N51 Nq54
 have O54 := Old.keep O0 Kp54 (allS gv all0)
 have Z54 : n0 ≤ T54.heap.size := Nat.le_trans Z0 Kp54.1
 have K54 : Keep h0 T54.heap [sb, vb] := Keep.trans (Keep.refl h0 [sb, vb]) Kp54 (allS (Or.inl (List.mem_of_getElem? (i := 1) rfl)) all0)
 refine own_csR [] 18 st54 ?_
 have f55 := (B0.1.keep Kp54)
 have f56 := (B0.2.1.keep Kp54 (ninS hsv nin0))
 have f57 := (B0.2.2.1.keep Kp54 (ninS hsv nin0))
 have f58 := (B0.2.2.2.1.keep Kp54 (ninS hsv nin0))
 have f59 := (B0.2.2.2.2.1.keep Kp54 (ninS hsv nin0))
 exact own_retV X54 hx hrt (hb hby dj68m73_18) hlk (by decide) (by decide) rfl (⟨rfl, N54, K54, ⟨f55, f56, f57, f58, f59, V54⟩⟩)

def Q66 (Z : State) (sb vb : Addr) (kv : ClassId) (ts : List Int32) (cap k n : Nat) (h0 : Heap) (n0 : Nat) (v : Option Value) (h : Heap) (L : List Loc) : Prop := v = some (.ref sb) ∧ Fr n0 L ∧ Keep h0 h [sb, vb] ∧ own_B Z h sb vb kv (1 : Int32) (Int32.ofNat (k + n)) (Int32.ofNat (2 * cap)) (own_A (2 * cap) (own_fW (ts.take (k + n))))

theorem rm66 (l : Launch) (Z : State) (a0 : Array Value) (hw : own_HW a0 Z) (ws : List Jvm.Cond) (sb vb : Addr) (kv : ClassId) (ts : List Int32) (cap k : Nat) (st sv : Addr) (ks : ClassId) (ds : List Int32) (n : Nat) (h0 : Heap) (n0 : Nat) (Z0 : n0 ≤ h0.size) (gs : n0 ≤ sb) (gv : n0 ≤ vb) (hsv : sb ≠ vb) (hcap : cap ≤ 150) (hkc : k ≤ cap) (n1 : st ≠ sb) (n2 : sv ≠ sb) (n3 : st ≠ vb) (n4 : sv ≠ vb) (B0 : own_B Z h0 sb vb kv (1 : Int32) (Int32.ofNat k) (Int32.ofNat (2 * cap)) (own_A (2 * cap) (own_fW (ts.take k)))) (D0 : own_D Z h0 st sv ks (0 : Int32) (Int32.ofNat n) (own_lows ds)) (hds : ds.length = n) (hd : ∀ j, j < n → ds.getD j 0 = ts.getD (k + j) 0) (hB5 : ∀ j, j < n → 0 ≤ (ts.getD (k + j) 0).toInt ∧ (ts.getD (k + j) 0).toInt ≤ 255) (hg : k + n ≤ cap) (G1 : Int32) (US : own_US Z G1) (O0 : Old Z n0 h0) (G3 : Value) (rG3 : G3.isRef = true) (Sf : own_SF Z G3) :
  own_Met l own_M27 jdk_68_method_22_code 3 (some (.object "java/lang/AbstractStringBuilder")) ws own_R_7_0_0_107 Z #[(.ref sb), (.ref st)] h0 (Q66 Z sb vb kv ts cap k n h0 n0) := by
 refine own_enter #[.val (.ref sb), .val (.ref st), .unset] (plainFor_of_name pn_java_lang_AbstractStringBuilder) (fun m => ef_RR_3 m sb st) ?_
 intro p e s m below meth c s₁ hx hby hml hown hnm hZ hrt hlk X0 e0
 have w := @own_w _ _ hw
 have N0 := Fr.nil n0
 refine own_tp (.ref st) 1 (fun _ q => XS.aloadN X0.here hx rfl (hb hby dj68m22_0) rfl rfl q) ?_
 refine own_d1 9 (fun _ q => XS.ifnonnullYes X0.here hx rfl (pc0 := 1) (pc' := 9) rfl (hb hby dj68m22_1) rfl (by decide) (by decide) q) ?_
 refine own_tp (.ref st) 10 (fun _ q => XS.aloadN X0.here hx rfl (hb hby dj68m22_9) rfl rfl q) ?_
 obtain ⟨cq51, kq51, q51a, q51b, q51c⟩ := isOf hZ e0 D0.1
 obtain ⟨_, _, ⟨T51, L51, k51, n51⟩, -, X51, ⟨Lc51, hQ51, l51, y51, z51⟩, st51⟩ := X0.virtualBack hx (y := own_M14) (z := own_M14) hown (mvT hZ (w 105 rfl)) (mvT hZ (w 60 rfl)) (notFace_of_selects (args := #[]) (mvT hZ (w 62 rfl))) (mvT hZ (w 62 rfl)) (mvT hZ (w 61 rfl)) (by decide) (backOf (W := 0) (rm34 l Z a0 hw [] st sv ks ds n h0 n0 (by omega) D0 G1 US O0) hZ (w 63 rfl) (w 5 rfl) (by decide) (by decide)) q51a q51c (g := (mkF m 10 #[.val (.ref sb), .val (.ref st), .unset] [(.ref st)])) rfl (by rw [hml]; rfl) (Steps.refl _) (argsL := []) (rest := []) (lenOf pd10 rfl) rfl (by show 2 * 0 + _ ≤ _; exact Nat.le_of_eq rfl) (hb hby dj68m22_10) (fun _ _ => ⟨rfl, e0, (by decide : 0 + 0 ≤ _), (by decide : 0 + 0 ≤ _)⟩)
 dsimp only [Pt.U, Pt.locs, Pt.cells, Pt.slots] at X51 l51 y51 z51 st51 hQ51
 subst l51 y51 z51
 obtain ⟨rfl, Nq51, eq51⟩ := hQ51
 have N51 := Fr.app N0 Nq51
 refine own_csR [(.int (Int32.ofNat n))] 13 st51 ?_
 refine own_ls #[.val (.ref sb), .val (.ref st), .val (.int (Int32.ofNat n))] 14 (fun _ q => XS.istoreN X51.here hx rfl (hb hby dj68m22_13) rfl (l' := #[.val (.ref sb), .val (.ref st), .val (.int (Int32.ofNat n))]) rfl q) ?_
 refine own_tp (.ref sb) 15 (fun _ q => XS.aloadN X51.here hx rfl (hb hby dj68m22_14) rfl rfl q) ?_
 refine own_tp (.ref sb) 16 (fun _ q => XS.aloadN X51.here hx rfl (hb hby dj68m22_15) rfl rfl q) ?_
 obtain ⟨T52, X52, e52, st52⟩ := getF X51 hx hZ hown (host := "") (Or.inl (w 106 rfl)) Via.refl eq51 B0.2.2.2.1 (g := (mkF m 16 #[.val (.ref sb), .val (.ref st), .val (.int (Int32.ofNat n))] [(.ref sb), (.ref sb)])) rfl rfl (hb hby dj68m22_16)
 refine own_t1 (.int (Int32.ofNat k)) 19 st52 ?_
 refine own_tp (.int (Int32.ofNat n)) 20 (fun _ q => XS.iloadN X52.here hx rfl (hb hby dj68m22_19) rfl q) ?_
 refine own_t2 (.int ((Int32.ofNat k) + (Int32.ofNat n))) 21 (fun _ q => XS.iadd X52.here hx rfl (hb hby dj68m22_20) rfl q) ?_
 rw [← Int32.ofNat_add]
 obtain ⟨cq53, kq53, q53a, q53b, q53c⟩ := isOf hZ e52 B0.1
 obtain ⟨_, _, ⟨T53, L53, k53, n53⟩, -, X53, ⟨Lc53, hQ53, l53, y53, z53⟩, st53⟩ := X52.virtualBack hx (y := own_M23) (z := own_M23) hown (mvT hZ (w 108 rfl)) (mvT hZ (own_decl (w 109 rfl) (w 112 rfl))) (notFace_of_selects (args := #[]) (mvT hZ (w 111 rfl))) (mvT hZ (w 111 rfl)) (mvT hZ (w 109 rfl)) (by decide) (backOf (W := 0) (rm60 l Z a0 hw [] sb vb kv ts cap k n h0 n0 Z0 gs gv hsv (by omega) (by omega) hg B0 G1 US O0) hZ (w 112 rfl) (w 86 rfl) (by decide) (by decide)) q53a q53c (g := (mkF m 21 #[.val (.ref sb), .val (.ref st), .val (.int (Int32.ofNat n))] [(.int (Int32.ofNat (k + n))), (.ref sb)])) rfl (by rw [hml]; rfl) (Steps.refl _) (argsL := [(.int (Int32.ofNat (k + n)))]) (rest := []) (lenOf pd12 rfl) rfl (by show 2 * 0 + _ ≤ _; exact Nat.le_of_eq rfl) (hb hby dj68m22_21) (fun _ _ => ⟨rfl, e52, (by decide : 0 + 0 ≤ _), (by decide : 0 + 0 ≤ _)⟩)
 dsimp only [Pt.U, Pt.locs, Pt.cells, Pt.slots] at X53 l53 y53 z53 st53 hQ53
 subst l53 y53 z53
 obtain ⟨rfl, Nq53, eq53⟩ := hQ53
 have N53 := Fr.app N51 Nq53
 refine own_csR [] 24 st53 ?_
 refine own_tp (.ref sb) 25 (fun _ q => XS.aloadN X53.here hx rfl (hb hby dj68m22_24) rfl rfl q) ?_
 refine own_tp (.ref sb) 26 (fun _ q => XS.aloadN X53.here hx rfl (hb hby dj68m22_25) rfl rfl q) ?_
 obtain ⟨T54, X54, e54, st54⟩ := getF X53 hx hZ hown (host := "") (Or.inl (w 106 rfl)) Via.refl eq53 B0.2.2.2.1 (g := (mkF m 26 #[.val (.ref sb), .val (.ref st), .val (.int (Int32.ofNat n))] [(.ref sb), (.ref sb)])) rfl rfl (hb hby dj68m22_26)
 refine own_t1 (.int (Int32.ofNat k)) 29 st54 ?_
 refine own_tp (.ref st) 30 (fun _ q => XS.aloadN X54.here hx rfl (hb hby dj68m22_29) rfl rfl q) ?_
 obtain ⟨cq55, kq55, q55a, q55b, q55c⟩ := isOf hZ e54 B0.1
 obtain ⟨_, _, ⟨T55, L55, k55, n55⟩, -, X55, ⟨Lc55, hQ55, l55, y55, z55⟩, st55⟩ := X54.virtualBack hx (y := own_M26) (z := own_M26) hown (mvT hZ (w 139 rfl)) (mvT hZ (own_decl (w 140 rfl) (w 143 rfl))) (notFace_of_selects (args := #[]) (mvT hZ (w 142 rfl))) (mvT hZ (w 142 rfl)) (mvT hZ (w 140 rfl)) (by decide) (backOf (W := 0) (rm65 l Z a0 hw [] sb vb kv ts cap k st sv ks ds n h0 n0 Z0 gs gv hsv (by omega) (by omega) n1 n2 n3 n4 B0 D0 hds hd hB5 (by omega) G1 US O0 G3 rG3 Sf) hZ (w 143 rfl) (w 86 rfl) (by decide) (by decide)) q55a q55c (g := (mkF m 30 #[.val (.ref sb), .val (.ref st), .val (.int (Int32.ofNat n))] [(.ref st), (.int (Int32.ofNat k)), (.ref sb)])) rfl (by rw [hml]; rfl) (Steps.refl _) (argsL := [(.int (Int32.ofNat k)), (.ref st)]) (rest := []) (lenOf pd17 rfl) rfl (by show 2 * 0 + _ ≤ _; exact Nat.le_of_eq rfl) (hb hby dj68m22_30) (fun _ _ => ⟨rfl, e54, (by decide : 0 + 0 ≤ _), (by decide : 0 + 0 ≤ _)⟩)
 dsimp only [Pt.U, Pt.locs, Pt.cells, Pt.slots] at X55 l55 y55 z55 st55 hQ55
 subst l55 y55 z55
 obtain ⟨rfl, Nq55, Kp55, B55⟩ := hQ55
 have N55 := Fr.app N53 Nq55
 have O55 := Old.keep O0 Kp55 (allS gs (allS gv all0))
 have Z55 : n0 ≤ T55.heap.size := Nat.le_trans Z0 Kp55.1
 have K55 : Keep h0 T55.heap [sb, vb] := Keep.trans (Keep.refl h0 [sb, vb]) Kp55 (allS (Or.inl (List.mem_of_getElem? (i := 0) rfl)) (allS (Or.inl (List.mem_of_getElem? (i := 1) rfl)) all0))
 refine own_csR [] 33 st55 ?_
 refine own_tp (.ref sb) 34 (fun _ q => XS.aloadN X55.here hx rfl (hb hby dj68m22_33) rfl rfl q) ?_
 refine own_tp (.ref sb) 35 (fun _ q => XS.dup X55.here hx rfl (hb hby dj68m22_34) rfl rfl q) ?_
 obtain ⟨T56, X56, e56, st56⟩ := getF X55 hx hZ hown (host := "") (Or.inl (w 106 rfl)) Via.refl rfl B55.2.2.2.1 (g := (mkF m 35 #[.val (.ref sb), .val (.ref st), .val (.int (Int32.ofNat n))] [(.ref sb), (.ref sb)])) rfl rfl (hb hby dj68m22_35)
 refine own_t1 (.int (Int32.ofNat k)) 38 st56 ?_
 refine own_tp (.int (Int32.ofNat n)) 39 (fun _ q => XS.iloadN X56.here hx rfl (hb hby dj68m22_38) rfl q) ?_
 refine own_t2 (.int ((Int32.ofNat k) + (Int32.ofNat n))) 40 (fun _ q => XS.iadd X56.here hx rfl (hb hby dj68m22_39) rfl q) ?_
 rw [← Int32.ofNat_add]
 obtain ⟨T57, h57, X57, e57, W57, st57⟩ := putF X56 hx hZ hown (host := "") (Or.inl (w 106 rfl)) Via.refl e56 B55.2.2.2.1 B55.1 (Or.inl (w 107 rfl)) (w 77 rfl) (ty := .int) (by decide) rfl rfl (g := (mkF m 40 #[.val (.ref sb), .val (.ref st), .val (.int (Int32.ofNat n))] [(.int (Int32.ofNat (k + n))), (.ref sb)])) rfl rfl (hb hby dj68m22_40)
 have Fw57 := B55.2.2.2.1.same W57
 have N57 := Fr.snoc X57 N55 gs
 have O57 := Old.wr O55 W57 gs
 have K57 : Keep h0 h57 [sb, vb] := K55.wr W57 (Or.inl (List.mem_of_getElem? (i := 0) rfl))
 have Z57 : n0 ≤ h57.size := Nat.le_trans Z55 (Nat.le_of_eq W57.size.symm)
 refine own_d2 43 st57 ?_
 refine own_tp (.ref sb) 44 (fun _ q => XS.aloadN X57.here hx rfl (hb hby dj68m22_43) rfl rfl q) ?_
 have f58 := (B55.1.wr W57)
 have f59 := (B55.2.1.other W57 (Or.inr (slot_ne (Or.inl (w 91 rfl)) (Or.inl (w 107 rfl)) (by decide) (t := (.array .byte)) (t' := .int) (by decide) (by decide))))
 have f60 := (B55.2.2.1.other W57 (Or.inr (slot_ne (Or.inl (w 93 rfl)) (Or.inl (w 107 rfl)) (by decide) (t := .byte) (t' := .int) (by decide) (by decide))))
 have f61 := (B55.2.2.2.2.1.other W57 (Or.inr (slot_ne (Or.inl (w 272 rfl)) (Or.inl (w 107 rfl)) (by decide) (t := .boolean) (t' := .int) (by decide) (by decide))))
 have f62 := (B55.2.2.2.2.2.other W57 (Ne.symm hsv))
 exact own_retR X57 hx hrt (hb hby dj68m22_44) rfl rfl hlk (by decide) (by decide) e57 (⟨rfl, N57, K57, ⟨f58, f59, f60, Fw57, f61, f62⟩⟩)

def Q67 (Z : State) (sb vb : Addr) (kv : ClassId) (ts : List Int32) (cap k n : Nat) (h0 : Heap) (n0 : Nat) (v : Option Value) (h : Heap) (L : List Loc) : Prop := v = some (.ref sb) ∧ Fr n0 L ∧ Keep h0 h [sb, vb] ∧ own_B Z h sb vb kv (1 : Int32) (Int32.ofNat (k + n)) (Int32.ofNat (2 * cap)) (own_A (2 * cap) (own_fW (ts.take (k + n))))

theorem rm67 (l : Launch) (Z : State) (a0 : Array Value) (hw : own_HW a0 Z) (ws : List Jvm.Cond) (sb vb : Addr) (kv : ClassId) (ts : List Int32) (cap k : Nat) (st sv : Addr) (ks : ClassId) (ds : List Int32) (n : Nat) (h0 : Heap) (n0 : Nat) (Z0 : n0 ≤ h0.size) (gs : n0 ≤ sb) (gv : n0 ≤ vb) (hsv : sb ≠ vb) (hcap : cap ≤ 150) (hkc : k ≤ cap) (n1 : st ≠ sb) (n2 : sv ≠ sb) (n3 : st ≠ vb) (n4 : sv ≠ vb) (B0 : own_B Z h0 sb vb kv (1 : Int32) (Int32.ofNat k) (Int32.ofNat (2 * cap)) (own_A (2 * cap) (own_fW (ts.take k)))) (D0 : own_D Z h0 st sv ks (0 : Int32) (Int32.ofNat n) (own_lows ds)) (hds : ds.length = n) (hd : ∀ j, j < n → ds.getD j 0 = ts.getD (k + j) 0) (hB5 : ∀ j, j < n → 0 ≤ (ts.getD (k + j) 0).toInt ∧ (ts.getD (k + j) 0).toInt ≤ 255) (hg : k + n ≤ cap) (G1 : Int32) (US : own_US Z G1) (O0 : Old Z n0 h0) (G3 : Value) (rG3 : G3.isRef = true) (Sf : own_SF Z G3) :
  own_Met l own_M28 jdk_67_method_7_code 2 (some (.object "java/lang/StringBuilder")) ws own_R_8_0_0_121 Z #[(.ref sb), (.ref st)] h0 (Q67 Z sb vb kv ts cap k n h0 n0) := by
 refine own_enter #[.val (.ref sb), .val (.ref st)] (plainFor_of_name pn_java_lang_StringBuilder) (fun m => ef_RR_2 m sb st) ?_
 intro p e s m below meth c s₁ hx hby hml hown hnm hZ hrt hlk X0 e0
 have w := @own_w _ _ hw
 have N0 := Fr.nil n0
 refine own_tp (.ref sb) 1 (fun _ q => XS.aloadN X0.here hx rfl (hb hby dj67m7_0) rfl rfl q) ?_
 refine own_tp (.ref st) 2 (fun _ q => XS.aloadN X0.here hx rfl (hb hby dj67m7_1) rfl rfl q) ?_
 obtain ⟨_, _, ⟨T51, L51, k51, n51⟩, -, X51, ⟨Lc51, hQ51, l51, y51, z51⟩, st51⟩ := superBack X0 hx hZ (K := "java/lang/StringBuilder") (y := own_M27) hown (w 100 rfl) (own_same (w 103 rfl) (w 111 rfl) rfl (by decide)) (w 101 rfl) (w 102 rfl) (by decide) (backOf (W := 0) (rm66 l Z a0 hw [] sb vb kv ts cap k st sv ks ds n h0 n0 Z0 gs gv hsv (by omega) (by omega) n1 n2 n3 n4 B0 D0 hds hd hB5 hg G1 US O0 G3 rG3 Sf) hZ (w 104 rfl) (w 86 rfl) (by decide) (by decide)) e0 (Ins.self B0.1) (g := (mkF m 2 #[.val (.ref sb), .val (.ref st)] [(.ref st), (.ref sb)])) rfl (by rw [hml]; rfl) (w 104 rfl) (argsL := [(.ref st)]) (rest := []) (lenOf pd18 rfl) rfl (by show 2 * 0 + _ ≤ _; exact Nat.le_of_eq rfl) (hb hby dj67m7_2) (fun _ _ => ⟨rfl, e0, (by decide : 0 + 0 ≤ _), (by decide : 0 + 0 ≤ _)⟩)
 dsimp only [Pt.U, Pt.locs, Pt.cells, Pt.slots] at X51 l51 y51 z51 st51 hQ51
 subst l51 y51 z51
 obtain ⟨rfl, Nq51, Kp51, rest51⟩ := hQ51
 refine own_csR [(.ref sb)] 5 st51 ?_
 refine own_d1 6 (fun _ q => XS.pop X51.here hx rfl (hb hby dj67m7_5) rfl rfl q) ?_
 refine own_tp (.ref sb) 7 (fun _ q => XS.aloadN X51.here hx rfl (hb hby dj67m7_6) rfl rfl q) ?_
 exact own_retR X51 hx hrt (hb hby dj67m7_7) rfl rfl hlk (by decide) (by decide) rfl (⟨rfl, Fr.app N0 Nq51, Kp51, rest51⟩)

theorem own_hK {ks : List Int32} (ha : ∀ c ∈ ks, own_lo c = c ∧ ¬ (255 : Int32) < c ∧ (0 ≤ c.toInt ∧ c.toInt ≤ 65535)) {ts : List Int32} {p n : Nat} (hn : ks.length = n) (hd : ∀ j, j < n → ks.getD j 0 = ts.getD (p + j) 0) : ∀ j, j < n → 0 ≤ (ts.getD (p + j) 0).toInt ∧ (ts.getD (p + j) 0).toInt ≤ 255 := fun j hj => by
  rw [← hd j hj]
  have q := ha _ (own_mem ks j (by omega))
  exact own_le255 q.2.1 q.2.2
theorem own_hK0 {ks : List Int32} (ha : ∀ c ∈ ks, own_lo c = c ∧ ¬ (255 : Int32) < c ∧ (0 ≤ c.toInt ∧ c.toInt ≤ 65535)) {ts : List Int32} {n : Nat} (hn : ks.length = n) (hd : ∀ j, j < n → ks.getD j 0 = ts.getD (0 + j) 0) : ∀ j, j < n → 0 ≤ (ts.getD j 0).toInt ∧ (ts.getD j 0).toInt ≤ 255 := fun j hj => by
  have q := own_hK ha hn hd j hj
  rw [Nat.zero_add] at q
  exact q

def Q68 (vb : Addr) (h0 : Heap) (n0 : Nat) (v : Option Value) (h : Heap) (L : List Loc) : Prop := v = some (.ref vb) ∧ Fr n0 L ∧ h = h0

theorem rm68 (l : Launch) (Z : State) (a0 : Array Value) (hw : own_HW a0 Z) (ws : List Jvm.Cond) (sb vb : Addr) (kv : ClassId) (ts : List Int32) (cap k : Nat) (h0 : Heap) (n0 : Nat) (Z0 : n0 ≤ h0.size) (gs : n0 ≤ sb) (gv : n0 ≤ vb) (hsv : sb ≠ vb) (hcap : cap ≤ 150) (hkc : k ≤ cap) (B0 : own_B Z h0 sb vb kv (0 : Int32) (Int32.ofNat k) (Int32.ofNat cap) (own_A cap (own_fL (ts.take k)))) :
  own_Met l own_M39 jdk_68_method_64_code 1 (some (.array .byte)) ws own_R_0_0_0_0 Z #[(.ref sb)] h0 (Q68 vb h0 n0) := by
 refine own_enter #[.val (.ref sb)] (plainFor_of_name pn_java_lang_AbstractStringBuilder) (fun m => ef_R_1 m sb) ?_
 intro p e s m below meth c s₁ hx hby hml hown hnm hZ hrt hlk X0 e0
 have w := @own_w _ _ hw
 have N0 := Fr.nil n0
 refine own_tp (.ref sb) 1 (fun _ q => XS.aloadN X0.here hx rfl (hb hby dj68m64_0) rfl rfl q) ?_
 obtain ⟨T51, X51, e51, st51⟩ := getF X0 hx hZ hown (host := "") (Or.inl (w 90 rfl)) Via.refl e0 B0.2.1 (g := (mkF m 1 #[.val (.ref sb)] [(.ref sb)])) rfl rfl (hb hby dj68m64_1)
 refine own_t1 (.ref vb) 4 st51 ?_
 exact own_retR X51 hx hrt (hb hby dj68m64_4) rfl rfl hlk (by decide) (by decide) e51 (⟨rfl, N0, rfl⟩)

def Q69 (z : Int32) (h0 : Heap) (n0 : Nat) (v : Option Value) (h : Heap) (L : List Loc) : Prop := v = some (.int z) ∧ Fr n0 L ∧ h = h0

theorem rm69 (l : Launch) (Z : State) (a0 : Array Value) (hw : own_HW a0 Z) (ws : List Jvm.Cond) (sb vb : Addr) (kv : ClassId) (ts : List Int32) (cap k : Nat) (h0 : Heap) (n0 : Nat) (Z0 : n0 ≤ h0.size) (gs : n0 ≤ sb) (gv : n0 ≤ vb) (hsv : sb ≠ vb) (hcap : cap ≤ 150) (hkc : k ≤ cap) (B0 : own_B Z h0 sb vb kv (0 : Int32) (Int32.ofNat k) (Int32.ofNat cap) (own_A cap (own_fL (ts.take k)))) :
  own_Met l own_M40 jdk_68_method_6_code 1 (some .int) ws own_R_0_0_0_0 Z #[(.ref sb)] h0 (Q69 (Int32.ofNat k) h0 n0) := by
 refine own_enter #[.val (.ref sb)] (plainFor_of_name pn_java_lang_AbstractStringBuilder) (fun m => ef_R_1 m sb) ?_
 intro p e s m below meth c s₁ hx hby hml hown hnm hZ hrt hlk X0 e0
 have w := @own_w _ _ hw
 have N0 := Fr.nil n0
 refine own_tp (.ref sb) 1 (fun _ q => XS.aloadN X0.here hx rfl (hb hby dj68m6_0) rfl rfl q) ?_
 obtain ⟨T51, X51, e51, st51⟩ := getF X0 hx hZ hown (host := "") (Or.inl (w 106 rfl)) Via.refl e0 B0.2.2.2.1 (g := (mkF m 1 #[.val (.ref sb)] [(.ref sb)])) rfl rfl (hb hby dj68m6_1)
 refine own_t1 (.int (Int32.ofNat k)) 4 st51 ?_
 exact own_retI X51 hx hrt (hb hby dj68m6_4) hlk (by decide) (by decide) e51 (⟨rfl, N0, rfl⟩)

def Q70 (z : Int32) (h0 : Heap) (n0 : Nat) (v : Option Value) (h : Heap) (L : List Loc) : Prop := v = some (.int z) ∧ Fr n0 L ∧ h = h0

theorem rm70 (l : Launch) (Z : State) (a0 : Array Value) (hw : own_HW a0 Z) (ws : List Jvm.Cond) (sb vb : Addr) (kv : ClassId) (ts : List Int32) (cap k : Nat) (h0 : Heap) (n0 : Nat) (Z0 : n0 ≤ h0.size) (gs : n0 ≤ sb) (gv : n0 ≤ vb) (hsv : sb ≠ vb) (hcap : cap ≤ 150) (hkc : k ≤ cap) (B0 : own_B Z h0 sb vb kv (0 : Int32) (Int32.ofNat k) (Int32.ofNat cap) (own_A cap (own_fL (ts.take k)))) :
  own_Met l own_M41 jdk_67_method_93_code 1 (some .int) ws own_R_1_0_0_12 Z #[(.ref sb)] h0 (Q70 (Int32.ofNat k) h0 n0) := by
 refine own_enter #[.val (.ref sb)] (plainFor_of_name pn_java_lang_StringBuilder) (fun m => ef_R_1 m sb) ?_
 intro p e s m below meth c s₁ hx hby hml hown hnm hZ hrt hlk X0 e0
 have w := @own_w _ _ hw
 have N0 := Fr.nil n0
 refine own_tp (.ref sb) 1 (fun _ q => XS.aloadN X0.here hx rfl (hb hby dj67m93_0) rfl rfl q) ?_
 obtain ⟨_, _, ⟨T51, L51, k51, n51⟩, -, X51, ⟨Lc51, hQ51, l51, y51, z51⟩, st51⟩ := superBack X0 hx hZ (K := "java/lang/StringBuilder") (y := own_M40) hown (w 179 rfl) (own_same (w 174 rfl) (w 111 rfl) rfl (by decide)) (w 175 rfl) (w 102 rfl) (by decide) (backOf (W := 0) (rm69 l Z a0 hw [] sb vb kv ts cap k h0 n0 Z0 gs gv hsv (by omega) (by omega) B0) hZ (w 180 rfl) (w 86 rfl) (by decide) (by decide)) e0 (Ins.self B0.1) (g := (mkF m 1 #[.val (.ref sb)] [(.ref sb)])) rfl (by rw [hml]; rfl) (w 180 rfl) (argsL := []) (rest := []) (lenOf pd10 rfl) rfl (by show 2 * 0 + _ ≤ _; exact Nat.le_of_eq rfl) (hb hby dj67m93_1) (fun _ _ => ⟨rfl, e0, (by decide : 0 + 0 ≤ _), (by decide : 0 + 0 ≤ _)⟩)
 dsimp only [Pt.U, Pt.locs, Pt.cells, Pt.slots] at X51 l51 y51 z51 st51 hQ51
 subst l51 y51 z51
 obtain ⟨rfl, Nq51, eq51⟩ := hQ51
 have N51 := Fr.app N0 Nq51
 refine own_csR [(.int (Int32.ofNat k))] 4 st51 ?_
 exact own_retI X51 hx hrt (hb hby dj67m93_4) hlk (by decide) (by decide) eq51 (⟨rfl, N51, rfl⟩)

def Q71  (h0 : Heap) (n0 : Nat) (v : Option Value) (h : Heap) (L : List Loc) : Prop := v = none ∧ Fr n0 L ∧ h = h0

theorem rm71 (l : Launch) (Z : State) (a0 : Array Value) (hw : own_HW a0 Z) (ws : List Jvm.Cond) (nn : Nat) (h0 : Heap) (n0 : Nat) (hnn : nn ≤ 1000) :
  own_Met l own_M42 jdk_65_method_131_code 2 none ws own_R_0_0_0_0 Z #[(.int (0 : Int32)), (.int (Int32.ofNat nn))] h0 (Q71 h0 n0) := by
 refine own_enter #[.val (.int (0 : Int32)), .val (.int (Int32.ofNat nn))] (plainFor_of_name pn_java_util_Arrays) (fun m => ef_II_2 m (0 : Int32) (Int32.ofNat nn)) ?_
 intro p e s m below meth c s₁ hx hby hml hown hnm hZ hrt hlk X0 e0
 have w := @own_w _ _ hw
 have N0 := Fr.nil n0
 refine own_tp (.int (Int32.ofNat nn)) 1 (fun _ q => XS.iloadN X0.here hx rfl (hb hby dj65m131_0) rfl q) ?_
 refine own_tp (.int (0 : Int32)) 2 (fun _ q => XS.iloadN X0.here hx rfl (hb hby dj65m131_1) rfl q) ?_
 refine own_d2 37 (fun _ q => XS.icmpYes X0.here hx rfl (pc0 := 2) (pc' := 37) rfl (hb hby dj65m131_2) rfl (flt (own_n0 hnn)).2.1 (by decide) (by decide) q) ?_
 exact own_retV X0 hx hrt (hb hby dj65m131_37) hlk (by decide) (by decide) e0 (⟨rfl, N0, rfl⟩)

def Q72 (Z : State) (ts : List Int32) (k : Nat) (h0 : Heap) (n0 : Nat) (v : Option Value) (h : Heap) (L : List Loc) : Prop := ∃ (b : Addr) (kb : ClassId), v = some (.ref b) ∧ Fr n0 L ∧ Keep h0 h [] ∧ n0 ≤ b ∧ h0.size ≤ b ∧ Arv Z h b kb .byte (Int32.ofNat k) (own_lows ts) (.int (0 : Int32))

theorem rm72 (l : Launch) (Z : State) (a0 : Array Value) (hw : own_HW a0 Z) (ws : List Jvm.Cond) (b1 : Addr) (k1 : ClassId) (ts : List Int32) (cap k : Nat) (h0 : Heap) (n0 : Nat) (Z0 : n0 ≤ h0.size) (O0 : Old Z n0 h0) (hcap : cap ≤ 150) (hlt : k < cap) (hk96 : k ≤ 96) (hts : ts.length = k) (V1 : Arv Z h0 b1 k1 .byte (Int32.ofNat cap) (own_A cap (own_fL (ts.take k))) (.int (0 : Int32))) :
  own_Met l own_M43 jdk_65_method_133_code 5 (some (.array .byte)) ws own_R_1_1_192_46 Z #[(.ref b1), (.int (0 : Int32)), (.int (Int32.ofNat k))] h0 (Q72 Z ts k h0 n0) := by
 refine own_enter #[.val (.ref b1), .val (.int (0 : Int32)), .val (.int (Int32.ofNat k)), .unset, .unset] (plainFor_of_name pn_java_util_Arrays) (fun m => ef_RII_5 m b1 (0 : Int32) (Int32.ofNat k)) ?_
 intro p e s m below meth c s₁ hx hby hml hown hnm hZ hrt hlk X0 e0
 have w := @own_w _ _ hw
 have N0 := Fr.nil n0
 refine own_tp (.int (0 : Int32)) 1 (fun _ q => XS.iloadN X0.here hx rfl (hb hby dj65m133_0) rfl q) ?_
 refine own_tp (.int (Int32.ofNat k)) 2 (fun _ q => XS.iloadN X0.here hx rfl (hb hby dj65m133_1) rfl q) ?_
 obtain ⟨_, _, ⟨T51, L51, k51, n51⟩, -, X51, ⟨Lc51, hQ51, l51, y51, z51⟩, st51⟩ := Jvm.LawKit.callS X0 hx (y := own_M42) hown (mvT hZ (w 192 rfl)) (mvT hZ (w 193 rfl)) (mvT hZ (w 130 rfl)) (mvT hZ (w 194 rfl)) (by decide) (backOf (W := 0) (rm71 l Z a0 hw [] k h0 n0 (by omega)) hZ (w 194 rfl) (w 130 rfl) (by decide) (by decide)) (g := (mkF m 2 #[.val (.ref b1), .val (.int (0 : Int32)), .val (.int (Int32.ofNat k)), .unset, .unset] [(.int (Int32.ofNat k)), (.int (0 : Int32))])) rfl (by rw [hml]; rfl) (argsL := [(.int (0 : Int32)), (.int (Int32.ofNat k))]) (rest := []) (lenOf pd23 rfl) rfl (by show 2 * 0 + _ ≤ _; exact Nat.le_of_eq rfl) (hb hby dj65m133_2) (fun _ _ => ⟨rfl, e0, (by decide : 0 + 0 ≤ _), (by decide : 0 + 0 ≤ _)⟩)
 dsimp only [Pt.U, Pt.locs, Pt.cells, Pt.slots] at X51 l51 y51 z51 st51 hQ51
 subst l51 y51 z51
 obtain ⟨rfl, Nq51, eq51⟩ := hQ51
 have N51 := Fr.app N0 Nq51
 refine own_d2 5 st51 ?_
 refine own_tp (.int (Int32.ofNat k)) 6 (fun _ q => XS.iloadN X51.here hx rfl (hb hby dj65m133_5) rfl q) ?_
 refine own_tp (.int (0 : Int32)) 7 (fun _ q => XS.iloadN X51.here hx rfl (hb hby dj65m133_6) rfl q) ?_
 refine own_t2 (.int ((Int32.ofNat k) - (0 : Int32))) 8 (fun _ q => XS.isub X51.here hx rfl (hb hby dj65m133_7) rfl q) ?_
 rw [own_sub0]
 refine own_ls #[.val (.ref b1), .val (.int (0 : Int32)), .val (.int (Int32.ofNat k)), .val (.int (Int32.ofNat k)), .unset] 9 (fun _ q => XS.istoreN X51.here hx rfl (hb hby dj65m133_8) rfl (l' := #[.val (.ref b1), .val (.int (0 : Int32)), .val (.int (Int32.ofNat k)), .val (.int (Int32.ofNat k)), .unset]) rfl q) ?_
 refine own_tp (.int (Int32.ofNat k)) 10 (fun _ q => XS.iloadN X51.here hx rfl (hb hby dj65m133_9) rfl q) ?_
 obtain ⟨T52, h52, k52, X52, e52, E52, A52, st52⟩ := newP X51 hx hZ (w 17 rfl) eq51 (g := (mkF m 10 #[.val (.ref b1), .val (.int (0 : Int32)), .val (.int (Int32.ofNat k)), .val (.int (Int32.ofNat k)), .unset] [(.int (Int32.ofNat k))])) rfl (hb hby dj65m133_10) rfl (own_ofn (by omega)).1 (cap := 192) (by rw [(own_ofn (by omega)).2]; omega) (by decide) (by decide) (by decide)
 obtain ⟨b52, g52⟩ : ∃ z, z = h0.size := ⟨_, rfl⟩
 rw [← g52] at A52 st52
 have V52 : Arv Z h52 b52 k52 .byte (Int32.ofNat k) (List.replicate k (.int (0 : Int32))) (.int (0 : Int32)) := (Arv.new A52 (own_ofn (by omega)).1).pad (pad_rep [] (.int (0 : Int32)) k)
 have ge52 : n0 ≤ b52 := Nat.le_trans Z0 (Nat.le_of_eq g52.symm)
 have sz52 : h0.size ≤ b52 := Nat.le_trans (Keep.refl h0 []).1 (Nat.le_of_eq g52.symm)
 have ne53 : b1 ≠ b52 := Nat.ne_of_lt (Nat.lt_of_lt_of_le V1.lt (Nat.le_of_eq g52.symm))
 have O52 := Old.ext O0 E52
 have K52 : Keep h0 h52 [] := (Keep.refl h0 []).ext E52
 have Z52 : n0 ≤ h52.size := Nat.le_trans Z0 E52.1
 refine own_t1 (.ref b52) 12 st52 ?_
 refine own_ls #[.val (.ref b1), .val (.int (0 : Int32)), .val (.int (Int32.ofNat k)), .val (.int (Int32.ofNat k)), .val (.ref b52)] 14 (fun _ q => XS.astore X52.here hx rfl (hb hby dj65m133_12) rfl rfl (l' := #[.val (.ref b1), .val (.int (0 : Int32)), .val (.int (Int32.ofNat k)), .val (.int (Int32.ofNat k)), .val (.ref b52)]) rfl q) ?_
 refine own_tp (.ref b1) 15 (fun _ q => XS.aloadN X52.here hx rfl (hb hby dj65m133_14) rfl rfl q) ?_
 refine own_tp (.int (0 : Int32)) 16 (fun _ q => XS.iloadN X52.here hx rfl (hb hby dj65m133_15) rfl q) ?_
 refine own_tp (.ref b52) 18 (fun _ q => XS.aload X52.here hx rfl (hb hby dj65m133_16) rfl rfl q) ?_
 refine own_tp (.int (0 : Int32)) 19 (fun _ q => XS.iconst X52.here hx rfl (hb hby dj65m133_18) q) ?_
 refine own_tp (.ref b1) 20 (fun _ q => XS.aloadN X52.here hx rfl (hb hby dj65m133_19) rfl rfl q) ?_
 have f54 := (V1.ext E52)
 obtain ⟨cl55, Ar55, -, Sz55, Nn55, -, -⟩ := (id f54)
 refine own_t1 (.int (Int32.ofNat cap)) 21 (fun t q => X52.arraylength hx (by rw [e52]; exact Ar55.1) (State.isArrayOf_alike hZ.alike Ar55.2.1) (g := (mkF m 20 #[.val (.ref b1), .val (.int (0 : Int32)), .val (.int (Int32.ofNat k)), .val (.int (Int32.ofNat k)), .val (.ref b52)] [(.ref b1), (.int (0 : Int32)), (.ref b52), (.int (0 : Int32)), (.ref b1)])) rfl rfl (hb hby dj65m133_20) _ (by rw [len_of Sz55 Nn55]; exact q)) ?_
 refine own_tp (.int (0 : Int32)) 22 (fun _ q => XS.iloadN X52.here hx rfl (hb hby dj65m133_21) rfl q) ?_
 refine own_t2 (.int ((Int32.ofNat cap) - (0 : Int32))) 23 (fun _ q => XS.isub X52.here hx rfl (hb hby dj65m133_22) rfl q) ?_
 rw [own_sub0]
 refine own_tp (.int (Int32.ofNat k)) 24 (fun _ q => XS.iloadN X52.here hx rfl (hb hby dj65m133_23) rfl q) ?_
 obtain ⟨_, _, ⟨T56, L56, k56, n56⟩, -, X56, ⟨Lc56, hQ56, l56, y56, z56⟩, st56⟩ := Jvm.LawKit.callS X52 hx (y := own_M2) hown (mvT hZ (w 132 rfl)) (mvT hZ (w 133 rfl)) (mvT hZ (w 124 rfl)) (mvT hZ (w 134 rfl)) (by decide) (backOf (W := 4) (rm2 l Z a0 hw [] (Int32.ofNat cap) (Int32.ofNat k) (Int32.ofNat k) h52 n0 (own_minR (by omega) (by omega) (by omega))) hZ (w 134 rfl) (w 124 rfl) (by decide) (by decide)) (g := (mkF m 24 #[.val (.ref b1), .val (.int (0 : Int32)), .val (.int (Int32.ofNat k)), .val (.int (Int32.ofNat k)), .val (.ref b52)] [(.int (Int32.ofNat k)), (.int (Int32.ofNat cap)), (.int (0 : Int32)), (.ref b52), (.int (0 : Int32)), (.ref b1)])) rfl (by rw [hml]; rfl) (argsL := [(.int (Int32.ofNat cap)), (.int (Int32.ofNat k))]) (rest := [(.int (0 : Int32)), (.ref b52), (.int (0 : Int32)), (.ref b1)]) (lenOf pd7 rfl) rfl (by show 2 * 0 + _ ≤ _; exact Nat.le_of_eq rfl) (hb hby dj65m133_24) (fun _ _ => ⟨rfl, e52, (by decide : 1 + 0 ≤ _), (by decide : 192 + 0 ≤ _)⟩)
 dsimp only [Pt.U, Pt.locs, Pt.cells, Pt.slots] at X56 l56 y56 z56 st56 hQ56
 subst l56 y56 z56
 obtain ⟨rfl, Nq56, eq56⟩ := hQ56
 have N56 := Fr.app N51 Nq56
 refine own_t2 (.int (Int32.ofNat k)) 27 st56 ?_
 obtain ⟨T57, h57, L57, X57, e57, Kp57, B57, V57, st57⟩ := own_acopy X56 hx hZ hown (w 135 rfl) (w 138 rfl) (w 136 rfl) (w 137 rfl) eq56 f54 V52 0 k (by omega) (by rw [(own_ofn (by omega)).2]; omega) (by rw [(own_ofn (by omega)).2]; omega) (by first | (rw [own_A_len, (own_ofn (by omega)).2]; done) | (rw [List.length_replicate, (own_ofn (by omega)).2]; done)) (g := (mkF m 27 #[.val (.ref b1), .val (.int (0 : Int32)), .val (.int (Int32.ofNat k)), .val (.int (Int32.ofNat k)), .val (.ref b52)] [(.int (Int32.ofNat k)), (.int (0 : Int32)), (.ref b52), (.int (0 : Int32)), (.ref b1)])) rfl (by rw [hml]; rfl) (rest := []) rfl (hb hby dj65m133_27) (by decide) (W := 0) (by show 2 * 0 + _ ≤ _; exact Nat.le_of_eq rfl) (by decide)
 have Nq57 : Fr n0 L57 := fun y hy => by rw [B57 y hy]; exact ge52
 have N57 := Fr.app N56 Nq57
 have O57 := Old.keep O52 Kp57 (allS ge52 all0)
 have Z57 : n0 ≤ h57.size := Nat.le_trans Z52 Kp57.1
 have K57 : Keep h0 h57 [] := Keep.trans K52 Kp57 (allS (Or.inr sz52) all0)
 have V57' : Arv Z h57 b52 k52 .byte (Int32.ofNat k) (own_lows ts) (.int (0 : Int32)) := by have q := V57; rw [own_repL, own_growL (by omega) (by omega), own_finL hts] at q; exact q
 refine own_cs [] 30 st57 ?_
 refine own_tp (.ref b52) 32 (fun _ q => XS.aload X57.here hx rfl (hb hby dj65m133_30) rfl rfl q) ?_
 exact own_retR X57 hx hrt (hb hby dj65m133_32) rfl rfl hlk (by decide) (by decide) e57 (⟨b52, _, rfl, N57, K57, ge52, sz52, V57'⟩)

def Q73 (Z : State) (ts : List Int32) (k : Nat) (h0 : Heap) (n0 : Nat) (v : Option Value) (h : Heap) (L : List Loc) : Prop := ∃ (b : Addr) (kb : ClassId), v = some (.ref b) ∧ Fr n0 L ∧ Keep h0 h [] ∧ n0 ≤ b ∧ h0.size ≤ b ∧ Arv Z h b kb .byte (Int32.ofNat k) (own_lows ts) (.int (0 : Int32))

theorem rm73 (l : Launch) (Z : State) (a0 : Array Value) (hw : own_HW a0 Z) (ws : List Jvm.Cond) (b1 : Addr) (k1 : ClassId) (ts : List Int32) (cap k : Nat) (h0 : Heap) (n0 : Nat) (Z0 : n0 ≤ h0.size) (O0 : Old Z n0 h0) (hcap : cap ≤ 150) (hlt : k < cap) (hk96 : k ≤ 96) (hts : ts.length = k) (V1 : Arv Z h0 b1 k1 .byte (Int32.ofNat cap) (own_A cap (own_fL (ts.take k))) (.int (0 : Int32))) :
  own_Met l own_M44 jdk_65_method_132_code 3 (some (.array .byte)) ws own_R_2_1_192_62 Z #[(.ref b1), (.int (0 : Int32)), (.int (Int32.ofNat k))] h0 (Q73 Z ts k h0 n0) := by
 refine own_enter #[.val (.ref b1), .val (.int (0 : Int32)), .val (.int (Int32.ofNat k))] (plainFor_of_name pn_java_util_Arrays) (fun m => ef_RII_3 m b1 (0 : Int32) (Int32.ofNat k)) ?_
 intro p e s m below meth c s₁ hx hby hml hown hnm hZ hrt hlk X0 e0
 have w := @own_w _ _ hw
 have N0 := Fr.nil n0
 refine own_tp (.int (0 : Int32)) 1 (fun _ q => XS.iloadN X0.here hx rfl (hb hby dj65m132_0) rfl q) ?_
 refine own_d1 4 (fun _ q => XS.ifNo X0.here hx rfl (hb hby dj65m132_1) rfl ((if0 _ _).trans (teq (by decide : (0 : Int32) = (0 : Int32))).2) q) ?_
 refine own_tp (.int (Int32.ofNat k)) 5 (fun _ q => XS.iloadN X0.here hx rfl (hb hby dj65m132_4) rfl q) ?_
 refine own_tp (.ref b1) 6 (fun _ q => XS.aloadN X0.here hx rfl (hb hby dj65m132_5) rfl rfl q) ?_
 obtain ⟨cl51, Ar51, -, Sz51, Nn51, -, -⟩ := (id V1)
 refine own_t1 (.int (Int32.ofNat cap)) 7 (fun t q => X0.arraylength hx (by rw [e0]; exact Ar51.1) (State.isArrayOf_alike hZ.alike Ar51.2.1) (g := (mkF m 6 #[.val (.ref b1), .val (.int (0 : Int32)), .val (.int (Int32.ofNat k))] [(.ref b1), (.int (Int32.ofNat k))])) rfl rfl (hb hby dj65m132_6) _ (by rw [len_of Sz51 Nn51]; exact q)) ?_
 refine own_d2 10 (fun _ q => XS.icmpNo X0.here hx rfl (hb hby dj65m132_7) rfl (feq (own_neM (by omega) (by omega) (by omega))).1 q) ?_
 refine own_tp (.ref b1) 11 (fun _ q => XS.aloadN X0.here hx rfl (hb hby dj65m132_10) rfl rfl q) ?_
 refine own_tp (.int (0 : Int32)) 12 (fun _ q => XS.iloadN X0.here hx rfl (hb hby dj65m132_11) rfl q) ?_
 refine own_tp (.int (Int32.ofNat k)) 13 (fun _ q => XS.iloadN X0.here hx rfl (hb hby dj65m132_12) rfl q) ?_
 obtain ⟨_, _, ⟨T52, L52, k52, n52⟩, -, X52, ⟨Lc52, hQ52, l52, y52, z52⟩, st52⟩ := Jvm.LawKit.callS X0 hx (y := own_M43) hown (mvT hZ (w 189 rfl)) (mvT hZ (w 190 rfl)) (mvT hZ (w 130 rfl)) (mvT hZ (w 191 rfl)) (by decide) (backOf (W := 0) (rm72 l Z a0 hw [] b1 k1 ts cap k h0 n0 Z0 O0 hcap hlt hk96 hts V1) hZ (w 191 rfl) (w 130 rfl) (by decide) (by decide)) (g := (mkF m 13 #[.val (.ref b1), .val (.int (0 : Int32)), .val (.int (Int32.ofNat k))] [(.int (Int32.ofNat k)), (.int (0 : Int32)), (.ref b1)])) rfl (by rw [hml]; rfl) (argsL := [(.ref b1), (.int (0 : Int32)), (.int (Int32.ofNat k))]) (rest := []) (lenOf pd24 rfl) rfl (by show 2 * 0 + _ ≤ _; exact Nat.le_of_eq rfl) (hb hby dj65m132_13) (fun _ _ => ⟨rfl, e0, (by decide : 0 + 1 ≤ _), (by decide : 0 + 192 ≤ _)⟩)
 dsimp only [Pt.U, Pt.locs, Pt.cells, Pt.slots] at X52 l52 y52 z52 st52 hQ52
 subst l52 y52 z52
 obtain ⟨cr52, kc52, rfl, Nq52, Kp52, ge52, sz52, V52⟩ := hQ52
 have ne53 : b1 ≠ cr52 := Nat.ne_of_lt (Nat.lt_of_lt_of_le V1.lt sz52)
 have s0cr52 : h0.size ≤ cr52 := Nat.le_trans (Keep.refl h0 []).1 sz52
 have N52 := Fr.app N0 Nq52
 have O52 := Old.keep O0 Kp52 all0
 have Z52 : n0 ≤ T52.heap.size := Nat.le_trans Z0 Kp52.1
 have K52 : Keep h0 T52.heap [] := Keep.trans (Keep.refl h0 []) Kp52 all0
 refine own_cs [(.ref cr52)] 16 st52 ?_
 exact own_retR X52 hx hrt (hb hby dj65m132_16) rfl rfl hlk (by decide) (by decide) rfl (⟨cr52, _, rfl, N52, K52, ge52, s0cr52, V52⟩)

def Q74 (Z : State) (x1 : Addr) (ts : List Int32) (h0 : Heap) (n0 : Nat) (v : Option Value) (h : Heap) (L : List Loc) : Prop := v = none ∧ Fr n0 L ∧ Keep h0 h [x1] ∧ ∃ (t : Addr) (kb : ClassId) (cd N : Int32) (vs : List Value), Exa Z h x1 "java/lang/String" ∧ Fld Z h x1 "java/lang/String" "value" "[B" (.ref t) ∧ Fld Z h x1 "java/lang/String" "coder" "B" (.int cd) ∧ Arv Z h t kb .byte N vs (.int (0 : Int32)) ∧ own_Cod ts cd N vs

theorem rm74 (l : Launch) (Z : State) (a0 : Array Value) (hw : own_HW a0 Z) (ws : List Jvm.Cond) (x1 : Addr) (sb vb : Addr) (kv : ClassId) (ts : List Int32) (cap k : Nat) (u1 u2 : Value) (h0 : Heap) (n0 : Nat) (Z0 : n0 ≤ h0.size) (gs : n0 ≤ sb) (gv : n0 ≤ vb) (hsv : sb ≠ vb) (hcap : cap ≤ 150) (hkc : k ≤ cap) (B0 : own_B Z h0 sb vb kv (0 : Int32) (Int32.ofNat k) (Int32.ofNat cap) (own_A cap (own_fL (ts.take k)))) (hts : ts.length = k) (hlt : k < cap) (hk96 : k ≤ 96) (hall : ∀ c ∈ ts, ¬ (255 : Int32) < c) (g1 : n0 ≤ x1) (m1 : x1 ≠ sb) (m2 : x1 ≠ vb) (E1 : Exa Z h0 x1 "java/lang/String") (F1 : Fld Z h0 x1 "java/lang/String" "value" "[B" u1) (F2 : Fld Z h0 x1 "java/lang/String" "coder" "B" u2) (G1 : Int32) (US : own_US Z G1) (O0 : Old Z n0 h0) :
  own_Met l own_M45 jdk_42_method_150_code 5 none ws own_R_3_1_192_77 Z #[(.ref x1), (.ref sb), .null] h0 (Q74 Z x1 ts h0 n0) := by
 refine own_enter #[.val (.ref x1), .val (.ref sb), .val .null, .unset, .unset] (plainFor_of_name pn_java_lang_String) (fun m => ef_RRN_5 m x1 sb) ?_
 intro p e s m below meth c s₁ hx hby hml hown hnm hZ hrt hlk X0 e0
 have w := @own_w _ _ hw
 have N0 := Fr.nil n0
 refine own_tp (.ref x1) 1 (fun _ q => XS.aloadN X0.here hx rfl (hb hby dj42m150_0) rfl rfl q) ?_
 obtain ⟨T51, X51, e51, st51⟩ := initO X0 hx hZ hown (w 13 rfl) (w 14 rfl) (w 15 rfl) e0 (g := (mkF m 1 #[.val (.ref x1), .val (.ref sb), .val .null, .unset, .unset] [(.ref x1)])) rfl (by rw [hml]; rfl) rfl (hb hby dj42m150_1) (by decide) (W := 0) (by show 2 * 0 + _ ≤ _; exact Nat.le_of_eq rfl) (by decide)
 refine own_d1 4 st51 ?_
 refine own_tp (.ref sb) 5 (fun _ q => XS.aloadN X51.here hx rfl (hb hby dj42m150_4) rfl rfl q) ?_
 obtain ⟨cq52, kq52, q52a, q52b, q52c⟩ := isOf hZ e51 B0.1
 obtain ⟨_, _, ⟨T52, L52, k52, n52⟩, -, X52, ⟨Lc52, hQ52, l52, y52, z52⟩, st52⟩ := X51.virtualBack hx (y := own_M39) (z := own_M39) hown (mvT hZ (w 168 rfl)) (mvT hZ (w 169 rfl)) (notFace_of_selects (args := #[]) (mvT hZ (w 171 rfl))) (mvT hZ (w 171 rfl)) (mvT hZ (w 170 rfl)) (by decide) (backOf (W := 0) (rm68 l Z a0 hw [] sb vb kv ts cap k h0 n0 Z0 gs gv hsv (by omega) (by omega) B0) hZ (w 172 rfl) (w 86 rfl) (by decide) (by decide)) q52a q52c (g := (mkF m 5 #[.val (.ref x1), .val (.ref sb), .val .null, .unset, .unset] [(.ref sb)])) rfl (by rw [hml]; rfl) (Steps.refl _) (argsL := []) (rest := []) (lenOf pd25 rfl) rfl (by show 2 * 0 + _ ≤ _; exact Nat.le_of_eq rfl) (hb hby dj42m150_5) (fun _ _ => ⟨rfl, e51, (by decide : 0 + 0 ≤ _), (by decide : 0 + 0 ≤ _)⟩)
 dsimp only [Pt.U, Pt.locs, Pt.cells, Pt.slots] at X52 l52 y52 z52 st52 hQ52
 subst l52 y52 z52
 obtain ⟨rfl, Nq52, eq52⟩ := hQ52
 have N52 := Fr.app N0 Nq52
 refine own_csR [(.ref vb)] 8 st52 ?_
 refine own_ls #[.val (.ref x1), .val (.ref sb), .val .null, .val (.ref vb), .unset] 9 (fun _ q => XS.astoreN X52.here hx rfl (hb hby dj42m150_8) rfl rfl (l' := #[.val (.ref x1), .val (.ref sb), .val .null, .val (.ref vb), .unset]) rfl q) ?_
 refine own_tp (.ref sb) 10 (fun _ q => XS.aloadN X52.here hx rfl (hb hby dj42m150_9) rfl rfl q) ?_
 obtain ⟨cq53, kq53, q53a, q53b, q53c⟩ := isOf hZ eq52 B0.1
 obtain ⟨_, _, ⟨T53, L53, k53, n53⟩, -, X53, ⟨Lc53, hQ53, l53, y53, z53⟩, st53⟩ := X52.virtualBack hx (y := own_M40) (z := own_M41) hown (mvT hZ (w 173 rfl)) (mvT hZ (w 174 rfl)) (own_nf (args := #[]) (mvT hZ (w 111 rfl)) rfl) (mvT hZ (w 176 rfl)) (mvT hZ (w 177 rfl)) (by decide) (backOf (W := 0) (rm70 l Z a0 hw [] sb vb kv ts cap k h0 n0 Z0 gs gv hsv (by omega) (by omega) B0) hZ (w 178 rfl) (w 78 rfl) (by decide) (by decide)) q53a q53c (g := (mkF m 10 #[.val (.ref x1), .val (.ref sb), .val .null, .val (.ref vb), .unset] [(.ref sb)])) rfl (by rw [hml]; rfl) (Steps.refl _) (argsL := []) (rest := []) (lenOf pd10 rfl) rfl (by show 2 * 0 + _ ≤ _; exact Nat.le_of_eq rfl) (hb hby dj42m150_10) (fun _ _ => ⟨rfl, eq52, (by decide : 0 + 0 ≤ _), (by decide : 0 + 0 ≤ _)⟩)
 dsimp only [Pt.U, Pt.locs, Pt.cells, Pt.slots] at X53 l53 y53 z53 st53 hQ53
 subst l53 y53 z53
 obtain ⟨rfl, Nq53, eq53⟩ := hQ53
 have N53 := Fr.app N52 Nq53
 refine own_csR [(.int (Int32.ofNat k))] 13 st53 ?_
 refine own_ls #[.val (.ref x1), .val (.ref sb), .val .null, .val (.ref vb), .val (.int (Int32.ofNat k))] 15 (fun _ q => XS.istore X53.here hx rfl (hb hby dj42m150_13) rfl (l' := #[.val (.ref x1), .val (.ref sb), .val .null, .val (.ref vb), .val (.int (Int32.ofNat k))]) rfl q) ?_
 refine own_tp (.ref sb) 16 (fun _ q => XS.aloadN X53.here hx rfl (hb hby dj42m150_15) rfl rfl q) ?_
 obtain ⟨cq54, kq54, q54a, q54b, q54c⟩ := isOf hZ eq53 B0.1
 obtain ⟨_, _, ⟨T54, L54, k54, n54⟩, -, X54, ⟨Lc54, hQ54, l54, y54, z54⟩, st54⟩ := X53.virtualBack hx (y := own_M29) (z := own_M29) hown (mvT hZ (w 181 rfl)) (mvT hZ (w 182 rfl)) (notFace_of_selects (args := #[]) (mvT hZ (w 184 rfl))) (mvT hZ (w 184 rfl)) (mvT hZ (w 183 rfl)) (by decide) (backOf (W := 0) (rm45 l Z a0 hw [] sb vb kv ts cap k h0 n0 Z0 gs gv hsv (by omega) (by omega) B0 G1 US O0) hZ (w 185 rfl) (w 86 rfl) (by decide) (by decide)) q54a q54c (g := (mkF m 16 #[.val (.ref x1), .val (.ref sb), .val .null, .val (.ref vb), .val (.int (Int32.ofNat k))] [(.ref sb)])) rfl (by rw [hml]; rfl) (Steps.refl _) (argsL := []) (rest := []) (lenOf pd9 rfl) rfl (by show 2 * 0 + _ ≤ _; exact Nat.le_of_eq rfl) (hb hby dj42m150_16) (fun _ _ => ⟨rfl, eq53, (by decide : 0 + 0 ≤ _), (by decide : 0 + 0 ≤ _)⟩)
 dsimp only [Pt.U, Pt.locs, Pt.cells, Pt.slots] at X54 l54 y54 z54 st54 hQ54
 subst l54 y54 z54
 obtain ⟨rfl, Nq54, eq54⟩ := hQ54
 have N54 := Fr.app N53 Nq54
 refine own_csR [(.int (1 : Int32))] 19 st54 ?_
 refine own_d1 22 (fun _ q => XS.ifNo X54.here hx rfl (hb hby dj42m150_19) rfl ((if0 _ _).trans (feq (by decide : ¬ ((1 : Int32) = (0 : Int32)))).1) q) ?_
 refine own_tp (.ref x1) 23 (fun _ q => XS.aloadN X54.here hx rfl (hb hby dj42m150_22) rfl rfl q) ?_
 refine own_tp (.int (0 : Int32)) 24 (fun _ q => XS.iconst X54.here hx rfl (hb hby dj42m150_23) q) ?_
 obtain ⟨T55, h55, X55, e55, W55, st55⟩ := putFN X54 hx hZ hown (w 23 rfl) Via.refl eq54 F2 E1 (Or.inr ⟨(w 19 rfl), rfl, hnm⟩) (w 4 rfl) (ty := .byte) (v' := (.int (0 : Int32))) (by decide) rfl rfl (g := (mkF m 24 #[.val (.ref x1), .val (.ref sb), .val .null, .val (.ref vb), .val (.int (Int32.ofNat k))] [(.int (0 : Int32)), (.ref x1)])) rfl rfl (hb hby dj42m150_24)
 have Fw55 := F2.same W55
 have N55 := Fr.snoc X55 N54 g1
 have O55 := Old.wr O0 W55 g1
 have K55 : Keep h0 h55 [x1] := (Keep.refl h0 [x1]).wr W55 (Or.inl (List.mem_of_getElem? (i := 0) rfl))
 have Z55 : n0 ≤ h55.size := Nat.le_trans Z0 (Nat.le_of_eq W55.size.symm)
 refine own_d2 27 st55 ?_
 refine own_tp (.ref x1) 28 (fun _ q => XS.aloadN X55.here hx rfl (hb hby dj42m150_27) rfl rfl q) ?_
 refine own_tp (.ref vb) 29 (fun _ q => XS.aloadN X55.here hx rfl (hb hby dj42m150_28) rfl rfl q) ?_
 refine own_tp (.int (0 : Int32)) 30 (fun _ q => XS.iconst X55.here hx rfl (hb hby dj42m150_29) q) ?_
 refine own_tp (.int (Int32.ofNat k)) 32 (fun _ q => XS.iload X55.here hx rfl (hb hby dj42m150_30) rfl q) ?_
 have f56 := (B0.2.2.2.2.2.other W55 (Ne.symm m2))
 obtain ⟨_, _, ⟨T57, L57, k57, n57⟩, -, X57, ⟨Lc57, hQ57, l57, y57, z57⟩, st57⟩ := Jvm.LawKit.callS X55 hx (y := own_M44) hown (mvT hZ (w 186 rfl)) (mvT hZ (w 187 rfl)) (mvT hZ (w 130 rfl)) (mvT hZ (w 188 rfl)) (by decide) (backOf (W := 1) (rm73 l Z a0 hw [] vb kv ts cap k h55 n0 Z55 O55 hcap hlt hk96 hts f56) hZ (w 188 rfl) (w 130 rfl) (by decide) (by decide)) (g := (mkF m 32 #[.val (.ref x1), .val (.ref sb), .val .null, .val (.ref vb), .val (.int (Int32.ofNat k))] [(.int (Int32.ofNat k)), (.int (0 : Int32)), (.ref vb), (.ref x1)])) rfl (by rw [hml]; rfl) (argsL := [(.ref vb), (.int (0 : Int32)), (.int (Int32.ofNat k))]) (rest := [(.ref x1)]) (lenOf pd24 rfl) rfl (by show 2 * 0 + _ ≤ _; exact Nat.le_of_eq rfl) (hb hby dj42m150_32) (fun _ _ => ⟨rfl, e55, (by decide : 0 + 1 ≤ _), (by decide : 0 + 192 ≤ _)⟩)
 dsimp only [Pt.U, Pt.locs, Pt.cells, Pt.slots] at X57 l57 y57 z57 st57 hQ57
 subst l57 y57 z57
 obtain ⟨cr57, kc57, rfl, Nq57, Kp57, ge57, sz57, V57⟩ := hQ57
 have f59 := (B0.1.wr W55)
 have ne58 : sb ≠ cr57 := Nat.ne_of_lt (Nat.lt_of_lt_of_le f59.lt sz57)
 have ne60 : vb ≠ cr57 := Nat.ne_of_lt (Nat.lt_of_lt_of_le f56.lt sz57)
 have f62 := (E1.wr W55)
 have ne61 : x1 ≠ cr57 := Nat.ne_of_lt (Nat.lt_of_lt_of_le f62.lt sz57)
 have s0cr57 : h0.size ≤ cr57 := Nat.le_trans K55.1 sz57
 have N57 := Fr.app N55 Nq57
 have O57 := Old.keep O55 Kp57 all0
 have Z57 : n0 ≤ T57.heap.size := Nat.le_trans Z55 Kp57.1
 have K57 : Keep h0 T57.heap [x1] := Keep.trans K55 Kp57 all0
 refine own_cs [(.ref cr57), (.ref x1)] 35 st57 ?_
 have f63 := ((F1.other W55 (Or.inr (slot_ne (Or.inr (w 18 rfl)) (Or.inr (w 19 rfl)) (by decide) (t := (.array .byte)) (t' := .byte) (by decide) (by decide)))).keep Kp57 nin0)
 have f64 := (f62.keep Kp57)
 obtain ⟨T65, h65, X65, e65, W65, st65⟩ := putF X57 hx hZ hown (host := "") (Or.inl (w 22 rfl)) Via.refl rfl f63 f64 (Or.inr ⟨(w 18 rfl), rfl, hnm⟩) (w 4 rfl) (ty := (.array .byte)) (by decide) rfl rfl (g := (mkF m 35 #[.val (.ref x1), .val (.ref sb), .val .null, .val (.ref vb), .val (.int (Int32.ofNat k))] [(.ref cr57), (.ref x1)])) rfl rfl (hb hby dj42m150_35)
 have Fw65 := f63.same W65
 have N65 := Fr.snoc X65 N57 g1
 have O65 := Old.wr O57 W65 g1
 have K65 : Keep h0 h65 [x1] := K57.wr W65 (Or.inl (List.mem_of_getElem? (i := 0) rfl))
 have Z65 : n0 ≤ h65.size := Nat.le_trans Z57 (Nat.le_of_eq W65.size.symm)
 refine own_d2 38 st65 ?_
 refine own_d0 97 (fun _ q => XS.goto X65.here hx rfl (pc0 := 38) (pc' := 97) rfl (hb hby dj42m150_38) (by decide) (by decide) q) ?_
 have f66 := (f64.wr W65)
 have f67 := ((Fw55.keep Kp57 nin0).other W65 (Or.inr (slot_ne (Or.inr (w 19 rfl)) (Or.inr (w 18 rfl)) (by decide) (t := .byte) (t' := (.array .byte)) (by decide) (by decide))))
 have f68 := (V57.other W65 (Ne.symm ne61))
 exact own_retV X65 hx hrt (hb hby dj42m150_97) hlk (by decide) (by decide) e65 (⟨rfl, N65, K65, cr57, _, _, _, _, f66, Fw65, f67, f68, Or.inl ⟨rfl, by rw [hts], rfl, hall⟩⟩)

def Q75 (Z : State) (x1 : Addr) (ts : List Int32) (h0 : Heap) (n0 : Nat) (v : Option Value) (h : Heap) (L : List Loc) : Prop := v = none ∧ Fr n0 L ∧ Keep h0 h [x1] ∧ ∃ (t : Addr) (kb : ClassId) (cd N : Int32) (vs : List Value), Exa Z h x1 "java/lang/String" ∧ Fld Z h x1 "java/lang/String" "value" "[B" (.ref t) ∧ Fld Z h x1 "java/lang/String" "coder" "B" (.int cd) ∧ Arv Z h t kb .byte N vs (.int (0 : Int32)) ∧ own_Cod ts cd N vs

theorem rm75 (l : Launch) (Z : State) (a0 : Array Value) (hw : own_HW a0 Z) (ws : List Jvm.Cond) (x1 : Addr) (sb vb : Addr) (kv : ClassId) (ts : List Int32) (cap k : Nat) (u1 u2 : Value) (h0 : Heap) (n0 : Nat) (Z0 : n0 ≤ h0.size) (gs : n0 ≤ sb) (gv : n0 ≤ vb) (hsv : sb ≠ vb) (hcap : cap ≤ 150) (hkc : k ≤ cap) (B0 : own_B Z h0 sb vb kv (0 : Int32) (Int32.ofNat k) (Int32.ofNat cap) (own_A cap (own_fL (ts.take k)))) (hts : ts.length = k) (hlt : k < cap) (hk96 : k ≤ 96) (hall : ∀ c ∈ ts, ¬ (255 : Int32) < c) (g1 : n0 ≤ x1) (m1 : x1 ≠ sb) (m2 : x1 ≠ vb) (E1 : Exa Z h0 x1 "java/lang/String") (F1 : Fld Z h0 x1 "java/lang/String" "value" "[B" u1) (F2 : Fld Z h0 x1 "java/lang/String" "coder" "B" u2) (G1 : Int32) (US : own_US Z G1) (O0 : Old Z n0 h0) :
  own_Met l own_M46 jdk_42_method_53_code 2 none ws own_R_4_1_192_93 Z #[(.ref x1), (.ref sb)] h0 (Q75 Z x1 ts h0 n0) := by
 refine own_enter #[.val (.ref x1), .val (.ref sb)] (plainFor_of_name pn_java_lang_String) (fun m => ef_RR_2 m x1 sb) ?_
 intro p e s m below meth c s₁ hx hby hml hown hnm hZ hrt hlk X0 e0
 have w := @own_w _ _ hw
 have N0 := Fr.nil n0
 refine own_tp (.ref x1) 1 (fun _ q => XS.aloadN X0.here hx rfl (hb hby dj42m53_0) rfl rfl q) ?_
 refine own_tp (.ref sb) 2 (fun _ q => XS.aloadN X0.here hx rfl (hb hby dj42m53_1) rfl rfl q) ?_
 refine own_tp .null 3 (fun _ q => XS.aconstNull X0.here hx rfl (hb hby dj42m53_2) q) ?_
 obtain ⟨_, _, ⟨T51, L51, k51, n51⟩, -, X51, ⟨Lc51, hQ51, l51, y51, z51⟩, st51⟩ := X0.specialBack hx (y := own_M45) rfl hown (mvT hZ (w 165 rfl)) (mvT hZ (w 166 rfl)) (mvT hZ (w 167 rfl)) (by decide) (backOf (W := 0) (rm74 l Z a0 hw [] x1 sb vb kv ts cap k _ _ h0 n0 Z0 gs gv hsv (by omega) (by omega) B0 hts hlt hk96 hall g1 m1 m2 E1 F1 F2 G1 US O0) hZ (w 167 rfl) (w 5 rfl) (by decide) (by decide)) (g := (mkF m 3 #[.val (.ref x1), .val (.ref sb)] [.null, (.ref sb), (.ref x1)])) rfl (by rw [hml]; rfl) (Steps.refl _) (a := x1) (argsL := [(.ref sb), .null]) (rest := []) (lenOf pd26 rfl) rfl (by show 2 * 0 + _ ≤ _; exact Nat.le_of_eq rfl) (hb hby dj42m53_3) (fun _ _ => ⟨rfl, e0, (by decide : 0 + 1 ≤ _), (by decide : 0 + 192 ≤ _)⟩)
 dsimp only [Pt.U, Pt.locs, Pt.cells, Pt.slots] at X51 l51 y51 z51 st51 hQ51
 subst l51 y51 z51
 obtain ⟨rfl, Nq51, Kp51, rest51⟩ := hQ51
 refine own_csR [] 6 st51 ?_
 exact own_retV X51 hx hrt (hb hby dj42m53_6) hlk (by decide) (by decide) rfl (⟨rfl, Fr.app N0 Nq51, Kp51, rest51⟩)

def Q76 (Z : State) (ts : List Int32) (h0 : Heap) (n0 : Nat) (v : Option Value) (h : Heap) (L : List Loc) : Prop := ∃ r : Addr, v = some (.ref r) ∧ Fr n0 L ∧ Keep h0 h [] ∧ own_S Z h r ts

theorem rm76 (l : Launch) (Z : State) (a0 : Array Value) (hw : own_HW a0 Z) (ws : List Jvm.Cond) (sb vb : Addr) (kv : ClassId) (ts : List Int32) (cap k : Nat) (h0 : Heap) (n0 : Nat) (Z0 : n0 ≤ h0.size) (gs : n0 ≤ sb) (gv : n0 ≤ vb) (hsv : sb ≠ vb) (hcap : cap ≤ 150) (hkc : k ≤ cap) (B0 : own_B Z h0 sb vb kv (0 : Int32) (Int32.ofNat k) (Int32.ofNat cap) (own_A cap (own_fL (ts.take k)))) (hts : ts.length = k) (hlt : k < cap) (hk96 : k ≤ 96) (hall : ∀ c ∈ ts, ¬ (255 : Int32) < c) (G1 : Int32) (US : own_US Z G1) (O0 : Old Z n0 h0) :
  own_Met l own_M47 jdk_67_method_42_code 1 (some (.object "java/lang/String")) ws own_R_5_2_196_107 Z #[(.ref sb)] h0 (Q76 Z ts h0 n0) := by
 refine own_enter #[.val (.ref sb)] (plainFor_of_name pn_java_lang_StringBuilder) (fun m => ef_R_1 m sb) ?_
 intro p e s m below meth c s₁ hx hby hml hown hnm hZ hrt hlk X0 e0
 have w := @own_w _ _ hw
 have N0 := Fr.nil n0
 obtain ⟨T51, h51, X51, e51, E51, A51, D51, -, st51⟩ := newO X0 hx hZ hown (w 161 rfl) (w 4 rfl) (w 5 rfl) e0 (g := (mkF m 0 #[.val (.ref sb)] [])) rfl (hb hby dj67m42_0) (by decide) (by decide)
 obtain ⟨b51, g51⟩ : ∃ z, z = h0.size := ⟨_, rfl⟩
 rw [← g51] at A51 D51 st51
 have ge51 : n0 ≤ b51 := Nat.le_trans Z0 (Nat.le_of_eq g51.symm)
 have sz51 : h0.size ≤ b51 := Nat.le_trans (Keep.refl h0 []).1 (Nat.le_of_eq g51.symm)
 have ne52 : sb ≠ b51 := Nat.ne_of_lt (Nat.lt_of_lt_of_le B0.1.lt (Nat.le_of_eq g51.symm))
 have ne53 : vb ≠ b51 := Nat.ne_of_lt (Nat.lt_of_lt_of_le B0.2.2.2.2.2.lt (Nat.le_of_eq g51.symm))
 have O51 := Old.ext O0 E51
 have K51 : Keep h0 h51 [] := (Keep.refl h0 []).ext E51
 have Z51 : n0 ≤ h51.size := Nat.le_trans Z0 E51.1
 have Fvalue_51 : Fld Z h51 b51 "java/lang/String" "value" "[B" .null := D51 (Or.inr (w 18 rfl)) (ty := (.array .byte)) (by decide)
 have Fcoder_51 : Fld Z h51 b51 "java/lang/String" "coder" "B" (.int (0 : Int32)) := D51 (Or.inr (w 19 rfl)) (ty := .byte) (by decide)
 refine own_tp (.ref b51) 3 st51 ?_
 refine own_tp (.ref b51) 4 (fun _ q => XS.dup X51.here hx rfl (hb hby dj67m42_3) rfl rfl q) ?_
 refine own_tp (.ref sb) 5 (fun _ q => XS.aloadN X51.here hx rfl (hb hby dj67m42_4) rfl rfl q) ?_
 have f54 := (B0.1.ext E51)
 have f55 := (B0.2.1.ext E51)
 have f56 := (B0.2.2.1.ext E51)
 have f57 := (B0.2.2.2.1.ext E51)
 have f58 := (B0.2.2.2.2.1.ext E51)
 have f59 := (B0.2.2.2.2.2.ext E51)
 obtain ⟨_, _, ⟨T60, L60, k60, n60⟩, -, X60, ⟨Lc60, hQ60, l60, y60, z60⟩, st60⟩ := X51.specialBack hx (y := own_M46) rfl hown (mvT hZ (w 162 rfl)) (mvT hZ (w 163 rfl)) (mvT hZ (w 164 rfl)) (by decide) (backOf (W := 1) (rm75 l Z a0 hw [] b51 sb vb kv ts cap k _ _ h51 n0 Z51 gs gv hsv (by omega) (by omega) ⟨f54, f55, f56, f57, f58, f59⟩ hts hlt hk96 hall ge51 (Ne.symm ne52) (Ne.symm ne53) A51 Fvalue_51 Fcoder_51 G1 US O51) hZ (w 164 rfl) (w 5 rfl) (by decide) (by decide)) (g := (mkF m 5 #[.val (.ref sb)] [(.ref sb), (.ref b51), (.ref b51)])) rfl (by rw [hml]; rfl) (Steps.refl _) (a := b51) (argsL := [(.ref sb)]) (rest := [(.ref b51)]) (lenOf pd27 rfl) rfl (by show 2 * 0 + _ ≤ _; exact Nat.le_of_eq rfl) (hb hby dj67m42_5) (fun _ _ => ⟨rfl, e51, (by decide : 1 + 1 ≤ _), (by decide : 4 + 192 ≤ _)⟩)
 dsimp only [Pt.U, Pt.locs, Pt.cells, Pt.slots] at X60 l60 y60 z60 st60 hQ60
 subst l60 y60 z60
 obtain ⟨rfl, Nq60, Kp60, t60, kb60, cd60, Nn60, vs60, A60, Vl60, Cd60, V60, Co60⟩ := hQ60
 have N60 := Fr.app N0 Nq60
 have O60 := Old.keep O51 Kp60 (allS ge51 all0)
 have Z60 : n0 ≤ T60.heap.size := Nat.le_trans Z51 Kp60.1
 have K60 : Keep h0 T60.heap [] := Keep.trans K51 Kp60 (allS (Or.inr sz51) all0)
 have SS60 : own_S Z T60.heap b51 ts := ⟨t60, kb60, cd60, Nn60, vs60, A60, Vl60, Cd60, V60, Co60⟩
 refine own_csR [(.ref b51)] 8 st60 ?_
 exact own_retR X60 hx hrt (hb hby dj67m42_8) rfl rfl hlk (by decide) (by decide) rfl (⟨b51, rfl, N60, K60, SS60⟩)

def Q77 (vb : Addr) (h0 : Heap) (n0 : Nat) (v : Option Value) (h : Heap) (L : List Loc) : Prop := v = some (.ref vb) ∧ Fr n0 L ∧ h = h0

theorem rm77 (l : Launch) (Z : State) (a0 : Array Value) (hw : own_HW a0 Z) (ws : List Jvm.Cond) (sb vb : Addr) (kv : ClassId) (ts : List Int32) (cap k : Nat) (h0 : Heap) (n0 : Nat) (Z0 : n0 ≤ h0.size) (gs : n0 ≤ sb) (gv : n0 ≤ vb) (hsv : sb ≠ vb) (hcap : cap ≤ 150) (hkc : k ≤ cap) (B0 : own_B Z h0 sb vb kv (1 : Int32) (Int32.ofNat k) (Int32.ofNat (2 * cap)) (own_A (2 * cap) (own_fW (ts.take k)))) :
  own_Met l own_M39 jdk_68_method_64_code 1 (some (.array .byte)) ws own_R_0_0_0_0 Z #[(.ref sb)] h0 (Q77 vb h0 n0) := by
 refine own_enter #[.val (.ref sb)] (plainFor_of_name pn_java_lang_AbstractStringBuilder) (fun m => ef_R_1 m sb) ?_
 intro p e s m below meth c s₁ hx hby hml hown hnm hZ hrt hlk X0 e0
 have w := @own_w _ _ hw
 have N0 := Fr.nil n0
 refine own_tp (.ref sb) 1 (fun _ q => XS.aloadN X0.here hx rfl (hb hby dj68m64_0) rfl rfl q) ?_
 obtain ⟨T51, X51, e51, st51⟩ := getF X0 hx hZ hown (host := "") (Or.inl (w 90 rfl)) Via.refl e0 B0.2.1 (g := (mkF m 1 #[.val (.ref sb)] [(.ref sb)])) rfl rfl (hb hby dj68m64_1)
 refine own_t1 (.ref vb) 4 st51 ?_
 exact own_retR X51 hx hrt (hb hby dj68m64_4) rfl rfl hlk (by decide) (by decide) e51 (⟨rfl, N0, rfl⟩)

def Q78 (z : Int32) (h0 : Heap) (n0 : Nat) (v : Option Value) (h : Heap) (L : List Loc) : Prop := v = some (.int z) ∧ Fr n0 L ∧ h = h0

theorem rm78 (l : Launch) (Z : State) (a0 : Array Value) (hw : own_HW a0 Z) (ws : List Jvm.Cond) (sb vb : Addr) (kv : ClassId) (ts : List Int32) (cap k : Nat) (h0 : Heap) (n0 : Nat) (Z0 : n0 ≤ h0.size) (gs : n0 ≤ sb) (gv : n0 ≤ vb) (hsv : sb ≠ vb) (hcap : cap ≤ 150) (hkc : k ≤ cap) (B0 : own_B Z h0 sb vb kv (1 : Int32) (Int32.ofNat k) (Int32.ofNat (2 * cap)) (own_A (2 * cap) (own_fW (ts.take k)))) :
  own_Met l own_M40 jdk_68_method_6_code 1 (some .int) ws own_R_0_0_0_0 Z #[(.ref sb)] h0 (Q78 (Int32.ofNat k) h0 n0) := by
 refine own_enter #[.val (.ref sb)] (plainFor_of_name pn_java_lang_AbstractStringBuilder) (fun m => ef_R_1 m sb) ?_
 intro p e s m below meth c s₁ hx hby hml hown hnm hZ hrt hlk X0 e0
 have w := @own_w _ _ hw
 have N0 := Fr.nil n0
 refine own_tp (.ref sb) 1 (fun _ q => XS.aloadN X0.here hx rfl (hb hby dj68m6_0) rfl rfl q) ?_
 obtain ⟨T51, X51, e51, st51⟩ := getF X0 hx hZ hown (host := "") (Or.inl (w 106 rfl)) Via.refl e0 B0.2.2.2.1 (g := (mkF m 1 #[.val (.ref sb)] [(.ref sb)])) rfl rfl (hb hby dj68m6_1)
 refine own_t1 (.int (Int32.ofNat k)) 4 st51 ?_
 exact own_retI X51 hx hrt (hb hby dj68m6_4) hlk (by decide) (by decide) e51 (⟨rfl, N0, rfl⟩)

def Q79 (z : Int32) (h0 : Heap) (n0 : Nat) (v : Option Value) (h : Heap) (L : List Loc) : Prop := v = some (.int z) ∧ Fr n0 L ∧ h = h0

theorem rm79 (l : Launch) (Z : State) (a0 : Array Value) (hw : own_HW a0 Z) (ws : List Jvm.Cond) (sb vb : Addr) (kv : ClassId) (ts : List Int32) (cap k : Nat) (h0 : Heap) (n0 : Nat) (Z0 : n0 ≤ h0.size) (gs : n0 ≤ sb) (gv : n0 ≤ vb) (hsv : sb ≠ vb) (hcap : cap ≤ 150) (hkc : k ≤ cap) (B0 : own_B Z h0 sb vb kv (1 : Int32) (Int32.ofNat k) (Int32.ofNat (2 * cap)) (own_A (2 * cap) (own_fW (ts.take k)))) :
  own_Met l own_M41 jdk_67_method_93_code 1 (some .int) ws own_R_1_0_0_12 Z #[(.ref sb)] h0 (Q79 (Int32.ofNat k) h0 n0) := by
 refine own_enter #[.val (.ref sb)] (plainFor_of_name pn_java_lang_StringBuilder) (fun m => ef_R_1 m sb) ?_
 intro p e s m below meth c s₁ hx hby hml hown hnm hZ hrt hlk X0 e0
 have w := @own_w _ _ hw
 have N0 := Fr.nil n0
 refine own_tp (.ref sb) 1 (fun _ q => XS.aloadN X0.here hx rfl (hb hby dj67m93_0) rfl rfl q) ?_
 obtain ⟨_, _, ⟨T51, L51, k51, n51⟩, -, X51, ⟨Lc51, hQ51, l51, y51, z51⟩, st51⟩ := superBack X0 hx hZ (K := "java/lang/StringBuilder") (y := own_M40) hown (w 179 rfl) (own_same (w 174 rfl) (w 111 rfl) rfl (by decide)) (w 175 rfl) (w 102 rfl) (by decide) (backOf (W := 0) (rm78 l Z a0 hw [] sb vb kv ts cap k h0 n0 Z0 gs gv hsv (by omega) (by omega) B0) hZ (w 180 rfl) (w 86 rfl) (by decide) (by decide)) e0 (Ins.self B0.1) (g := (mkF m 1 #[.val (.ref sb)] [(.ref sb)])) rfl (by rw [hml]; rfl) (w 180 rfl) (argsL := []) (rest := []) (lenOf pd10 rfl) rfl (by show 2 * 0 + _ ≤ _; exact Nat.le_of_eq rfl) (hb hby dj67m93_1) (fun _ _ => ⟨rfl, e0, (by decide : 0 + 0 ≤ _), (by decide : 0 + 0 ≤ _)⟩)
 dsimp only [Pt.U, Pt.locs, Pt.cells, Pt.slots] at X51 l51 y51 z51 st51 hQ51
 subst l51 y51 z51
 obtain ⟨rfl, Nq51, eq51⟩ := hQ51
 have N51 := Fr.app N0 Nq51
 refine own_csR [(.int (Int32.ofNat k))] 4 st51 ?_
 exact own_retI X51 hx hrt (hb hby dj67m93_4) hlk (by decide) (by decide) eq51 (⟨rfl, N51, rfl⟩)

def Q80 (Z : State) (ts : List Int32) (k : Nat) (h0 : Heap) (n0 : Nat) (v : Option Value) (h : Heap) (L : List Loc) : Prop := ∃ (b : Addr) (kb : ClassId), v = some (.ref b) ∧ Fr n0 L ∧ Keep h0 h [] ∧ n0 ≤ b ∧ h0.size ≤ b ∧ Arv Z h b kb .byte (Int32.ofNat (2 * k)) (own_wide ts) (.int (0 : Int32))

theorem rm80 (l : Launch) (Z : State) (a0 : Array Value) (hw : own_HW a0 Z) (ws : List Jvm.Cond) (b1 : Addr) (k1 : ClassId) (ts : List Int32) (cap k : Nat) (h0 : Heap) (n0 : Nat) (Z0 : n0 ≤ h0.size) (O0 : Old Z n0 h0) (hcap : cap ≤ 150) (hlt : k < cap) (hk96 : k ≤ 96) (hts : ts.length = k) (V1 : Arv Z h0 b1 k1 .byte (Int32.ofNat (2 * cap)) (own_A (2 * cap) (own_fW (ts.take k))) (.int (0 : Int32))) :
  own_Met l own_M43 jdk_65_method_133_code 5 (some (.array .byte)) ws own_R_1_1_192_46 Z #[(.ref b1), (.int (0 : Int32)), (.int (Int32.ofNat (2 * k)))] h0 (Q80 Z ts k h0 n0) := by
 refine own_enter #[.val (.ref b1), .val (.int (0 : Int32)), .val (.int (Int32.ofNat (2 * k))), .unset, .unset] (plainFor_of_name pn_java_util_Arrays) (fun m => ef_RII_5 m b1 (0 : Int32) (Int32.ofNat (2 * k))) ?_
 intro p e s m below meth c s₁ hx hby hml hown hnm hZ hrt hlk X0 e0
 have w := @own_w _ _ hw
 have N0 := Fr.nil n0
 refine own_tp (.int (0 : Int32)) 1 (fun _ q => XS.iloadN X0.here hx rfl (hb hby dj65m133_0) rfl q) ?_
 refine own_tp (.int (Int32.ofNat (2 * k))) 2 (fun _ q => XS.iloadN X0.here hx rfl (hb hby dj65m133_1) rfl q) ?_
 obtain ⟨_, _, ⟨T51, L51, k51, n51⟩, -, X51, ⟨Lc51, hQ51, l51, y51, z51⟩, st51⟩ := Jvm.LawKit.callS X0 hx (y := own_M42) hown (mvT hZ (w 192 rfl)) (mvT hZ (w 193 rfl)) (mvT hZ (w 130 rfl)) (mvT hZ (w 194 rfl)) (by decide) (backOf (W := 0) (rm71 l Z a0 hw [] (2 * k) h0 n0 (by omega)) hZ (w 194 rfl) (w 130 rfl) (by decide) (by decide)) (g := (mkF m 2 #[.val (.ref b1), .val (.int (0 : Int32)), .val (.int (Int32.ofNat (2 * k))), .unset, .unset] [(.int (Int32.ofNat (2 * k))), (.int (0 : Int32))])) rfl (by rw [hml]; rfl) (argsL := [(.int (0 : Int32)), (.int (Int32.ofNat (2 * k)))]) (rest := []) (lenOf pd23 rfl) rfl (by show 2 * 0 + _ ≤ _; exact Nat.le_of_eq rfl) (hb hby dj65m133_2) (fun _ _ => ⟨rfl, e0, (by decide : 0 + 0 ≤ _), (by decide : 0 + 0 ≤ _)⟩)
 dsimp only [Pt.U, Pt.locs, Pt.cells, Pt.slots] at X51 l51 y51 z51 st51 hQ51
 subst l51 y51 z51
 obtain ⟨rfl, Nq51, eq51⟩ := hQ51
 have N51 := Fr.app N0 Nq51
 refine own_d2 5 st51 ?_
 refine own_tp (.int (Int32.ofNat (2 * k))) 6 (fun _ q => XS.iloadN X51.here hx rfl (hb hby dj65m133_5) rfl q) ?_
 refine own_tp (.int (0 : Int32)) 7 (fun _ q => XS.iloadN X51.here hx rfl (hb hby dj65m133_6) rfl q) ?_
 refine own_t2 (.int ((Int32.ofNat (2 * k)) - (0 : Int32))) 8 (fun _ q => XS.isub X51.here hx rfl (hb hby dj65m133_7) rfl q) ?_
 rw [own_sub0]
 refine own_ls #[.val (.ref b1), .val (.int (0 : Int32)), .val (.int (Int32.ofNat (2 * k))), .val (.int (Int32.ofNat (2 * k))), .unset] 9 (fun _ q => XS.istoreN X51.here hx rfl (hb hby dj65m133_8) rfl (l' := #[.val (.ref b1), .val (.int (0 : Int32)), .val (.int (Int32.ofNat (2 * k))), .val (.int (Int32.ofNat (2 * k))), .unset]) rfl q) ?_
 refine own_tp (.int (Int32.ofNat (2 * k))) 10 (fun _ q => XS.iloadN X51.here hx rfl (hb hby dj65m133_9) rfl q) ?_
 obtain ⟨T52, h52, k52, X52, e52, E52, A52, st52⟩ := newP X51 hx hZ (w 17 rfl) eq51 (g := (mkF m 10 #[.val (.ref b1), .val (.int (0 : Int32)), .val (.int (Int32.ofNat (2 * k))), .val (.int (Int32.ofNat (2 * k))), .unset] [(.int (Int32.ofNat (2 * k)))])) rfl (hb hby dj65m133_10) rfl (own_ofn (by omega)).1 (cap := 192) (by rw [(own_ofn (by omega)).2]; omega) (by decide) (by decide) (by decide)
 obtain ⟨b52, g52⟩ : ∃ z, z = h0.size := ⟨_, rfl⟩
 rw [← g52] at A52 st52
 have V52 : Arv Z h52 b52 k52 .byte (Int32.ofNat (2 * k)) (List.replicate (2 * k) (.int (0 : Int32))) (.int (0 : Int32)) := (Arv.new A52 (own_ofn (by omega)).1).pad (pad_rep [] (.int (0 : Int32)) (2 * k))
 have ge52 : n0 ≤ b52 := Nat.le_trans Z0 (Nat.le_of_eq g52.symm)
 have sz52 : h0.size ≤ b52 := Nat.le_trans (Keep.refl h0 []).1 (Nat.le_of_eq g52.symm)
 have ne53 : b1 ≠ b52 := Nat.ne_of_lt (Nat.lt_of_lt_of_le V1.lt (Nat.le_of_eq g52.symm))
 have O52 := Old.ext O0 E52
 have K52 : Keep h0 h52 [] := (Keep.refl h0 []).ext E52
 have Z52 : n0 ≤ h52.size := Nat.le_trans Z0 E52.1
 refine own_t1 (.ref b52) 12 st52 ?_
 refine own_ls #[.val (.ref b1), .val (.int (0 : Int32)), .val (.int (Int32.ofNat (2 * k))), .val (.int (Int32.ofNat (2 * k))), .val (.ref b52)] 14 (fun _ q => XS.astore X52.here hx rfl (hb hby dj65m133_12) rfl rfl (l' := #[.val (.ref b1), .val (.int (0 : Int32)), .val (.int (Int32.ofNat (2 * k))), .val (.int (Int32.ofNat (2 * k))), .val (.ref b52)]) rfl q) ?_
 refine own_tp (.ref b1) 15 (fun _ q => XS.aloadN X52.here hx rfl (hb hby dj65m133_14) rfl rfl q) ?_
 refine own_tp (.int (0 : Int32)) 16 (fun _ q => XS.iloadN X52.here hx rfl (hb hby dj65m133_15) rfl q) ?_
 refine own_tp (.ref b52) 18 (fun _ q => XS.aload X52.here hx rfl (hb hby dj65m133_16) rfl rfl q) ?_
 refine own_tp (.int (0 : Int32)) 19 (fun _ q => XS.iconst X52.here hx rfl (hb hby dj65m133_18) q) ?_
 refine own_tp (.ref b1) 20 (fun _ q => XS.aloadN X52.here hx rfl (hb hby dj65m133_19) rfl rfl q) ?_
 have f54 := (V1.ext E52)
 obtain ⟨cl55, Ar55, -, Sz55, Nn55, -, -⟩ := (id f54)
 refine own_t1 (.int (Int32.ofNat (2 * cap))) 21 (fun t q => X52.arraylength hx (by rw [e52]; exact Ar55.1) (State.isArrayOf_alike hZ.alike Ar55.2.1) (g := (mkF m 20 #[.val (.ref b1), .val (.int (0 : Int32)), .val (.int (Int32.ofNat (2 * k))), .val (.int (Int32.ofNat (2 * k))), .val (.ref b52)] [(.ref b1), (.int (0 : Int32)), (.ref b52), (.int (0 : Int32)), (.ref b1)])) rfl rfl (hb hby dj65m133_20) _ (by rw [len_of Sz55 Nn55]; exact q)) ?_
 refine own_tp (.int (0 : Int32)) 22 (fun _ q => XS.iloadN X52.here hx rfl (hb hby dj65m133_21) rfl q) ?_
 refine own_t2 (.int ((Int32.ofNat (2 * cap)) - (0 : Int32))) 23 (fun _ q => XS.isub X52.here hx rfl (hb hby dj65m133_22) rfl q) ?_
 rw [own_sub0]
 refine own_tp (.int (Int32.ofNat (2 * k))) 24 (fun _ q => XS.iloadN X52.here hx rfl (hb hby dj65m133_23) rfl q) ?_
 obtain ⟨_, _, ⟨T56, L56, k56, n56⟩, -, X56, ⟨Lc56, hQ56, l56, y56, z56⟩, st56⟩ := Jvm.LawKit.callS X52 hx (y := own_M2) hown (mvT hZ (w 132 rfl)) (mvT hZ (w 133 rfl)) (mvT hZ (w 124 rfl)) (mvT hZ (w 134 rfl)) (by decide) (backOf (W := 4) (rm2 l Z a0 hw [] (Int32.ofNat (2 * cap)) (Int32.ofNat (2 * k)) (Int32.ofNat (2 * k)) h52 n0 (own_minR (by omega) (by omega) (by omega))) hZ (w 134 rfl) (w 124 rfl) (by decide) (by decide)) (g := (mkF m 24 #[.val (.ref b1), .val (.int (0 : Int32)), .val (.int (Int32.ofNat (2 * k))), .val (.int (Int32.ofNat (2 * k))), .val (.ref b52)] [(.int (Int32.ofNat (2 * k))), (.int (Int32.ofNat (2 * cap))), (.int (0 : Int32)), (.ref b52), (.int (0 : Int32)), (.ref b1)])) rfl (by rw [hml]; rfl) (argsL := [(.int (Int32.ofNat (2 * cap))), (.int (Int32.ofNat (2 * k)))]) (rest := [(.int (0 : Int32)), (.ref b52), (.int (0 : Int32)), (.ref b1)]) (lenOf pd7 rfl) rfl (by show 2 * 0 + _ ≤ _; exact Nat.le_of_eq rfl) (hb hby dj65m133_24) (fun _ _ => ⟨rfl, e52, (by decide : 1 + 0 ≤ _), (by decide : 192 + 0 ≤ _)⟩)
 dsimp only [Pt.U, Pt.locs, Pt.cells, Pt.slots] at X56 l56 y56 z56 st56 hQ56
 subst l56 y56 z56
 obtain ⟨rfl, Nq56, eq56⟩ := hQ56
 have N56 := Fr.app N51 Nq56
 refine own_t2 (.int (Int32.ofNat (2 * k))) 27 st56 ?_
 obtain ⟨T57, h57, L57, X57, e57, Kp57, B57, V57, st57⟩ := own_acopy X56 hx hZ hown (w 135 rfl) (w 138 rfl) (w 136 rfl) (w 137 rfl) eq56 f54 V52 0 (2 * k) (by omega) (by rw [(own_ofn (by omega)).2]; omega) (by rw [(own_ofn (by omega)).2]; omega) (by first | (rw [own_A_len, (own_ofn (by omega)).2]; done) | (rw [List.length_replicate, (own_ofn (by omega)).2]; done)) (g := (mkF m 27 #[.val (.ref b1), .val (.int (0 : Int32)), .val (.int (Int32.ofNat (2 * k))), .val (.int (Int32.ofNat (2 * k))), .val (.ref b52)] [(.int (Int32.ofNat (2 * k))), (.int (0 : Int32)), (.ref b52), (.int (0 : Int32)), (.ref b1)])) rfl (by rw [hml]; rfl) (rest := []) rfl (hb hby dj65m133_27) (by decide) (W := 0) (by show 2 * 0 + _ ≤ _; exact Nat.le_of_eq rfl) (by decide)
 have Nq57 : Fr n0 L57 := fun y hy => by rw [B57 y hy]; exact ge52
 have N57 := Fr.app N56 Nq57
 have O57 := Old.keep O52 Kp57 (allS ge52 all0)
 have Z57 : n0 ≤ h57.size := Nat.le_trans Z52 Kp57.1
 have K57 : Keep h0 h57 [] := Keep.trans K52 Kp57 (allS (Or.inr sz52) all0)
 have V57' : Arv Z h57 b52 k52 .byte (Int32.ofNat (2 * k)) (own_wide ts) (.int (0 : Int32)) := by have q := V57; rw [own_repW, own_growW (by omega) (by omega), own_finW rfl hts] at q; exact q
 refine own_cs [] 30 st57 ?_
 refine own_tp (.ref b52) 32 (fun _ q => XS.aload X57.here hx rfl (hb hby dj65m133_30) rfl rfl q) ?_
 exact own_retR X57 hx hrt (hb hby dj65m133_32) rfl rfl hlk (by decide) (by decide) e57 (⟨b52, _, rfl, N57, K57, ge52, sz52, V57'⟩)

def Q81 (Z : State) (ts : List Int32) (k : Nat) (h0 : Heap) (n0 : Nat) (v : Option Value) (h : Heap) (L : List Loc) : Prop := ∃ (b : Addr) (kb : ClassId), v = some (.ref b) ∧ Fr n0 L ∧ Keep h0 h [] ∧ n0 ≤ b ∧ h0.size ≤ b ∧ Arv Z h b kb .byte (Int32.ofNat (2 * k)) (own_wide ts) (.int (0 : Int32))

theorem rm81 (l : Launch) (Z : State) (a0 : Array Value) (hw : own_HW a0 Z) (ws : List Jvm.Cond) (b1 : Addr) (k1 : ClassId) (ts : List Int32) (cap k : Nat) (h0 : Heap) (n0 : Nat) (Z0 : n0 ≤ h0.size) (O0 : Old Z n0 h0) (hcap : cap ≤ 150) (hlt : k < cap) (hk96 : k ≤ 96) (hts : ts.length = k) (V1 : Arv Z h0 b1 k1 .byte (Int32.ofNat (2 * cap)) (own_A (2 * cap) (own_fW (ts.take k))) (.int (0 : Int32))) :
  own_Met l own_M44 jdk_65_method_132_code 3 (some (.array .byte)) ws own_R_2_1_192_62 Z #[(.ref b1), (.int (0 : Int32)), (.int (Int32.ofNat (2 * k)))] h0 (Q81 Z ts k h0 n0) := by
 refine own_enter #[.val (.ref b1), .val (.int (0 : Int32)), .val (.int (Int32.ofNat (2 * k)))] (plainFor_of_name pn_java_util_Arrays) (fun m => ef_RII_3 m b1 (0 : Int32) (Int32.ofNat (2 * k))) ?_
 intro p e s m below meth c s₁ hx hby hml hown hnm hZ hrt hlk X0 e0
 have w := @own_w _ _ hw
 have N0 := Fr.nil n0
 refine own_tp (.int (0 : Int32)) 1 (fun _ q => XS.iloadN X0.here hx rfl (hb hby dj65m132_0) rfl q) ?_
 refine own_d1 4 (fun _ q => XS.ifNo X0.here hx rfl (hb hby dj65m132_1) rfl ((if0 _ _).trans (teq (by decide : (0 : Int32) = (0 : Int32))).2) q) ?_
 refine own_tp (.int (Int32.ofNat (2 * k))) 5 (fun _ q => XS.iloadN X0.here hx rfl (hb hby dj65m132_4) rfl q) ?_
 refine own_tp (.ref b1) 6 (fun _ q => XS.aloadN X0.here hx rfl (hb hby dj65m132_5) rfl rfl q) ?_
 obtain ⟨cl51, Ar51, -, Sz51, Nn51, -, -⟩ := (id V1)
 refine own_t1 (.int (Int32.ofNat (2 * cap))) 7 (fun t q => X0.arraylength hx (by rw [e0]; exact Ar51.1) (State.isArrayOf_alike hZ.alike Ar51.2.1) (g := (mkF m 6 #[.val (.ref b1), .val (.int (0 : Int32)), .val (.int (Int32.ofNat (2 * k)))] [(.ref b1), (.int (Int32.ofNat (2 * k)))])) rfl rfl (hb hby dj65m132_6) _ (by rw [len_of Sz51 Nn51]; exact q)) ?_
 refine own_d2 10 (fun _ q => XS.icmpNo X0.here hx rfl (hb hby dj65m132_7) rfl (feq (own_neM (by omega) (by omega) (by omega))).1 q) ?_
 refine own_tp (.ref b1) 11 (fun _ q => XS.aloadN X0.here hx rfl (hb hby dj65m132_10) rfl rfl q) ?_
 refine own_tp (.int (0 : Int32)) 12 (fun _ q => XS.iloadN X0.here hx rfl (hb hby dj65m132_11) rfl q) ?_
 refine own_tp (.int (Int32.ofNat (2 * k))) 13 (fun _ q => XS.iloadN X0.here hx rfl (hb hby dj65m132_12) rfl q) ?_
 obtain ⟨_, _, ⟨T52, L52, k52, n52⟩, -, X52, ⟨Lc52, hQ52, l52, y52, z52⟩, st52⟩ := Jvm.LawKit.callS X0 hx (y := own_M43) hown (mvT hZ (w 189 rfl)) (mvT hZ (w 190 rfl)) (mvT hZ (w 130 rfl)) (mvT hZ (w 191 rfl)) (by decide) (backOf (W := 0) (rm80 l Z a0 hw [] b1 k1 ts cap k h0 n0 Z0 O0 hcap hlt hk96 hts V1) hZ (w 191 rfl) (w 130 rfl) (by decide) (by decide)) (g := (mkF m 13 #[.val (.ref b1), .val (.int (0 : Int32)), .val (.int (Int32.ofNat (2 * k)))] [(.int (Int32.ofNat (2 * k))), (.int (0 : Int32)), (.ref b1)])) rfl (by rw [hml]; rfl) (argsL := [(.ref b1), (.int (0 : Int32)), (.int (Int32.ofNat (2 * k)))]) (rest := []) (lenOf pd24 rfl) rfl (by show 2 * 0 + _ ≤ _; exact Nat.le_of_eq rfl) (hb hby dj65m132_13) (fun _ _ => ⟨rfl, e0, (by decide : 0 + 1 ≤ _), (by decide : 0 + 192 ≤ _)⟩)
 dsimp only [Pt.U, Pt.locs, Pt.cells, Pt.slots] at X52 l52 y52 z52 st52 hQ52
 subst l52 y52 z52
 obtain ⟨cr52, kc52, rfl, Nq52, Kp52, ge52, sz52, V52⟩ := hQ52
 have ne53 : b1 ≠ cr52 := Nat.ne_of_lt (Nat.lt_of_lt_of_le V1.lt sz52)
 have s0cr52 : h0.size ≤ cr52 := Nat.le_trans (Keep.refl h0 []).1 sz52
 have N52 := Fr.app N0 Nq52
 have O52 := Old.keep O0 Kp52 all0
 have Z52 : n0 ≤ T52.heap.size := Nat.le_trans Z0 Kp52.1
 have K52 : Keep h0 T52.heap [] := Keep.trans (Keep.refl h0 []) Kp52 all0
 refine own_cs [(.ref cr52)] 16 st52 ?_
 exact own_retR X52 hx hrt (hb hby dj65m132_16) rfl rfl hlk (by decide) (by decide) rfl (⟨cr52, _, rfl, N52, K52, ge52, s0cr52, V52⟩)

def Q82 (Z : State) (x1 : Addr) (ts : List Int32) (h0 : Heap) (n0 : Nat) (v : Option Value) (h : Heap) (L : List Loc) : Prop := v = none ∧ Fr n0 L ∧ Keep h0 h [x1] ∧ ∃ (t : Addr) (kb : ClassId) (cd N : Int32) (vs : List Value), Exa Z h x1 "java/lang/String" ∧ Fld Z h x1 "java/lang/String" "value" "[B" (.ref t) ∧ Fld Z h x1 "java/lang/String" "coder" "B" (.int cd) ∧ Arv Z h t kb .byte N vs (.int (0 : Int32)) ∧ own_Cod ts cd N vs

theorem rm82 (l : Launch) (Z : State) (a0 : Array Value) (hw : own_HW a0 Z) (ws : List Jvm.Cond) (x1 : Addr) (sb vb : Addr) (kv : ClassId) (ts : List Int32) (cap k : Nat) (u1 u2 : Value) (h0 : Heap) (n0 : Nat) (Z0 : n0 ≤ h0.size) (gs : n0 ≤ sb) (gv : n0 ≤ vb) (hsv : sb ≠ vb) (hcap : cap ≤ 150) (hkc : k ≤ cap) (B0 : own_B Z h0 sb vb kv (1 : Int32) (Int32.ofNat k) (Int32.ofNat (2 * cap)) (own_A (2 * cap) (own_fW (ts.take k)))) (hts : ts.length = k) (hlt : k < cap) (hk96 : k ≤ 96) (hall : ∃ c ∈ ts, (255 : Int32) < c) (g1 : n0 ≤ x1) (m1 : x1 ≠ sb) (m2 : x1 ≠ vb) (E1 : Exa Z h0 x1 "java/lang/String") (F1 : Fld Z h0 x1 "java/lang/String" "value" "[B" u1) (F2 : Fld Z h0 x1 "java/lang/String" "coder" "B" u2) (G1 : Int32) (US : own_US Z G1) (O0 : Old Z n0 h0) :
  own_Met l own_M45 jdk_42_method_150_code 5 none ws own_R_3_1_192_77 Z #[(.ref x1), (.ref sb), .null] h0 (Q82 Z x1 ts h0 n0) := by
 refine own_enter #[.val (.ref x1), .val (.ref sb), .val .null, .unset, .unset] (plainFor_of_name pn_java_lang_String) (fun m => ef_RRN_5 m x1 sb) ?_
 intro p e s m below meth c s₁ hx hby hml hown hnm hZ hrt hlk X0 e0
 have w := @own_w _ _ hw
 have N0 := Fr.nil n0
 refine own_tp (.ref x1) 1 (fun _ q => XS.aloadN X0.here hx rfl (hb hby dj42m150_0) rfl rfl q) ?_
 obtain ⟨T51, X51, e51, st51⟩ := initO X0 hx hZ hown (w 13 rfl) (w 14 rfl) (w 15 rfl) e0 (g := (mkF m 1 #[.val (.ref x1), .val (.ref sb), .val .null, .unset, .unset] [(.ref x1)])) rfl (by rw [hml]; rfl) rfl (hb hby dj42m150_1) (by decide) (W := 0) (by show 2 * 0 + _ ≤ _; exact Nat.le_of_eq rfl) (by decide)
 refine own_d1 4 st51 ?_
 refine own_tp (.ref sb) 5 (fun _ q => XS.aloadN X51.here hx rfl (hb hby dj42m150_4) rfl rfl q) ?_
 obtain ⟨cq52, kq52, q52a, q52b, q52c⟩ := isOf hZ e51 B0.1
 obtain ⟨_, _, ⟨T52, L52, k52, n52⟩, -, X52, ⟨Lc52, hQ52, l52, y52, z52⟩, st52⟩ := X51.virtualBack hx (y := own_M39) (z := own_M39) hown (mvT hZ (w 168 rfl)) (mvT hZ (w 169 rfl)) (notFace_of_selects (args := #[]) (mvT hZ (w 171 rfl))) (mvT hZ (w 171 rfl)) (mvT hZ (w 170 rfl)) (by decide) (backOf (W := 0) (rm77 l Z a0 hw [] sb vb kv ts cap k h0 n0 Z0 gs gv hsv (by omega) (by omega) B0) hZ (w 172 rfl) (w 86 rfl) (by decide) (by decide)) q52a q52c (g := (mkF m 5 #[.val (.ref x1), .val (.ref sb), .val .null, .unset, .unset] [(.ref sb)])) rfl (by rw [hml]; rfl) (Steps.refl _) (argsL := []) (rest := []) (lenOf pd25 rfl) rfl (by show 2 * 0 + _ ≤ _; exact Nat.le_of_eq rfl) (hb hby dj42m150_5) (fun _ _ => ⟨rfl, e51, (by decide : 0 + 0 ≤ _), (by decide : 0 + 0 ≤ _)⟩)
 dsimp only [Pt.U, Pt.locs, Pt.cells, Pt.slots] at X52 l52 y52 z52 st52 hQ52
 subst l52 y52 z52
 obtain ⟨rfl, Nq52, eq52⟩ := hQ52
 have N52 := Fr.app N0 Nq52
 refine own_csR [(.ref vb)] 8 st52 ?_
 refine own_ls #[.val (.ref x1), .val (.ref sb), .val .null, .val (.ref vb), .unset] 9 (fun _ q => XS.astoreN X52.here hx rfl (hb hby dj42m150_8) rfl rfl (l' := #[.val (.ref x1), .val (.ref sb), .val .null, .val (.ref vb), .unset]) rfl q) ?_
 refine own_tp (.ref sb) 10 (fun _ q => XS.aloadN X52.here hx rfl (hb hby dj42m150_9) rfl rfl q) ?_
 obtain ⟨cq53, kq53, q53a, q53b, q53c⟩ := isOf hZ eq52 B0.1
 obtain ⟨_, _, ⟨T53, L53, k53, n53⟩, -, X53, ⟨Lc53, hQ53, l53, y53, z53⟩, st53⟩ := X52.virtualBack hx (y := own_M40) (z := own_M41) hown (mvT hZ (w 173 rfl)) (mvT hZ (w 174 rfl)) (own_nf (args := #[]) (mvT hZ (w 111 rfl)) rfl) (mvT hZ (w 176 rfl)) (mvT hZ (w 177 rfl)) (by decide) (backOf (W := 0) (rm79 l Z a0 hw [] sb vb kv ts cap k h0 n0 Z0 gs gv hsv (by omega) (by omega) B0) hZ (w 178 rfl) (w 78 rfl) (by decide) (by decide)) q53a q53c (g := (mkF m 10 #[.val (.ref x1), .val (.ref sb), .val .null, .val (.ref vb), .unset] [(.ref sb)])) rfl (by rw [hml]; rfl) (Steps.refl _) (argsL := []) (rest := []) (lenOf pd10 rfl) rfl (by show 2 * 0 + _ ≤ _; exact Nat.le_of_eq rfl) (hb hby dj42m150_10) (fun _ _ => ⟨rfl, eq52, (by decide : 0 + 0 ≤ _), (by decide : 0 + 0 ≤ _)⟩)
 dsimp only [Pt.U, Pt.locs, Pt.cells, Pt.slots] at X53 l53 y53 z53 st53 hQ53
 subst l53 y53 z53
 obtain ⟨rfl, Nq53, eq53⟩ := hQ53
 have N53 := Fr.app N52 Nq53
 refine own_csR [(.int (Int32.ofNat k))] 13 st53 ?_
 refine own_ls #[.val (.ref x1), .val (.ref sb), .val .null, .val (.ref vb), .val (.int (Int32.ofNat k))] 15 (fun _ q => XS.istore X53.here hx rfl (hb hby dj42m150_13) rfl (l' := #[.val (.ref x1), .val (.ref sb), .val .null, .val (.ref vb), .val (.int (Int32.ofNat k))]) rfl q) ?_
 refine own_tp (.ref sb) 16 (fun _ q => XS.aloadN X53.here hx rfl (hb hby dj42m150_15) rfl rfl q) ?_
 obtain ⟨cq54, kq54, q54a, q54b, q54c⟩ := isOf hZ eq53 B0.1
 obtain ⟨_, _, ⟨T54, L54, k54, n54⟩, -, X54, ⟨Lc54, hQ54, l54, y54, z54⟩, st54⟩ := X53.virtualBack hx (y := own_M29) (z := own_M29) hown (mvT hZ (w 181 rfl)) (mvT hZ (w 182 rfl)) (notFace_of_selects (args := #[]) (mvT hZ (w 184 rfl))) (mvT hZ (w 184 rfl)) (mvT hZ (w 183 rfl)) (by decide) (backOf (W := 0) (rm61 l Z a0 hw [] sb vb kv ts cap k h0 n0 Z0 gs gv hsv (by omega) (by omega) B0 G1 US O0) hZ (w 185 rfl) (w 86 rfl) (by decide) (by decide)) q54a q54c (g := (mkF m 16 #[.val (.ref x1), .val (.ref sb), .val .null, .val (.ref vb), .val (.int (Int32.ofNat k))] [(.ref sb)])) rfl (by rw [hml]; rfl) (Steps.refl _) (argsL := []) (rest := []) (lenOf pd9 rfl) rfl (by show 2 * 0 + _ ≤ _; exact Nat.le_of_eq rfl) (hb hby dj42m150_16) (fun _ _ => ⟨rfl, eq53, (by decide : 0 + 0 ≤ _), (by decide : 0 + 0 ≤ _)⟩)
 dsimp only [Pt.U, Pt.locs, Pt.cells, Pt.slots] at X54 l54 y54 z54 st54 hQ54
 subst l54 y54 z54
 obtain ⟨rfl, Nq54, eq54⟩ := hQ54
 have N54 := Fr.app N53 Nq54
 refine own_csR [(.int (0 : Int32))] 19 st54 ?_
 refine own_d1 41 (fun _ q => XS.ifYes X54.here hx rfl (pc0 := 19) (pc' := 41) rfl (hb hby dj42m150_19) rfl ((if0 _ _).trans (teq (by decide : (0 : Int32) = (0 : Int32))).1) (by decide) (by decide) q) ?_
 obtain ⟨T55, X55, e55, st55⟩ := getS2 X54 hx hZ hown (host := "") (Or.inl (w 25 rfl)) Via.refl eq54 (US.2.1.ext O0.2) (g := (mkF m 41 #[.val (.ref x1), .val (.ref sb), .val .null, .val (.ref vb), .val (.int (Int32.ofNat k))] [])) rfl (hb hby dj42m150_41)
 refine own_tp (.int G1) 44 st55 ?_
 refine own_d1 47 (fun _ q => XS.ifNo X55.here hx rfl (hb hby dj42m150_44) rfl ((if0 _ _).trans (feq US.1).1) q) ?_
 refine own_tp (.ref sb) 48 (fun _ q => XS.aloadN X55.here hx rfl (hb hby dj42m150_47) rfl rfl q) ?_
 obtain ⟨T56, X56, e56, st56⟩ := getF X55 hx hZ hown (host := "") (Or.inl (w 271 rfl)) Via.refl e55 B0.2.2.2.2.1 (g := (mkF m 48 #[.val (.ref x1), .val (.ref sb), .val .null, .val (.ref vb), .val (.int (Int32.ofNat k))] [(.ref sb)])) rfl rfl (hb hby dj42m150_48)
 refine own_t1 (.int (0 : Int32)) 51 st56 ?_
 refine own_d1 79 (fun _ q => XS.ifYes X56.here hx rfl (pc0 := 51) (pc' := 79) rfl (hb hby dj42m150_51) rfl ((if0 _ _).trans (teq (by decide : (0 : Int32) = (0 : Int32))).1) (by decide) (by decide) q) ?_
 refine own_tp (.ref x1) 80 (fun _ q => XS.aloadN X56.here hx rfl (hb hby dj42m150_79) rfl rfl q) ?_
 refine own_tp (.int (1 : Int32)) 81 (fun _ q => XS.iconst X56.here hx rfl (hb hby dj42m150_80) q) ?_
 obtain ⟨T57, h57, X57, e57, W57, st57⟩ := putFN X56 hx hZ hown (w 23 rfl) Via.refl e56 F2 E1 (Or.inr ⟨(w 19 rfl), rfl, hnm⟩) (w 4 rfl) (ty := .byte) (v' := (.int (1 : Int32))) (by decide) rfl rfl (g := (mkF m 81 #[.val (.ref x1), .val (.ref sb), .val .null, .val (.ref vb), .val (.int (Int32.ofNat k))] [(.int (1 : Int32)), (.ref x1)])) rfl rfl (hb hby dj42m150_81)
 have Fw57 := F2.same W57
 have N57 := Fr.snoc X57 N54 g1
 have O57 := Old.wr O0 W57 g1
 have K57 : Keep h0 h57 [x1] := (Keep.refl h0 [x1]).wr W57 (Or.inl (List.mem_of_getElem? (i := 0) rfl))
 have Z57 : n0 ≤ h57.size := Nat.le_trans Z0 (Nat.le_of_eq W57.size.symm)
 refine own_d2 84 st57 ?_
 refine own_tp (.ref x1) 85 (fun _ q => XS.aloadN X57.here hx rfl (hb hby dj42m150_84) rfl rfl q) ?_
 refine own_tp (.ref vb) 86 (fun _ q => XS.aloadN X57.here hx rfl (hb hby dj42m150_85) rfl rfl q) ?_
 refine own_tp (.int (0 : Int32)) 87 (fun _ q => XS.iconst X57.here hx rfl (hb hby dj42m150_86) q) ?_
 refine own_tp (.int (Int32.ofNat k)) 89 (fun _ q => XS.iload X57.here hx rfl (hb hby dj42m150_87) rfl q) ?_
 refine own_tp (.int (1 : Int32)) 90 (fun _ q => XS.iconst X57.here hx rfl (hb hby dj42m150_89) q) ?_
 refine own_t2 (.int ((Int32.ofNat k) <<< ((1 : Int32) &&& 31))) 91 (fun _ q => XS.ishl X57.here hx rfl (hb hby dj42m150_90) rfl q) ?_
 rw [own_shl1 (by omega)]
 have f58 := (B0.2.2.2.2.2.other W57 (Ne.symm m2))
 obtain ⟨_, _, ⟨T59, L59, k59, n59⟩, -, X59, ⟨Lc59, hQ59, l59, y59, z59⟩, st59⟩ := Jvm.LawKit.callS X57 hx (y := own_M44) hown (mvT hZ (w 186 rfl)) (mvT hZ (w 187 rfl)) (mvT hZ (w 130 rfl)) (mvT hZ (w 188 rfl)) (by decide) (backOf (W := 1) (rm81 l Z a0 hw [] vb kv ts cap k h57 n0 Z57 O57 hcap hlt hk96 hts f58) hZ (w 188 rfl) (w 130 rfl) (by decide) (by decide)) (g := (mkF m 91 #[.val (.ref x1), .val (.ref sb), .val .null, .val (.ref vb), .val (.int (Int32.ofNat k))] [(.int (Int32.ofNat (2 * k))), (.int (0 : Int32)), (.ref vb), (.ref x1)])) rfl (by rw [hml]; rfl) (argsL := [(.ref vb), (.int (0 : Int32)), (.int (Int32.ofNat (2 * k)))]) (rest := [(.ref x1)]) (lenOf pd24 rfl) rfl (by show 2 * 0 + _ ≤ _; exact Nat.le_of_eq rfl) (hb hby dj42m150_91) (fun _ _ => ⟨rfl, e57, (by decide : 0 + 1 ≤ _), (by decide : 0 + 192 ≤ _)⟩)
 dsimp only [Pt.U, Pt.locs, Pt.cells, Pt.slots] at X59 l59 y59 z59 st59 hQ59
 subst l59 y59 z59
 obtain ⟨cr59, kc59, rfl, Nq59, Kp59, ge59, sz59, V59⟩ := hQ59
 have f61 := (B0.1.wr W57)
 have ne60 : sb ≠ cr59 := Nat.ne_of_lt (Nat.lt_of_lt_of_le f61.lt sz59)
 have ne62 : vb ≠ cr59 := Nat.ne_of_lt (Nat.lt_of_lt_of_le f58.lt sz59)
 have f64 := (E1.wr W57)
 have ne63 : x1 ≠ cr59 := Nat.ne_of_lt (Nat.lt_of_lt_of_le f64.lt sz59)
 have s0cr59 : h0.size ≤ cr59 := Nat.le_trans K57.1 sz59
 have N59 := Fr.app N57 Nq59
 have O59 := Old.keep O57 Kp59 all0
 have Z59 : n0 ≤ T59.heap.size := Nat.le_trans Z57 Kp59.1
 have K59 : Keep h0 T59.heap [x1] := Keep.trans K57 Kp59 all0
 refine own_cs [(.ref cr59), (.ref x1)] 94 st59 ?_
 have f65 := ((F1.other W57 (Or.inr (slot_ne (Or.inr (w 18 rfl)) (Or.inr (w 19 rfl)) (by decide) (t := (.array .byte)) (t' := .byte) (by decide) (by decide)))).keep Kp59 nin0)
 have f66 := (f64.keep Kp59)
 obtain ⟨T67, h67, X67, e67, W67, st67⟩ := putF X59 hx hZ hown (host := "") (Or.inl (w 22 rfl)) Via.refl rfl f65 f66 (Or.inr ⟨(w 18 rfl), rfl, hnm⟩) (w 4 rfl) (ty := (.array .byte)) (by decide) rfl rfl (g := (mkF m 94 #[.val (.ref x1), .val (.ref sb), .val .null, .val (.ref vb), .val (.int (Int32.ofNat k))] [(.ref cr59), (.ref x1)])) rfl rfl (hb hby dj42m150_94)
 have Fw67 := f65.same W67
 have N67 := Fr.snoc X67 N59 g1
 have O67 := Old.wr O59 W67 g1
 have K67 : Keep h0 h67 [x1] := K59.wr W67 (Or.inl (List.mem_of_getElem? (i := 0) rfl))
 have Z67 : n0 ≤ h67.size := Nat.le_trans Z59 (Nat.le_of_eq W67.size.symm)
 refine own_d2 97 st67 ?_
 have f68 := (f66.wr W67)
 have f69 := ((Fw57.keep Kp59 nin0).other W67 (Or.inr (slot_ne (Or.inr (w 19 rfl)) (Or.inr (w 18 rfl)) (by decide) (t := .byte) (t' := (.array .byte)) (by decide) (by decide))))
 have f70 := (V59.other W67 (Ne.symm ne63))
 exact own_retV X67 hx hrt (hb hby dj42m150_97) hlk (by decide) (by decide) e67 (⟨rfl, N67, K67, cr59, _, _, _, _, f68, Fw67, f69, f70, Or.inr ⟨rfl, by rw [hts], rfl, hall⟩⟩)

def Q83 (Z : State) (x1 : Addr) (ts : List Int32) (h0 : Heap) (n0 : Nat) (v : Option Value) (h : Heap) (L : List Loc) : Prop := v = none ∧ Fr n0 L ∧ Keep h0 h [x1] ∧ ∃ (t : Addr) (kb : ClassId) (cd N : Int32) (vs : List Value), Exa Z h x1 "java/lang/String" ∧ Fld Z h x1 "java/lang/String" "value" "[B" (.ref t) ∧ Fld Z h x1 "java/lang/String" "coder" "B" (.int cd) ∧ Arv Z h t kb .byte N vs (.int (0 : Int32)) ∧ own_Cod ts cd N vs

theorem rm83 (l : Launch) (Z : State) (a0 : Array Value) (hw : own_HW a0 Z) (ws : List Jvm.Cond) (x1 : Addr) (sb vb : Addr) (kv : ClassId) (ts : List Int32) (cap k : Nat) (u1 u2 : Value) (h0 : Heap) (n0 : Nat) (Z0 : n0 ≤ h0.size) (gs : n0 ≤ sb) (gv : n0 ≤ vb) (hsv : sb ≠ vb) (hcap : cap ≤ 150) (hkc : k ≤ cap) (B0 : own_B Z h0 sb vb kv (1 : Int32) (Int32.ofNat k) (Int32.ofNat (2 * cap)) (own_A (2 * cap) (own_fW (ts.take k)))) (hts : ts.length = k) (hlt : k < cap) (hk96 : k ≤ 96) (hall : ∃ c ∈ ts, (255 : Int32) < c) (g1 : n0 ≤ x1) (m1 : x1 ≠ sb) (m2 : x1 ≠ vb) (E1 : Exa Z h0 x1 "java/lang/String") (F1 : Fld Z h0 x1 "java/lang/String" "value" "[B" u1) (F2 : Fld Z h0 x1 "java/lang/String" "coder" "B" u2) (G1 : Int32) (US : own_US Z G1) (O0 : Old Z n0 h0) :
  own_Met l own_M46 jdk_42_method_53_code 2 none ws own_R_4_1_192_93 Z #[(.ref x1), (.ref sb)] h0 (Q83 Z x1 ts h0 n0) := by
 refine own_enter #[.val (.ref x1), .val (.ref sb)] (plainFor_of_name pn_java_lang_String) (fun m => ef_RR_2 m x1 sb) ?_
 intro p e s m below meth c s₁ hx hby hml hown hnm hZ hrt hlk X0 e0
 have w := @own_w _ _ hw
 have N0 := Fr.nil n0
 refine own_tp (.ref x1) 1 (fun _ q => XS.aloadN X0.here hx rfl (hb hby dj42m53_0) rfl rfl q) ?_
 refine own_tp (.ref sb) 2 (fun _ q => XS.aloadN X0.here hx rfl (hb hby dj42m53_1) rfl rfl q) ?_
 refine own_tp .null 3 (fun _ q => XS.aconstNull X0.here hx rfl (hb hby dj42m53_2) q) ?_
 obtain ⟨_, _, ⟨T51, L51, k51, n51⟩, -, X51, ⟨Lc51, hQ51, l51, y51, z51⟩, st51⟩ := X0.specialBack hx (y := own_M45) rfl hown (mvT hZ (w 165 rfl)) (mvT hZ (w 166 rfl)) (mvT hZ (w 167 rfl)) (by decide) (backOf (W := 0) (rm82 l Z a0 hw [] x1 sb vb kv ts cap k _ _ h0 n0 Z0 gs gv hsv (by omega) (by omega) B0 hts hlt hk96 hall g1 m1 m2 E1 F1 F2 G1 US O0) hZ (w 167 rfl) (w 5 rfl) (by decide) (by decide)) (g := (mkF m 3 #[.val (.ref x1), .val (.ref sb)] [.null, (.ref sb), (.ref x1)])) rfl (by rw [hml]; rfl) (Steps.refl _) (a := x1) (argsL := [(.ref sb), .null]) (rest := []) (lenOf pd26 rfl) rfl (by show 2 * 0 + _ ≤ _; exact Nat.le_of_eq rfl) (hb hby dj42m53_3) (fun _ _ => ⟨rfl, e0, (by decide : 0 + 1 ≤ _), (by decide : 0 + 192 ≤ _)⟩)
 dsimp only [Pt.U, Pt.locs, Pt.cells, Pt.slots] at X51 l51 y51 z51 st51 hQ51
 subst l51 y51 z51
 obtain ⟨rfl, Nq51, Kp51, rest51⟩ := hQ51
 refine own_csR [] 6 st51 ?_
 exact own_retV X51 hx hrt (hb hby dj42m53_6) hlk (by decide) (by decide) rfl (⟨rfl, Fr.app N0 Nq51, Kp51, rest51⟩)

def Q84 (Z : State) (ts : List Int32) (h0 : Heap) (n0 : Nat) (v : Option Value) (h : Heap) (L : List Loc) : Prop := ∃ r : Addr, v = some (.ref r) ∧ Fr n0 L ∧ Keep h0 h [] ∧ own_S Z h r ts

theorem rm84 (l : Launch) (Z : State) (a0 : Array Value) (hw : own_HW a0 Z) (ws : List Jvm.Cond) (sb vb : Addr) (kv : ClassId) (ts : List Int32) (cap k : Nat) (h0 : Heap) (n0 : Nat) (Z0 : n0 ≤ h0.size) (gs : n0 ≤ sb) (gv : n0 ≤ vb) (hsv : sb ≠ vb) (hcap : cap ≤ 150) (hkc : k ≤ cap) (B0 : own_B Z h0 sb vb kv (1 : Int32) (Int32.ofNat k) (Int32.ofNat (2 * cap)) (own_A (2 * cap) (own_fW (ts.take k)))) (hts : ts.length = k) (hlt : k < cap) (hk96 : k ≤ 96) (hall : ∃ c ∈ ts, (255 : Int32) < c) (G1 : Int32) (US : own_US Z G1) (O0 : Old Z n0 h0) :
  own_Met l own_M47 jdk_67_method_42_code 1 (some (.object "java/lang/String")) ws own_R_5_2_196_107 Z #[(.ref sb)] h0 (Q84 Z ts h0 n0) := by
 refine own_enter #[.val (.ref sb)] (plainFor_of_name pn_java_lang_StringBuilder) (fun m => ef_R_1 m sb) ?_
 intro p e s m below meth c s₁ hx hby hml hown hnm hZ hrt hlk X0 e0
 have w := @own_w _ _ hw
 have N0 := Fr.nil n0
 obtain ⟨T51, h51, X51, e51, E51, A51, D51, -, st51⟩ := newO X0 hx hZ hown (w 161 rfl) (w 4 rfl) (w 5 rfl) e0 (g := (mkF m 0 #[.val (.ref sb)] [])) rfl (hb hby dj67m42_0) (by decide) (by decide)
 obtain ⟨b51, g51⟩ : ∃ z, z = h0.size := ⟨_, rfl⟩
 rw [← g51] at A51 D51 st51
 have ge51 : n0 ≤ b51 := Nat.le_trans Z0 (Nat.le_of_eq g51.symm)
 have sz51 : h0.size ≤ b51 := Nat.le_trans (Keep.refl h0 []).1 (Nat.le_of_eq g51.symm)
 have ne52 : sb ≠ b51 := Nat.ne_of_lt (Nat.lt_of_lt_of_le B0.1.lt (Nat.le_of_eq g51.symm))
 have ne53 : vb ≠ b51 := Nat.ne_of_lt (Nat.lt_of_lt_of_le B0.2.2.2.2.2.lt (Nat.le_of_eq g51.symm))
 have O51 := Old.ext O0 E51
 have K51 : Keep h0 h51 [] := (Keep.refl h0 []).ext E51
 have Z51 : n0 ≤ h51.size := Nat.le_trans Z0 E51.1
 have Fvalue_51 : Fld Z h51 b51 "java/lang/String" "value" "[B" .null := D51 (Or.inr (w 18 rfl)) (ty := (.array .byte)) (by decide)
 have Fcoder_51 : Fld Z h51 b51 "java/lang/String" "coder" "B" (.int (0 : Int32)) := D51 (Or.inr (w 19 rfl)) (ty := .byte) (by decide)
 refine own_tp (.ref b51) 3 st51 ?_
 refine own_tp (.ref b51) 4 (fun _ q => XS.dup X51.here hx rfl (hb hby dj67m42_3) rfl rfl q) ?_
 refine own_tp (.ref sb) 5 (fun _ q => XS.aloadN X51.here hx rfl (hb hby dj67m42_4) rfl rfl q) ?_
 have f54 := (B0.1.ext E51)
 have f55 := (B0.2.1.ext E51)
 have f56 := (B0.2.2.1.ext E51)
 have f57 := (B0.2.2.2.1.ext E51)
 have f58 := (B0.2.2.2.2.1.ext E51)
 have f59 := (B0.2.2.2.2.2.ext E51)
 obtain ⟨_, _, ⟨T60, L60, k60, n60⟩, -, X60, ⟨Lc60, hQ60, l60, y60, z60⟩, st60⟩ := X51.specialBack hx (y := own_M46) rfl hown (mvT hZ (w 162 rfl)) (mvT hZ (w 163 rfl)) (mvT hZ (w 164 rfl)) (by decide) (backOf (W := 1) (rm83 l Z a0 hw [] b51 sb vb kv ts cap k _ _ h51 n0 Z51 gs gv hsv (by omega) (by omega) ⟨f54, f55, f56, f57, f58, f59⟩ hts hlt hk96 hall ge51 (Ne.symm ne52) (Ne.symm ne53) A51 Fvalue_51 Fcoder_51 G1 US O51) hZ (w 164 rfl) (w 5 rfl) (by decide) (by decide)) (g := (mkF m 5 #[.val (.ref sb)] [(.ref sb), (.ref b51), (.ref b51)])) rfl (by rw [hml]; rfl) (Steps.refl _) (a := b51) (argsL := [(.ref sb)]) (rest := [(.ref b51)]) (lenOf pd27 rfl) rfl (by show 2 * 0 + _ ≤ _; exact Nat.le_of_eq rfl) (hb hby dj67m42_5) (fun _ _ => ⟨rfl, e51, (by decide : 1 + 1 ≤ _), (by decide : 4 + 192 ≤ _)⟩)
 dsimp only [Pt.U, Pt.locs, Pt.cells, Pt.slots] at X60 l60 y60 z60 st60 hQ60
 subst l60 y60 z60
 obtain ⟨rfl, Nq60, Kp60, t60, kb60, cd60, Nn60, vs60, A60, Vl60, Cd60, V60, Co60⟩ := hQ60
 have N60 := Fr.app N0 Nq60
 have O60 := Old.keep O51 Kp60 (allS ge51 all0)
 have Z60 : n0 ≤ T60.heap.size := Nat.le_trans Z51 Kp60.1
 have K60 : Keep h0 T60.heap [] := Keep.trans K51 Kp60 (allS (Or.inr sz51) all0)
 have SS60 : own_S Z T60.heap b51 ts := ⟨t60, kb60, cd60, Nn60, vs60, A60, Vl60, Cd60, V60, Co60⟩
 refine own_csR [(.ref b51)] 8 st60 ?_
 exact own_retR X60 hx hrt (hb hby dj67m42_8) rfl rfl hlk (by decide) (by decide) rfl (⟨b51, rfl, N60, K60, SS60⟩)

def Q85 (Z : State) (cs : List Int32) (w0 w1 : Int32) (h0 : Heap) (n0 : Nat) (v : Option Value) (h : Heap) (L : List Loc) : Prop := ∃ r : Addr, v = some (.ref r) ∧ Fr n0 L ∧ Keep h0 h [] ∧ own_S Z h r (own_TX (own_ud cs) w0 w1)

theorem rm85 (l : Launch) (Z : State) (a0 : Array Value) (hw : own_HW a0 Z) (ws : List Jvm.Cond) (a1 a2 : Addr) (cs : List Int32) (w0 w1 : Int32) (h0 : Heap) (n0 : Nat) (hE : EW Z a0 own_EL) (Z0 : n0 ≤ h0.size) (hl : cs.length ≤ 1000) (hch : ∀ c ∈ cs, 0 ≤ c.toInt ∧ c.toInt ≤ 65535) (SN : own_S Z h0 a1 cs) (SW : own_S Z h0 a2 [w0, w1]) (G1 : Int32) (US : own_US Z G1) (O0 : Old Z n0 h0) (G3 : Value) (rG3 : G3.isRef = true) (Sf : own_SF Z G3) :
  own_MetW own_EL l own_M48 prog_30_method_2_code 2 (some (.object "java/lang/String")) ws own_R_13_40_4000_250 Z #[(.ref a1), (.ref a2)] h0 (Q85 Z cs w0 w1 h0 n0) := by
 refine own_enterW #[.val (.ref a1), .val (.ref a2)] (plainFor_of_name pn_com_example_kalends_kalends_FileNames) (fun m => ef_RR_2 m a1 a2) hE ?_
 intro p e s m below meth c s₁ hx hby hml hown hnm hZ hrt hlk X0 e0 Wd0
 have w := @own_w _ _ hw
 have N0 := Fr.nil n0
 have wS := own_wS hw
 have E1 := own_S.exa SN
 obtain ⟨tq, kq, cdq, Nq_, vq, Eq_, Lq, Cq, Vq, Coq⟩ := SW
 rcases Coq with ⟨rfl, rfl, rfl, hwq⟩ | ⟨rfl, rfl, rfl, hwq⟩
 ·
  refine own_tp (.ref a1) 1 (fun _ q => XS.aloadN X0.here hx rfl (hb hby dp30m2_0) rfl rfl q) ?_
  obtain ⟨_, _, ⟨T51, L51, k51, n51⟩, -, X51, ⟨Lc51, hQ51, l51, y51, z51⟩, st51⟩ := Jvm.LawKit.callS X0 hx (y := own_M17) hown (mvT hZ (w 40 rfl)) (mvT hZ (w 41 rfl)) (mvT hZ (w 38 rfl)) (mvT hZ (w 42 rfl)) (by decide) (backOf (W := 0) (rm26 l Z a0 hw [] a1 cs h0 n0 hl hch G1 US O0 G3 rG3 Sf SN) hZ (w 42 rfl) (w 38 rfl) (by decide) (by decide)) (g := (mkF m 1 #[.val (.ref a1), .val (.ref a2)] [(.ref a1)])) rfl (by rw [hml]; rfl) (argsL := [(.ref a1)]) (rest := []) (lenOf pd28 rfl) rfl (by show 2 * 0 + _ ≤ _; exact Nat.le_of_eq rfl) (hb hby dp30m2_1) (fun _ _ => ⟨rfl, e0, (by decide : 0 + 0 ≤ _), (by decide : 0 + 0 ≤ _)⟩)
  dsimp only [Pt.U, Pt.locs, Pt.cells, Pt.slots] at X51 l51 y51 z51 st51 hQ51
  subst l51 y51 z51
  obtain ⟨rfl, Nq51, eq51⟩ := hQ51
  have N51 := Fr.app N0 Nq51
  refine own_t1 (.int (own_ud cs)) 4 st51 ?_
  by_cases c52 : (own_ud cs) = (0 : Int32)
  ·
   refine own_d1 32 (fun _ q => XS.ifYes X51.here hx rfl (pc0 := 4) (pc' := 32) rfl (hb hby dp30m2_4) rfl ((if0 _ _).trans (teq c52).1) (by decide) (by decide) q) ?_
   obtain ⟨T53, h53, X53, e53, E53, A53, D53, -, st53⟩ := newO X51 hx hZ hown (w 76 rfl) (w 77 rfl) (w 78 rfl) eq51 (g := (mkF m 32 #[.val (.ref a1), .val (.ref a2)] [])) rfl (hb hby dp30m2_32) (by decide) (by decide)
   obtain ⟨b53, g53⟩ : ∃ z, z = h0.size := ⟨_, rfl⟩
   rw [← g53] at A53 D53 st53
   have ge53 : n0 ≤ b53 := Nat.le_trans Z0 (Nat.le_of_eq g53.symm)
   have sz53 : h0.size ≤ b53 := Nat.le_trans (Keep.refl h0 []).1 (Nat.le_of_eq g53.symm)
   have ne54 : a1 ≠ b53 := Nat.ne_of_lt (Nat.lt_of_lt_of_le E1.lt (Nat.le_of_eq g53.symm))
   have ne55 : a2 ≠ b53 := Nat.ne_of_lt (Nat.lt_of_lt_of_le Eq_.lt (Nat.le_of_eq g53.symm))
   have ne56 : tq ≠ b53 := Nat.ne_of_lt (Nat.lt_of_lt_of_le Vq.lt (Nat.le_of_eq g53.symm))
   have O53 := Old.ext O0 E53
   have K53 : Keep h0 h53 [] := (Keep.refl h0 []).ext E53
   have Z53 : n0 ≤ h53.size := Nat.le_trans Z0 E53.1
   have Wd53 := Wd0.ext E53
   have Fvalue_53 : Fld Z h53 b53 "java/lang/AbstractStringBuilder" "value" "[B" .null := D53 (Or.inl (w 91 rfl)) (ty := (.array .byte)) (by decide)
   have Fcoder_53 : Fld Z h53 b53 "java/lang/AbstractStringBuilder" "coder" "B" (.int (0 : Int32)) := D53 (Or.inl (w 93 rfl)) (ty := .byte) (by decide)
   have Fcount_53 : Fld Z h53 b53 "java/lang/AbstractStringBuilder" "count" "I" (.int (0 : Int32)) := D53 (Or.inl (w 107 rfl)) (ty := .int) (by decide)
   have FmaybeLatin1_53 : Fld Z h53 b53 "java/lang/AbstractStringBuilder" "maybeLatin1" "Z" (.int (0 : Int32)) := D53 (Or.inl (w 272 rfl)) (ty := .boolean) (by decide)
   refine own_tp (.ref b53) 35 st53 ?_
   refine own_tp (.ref b53) 36 (fun _ q => XS.dup X53.here hx rfl (hb hby dp30m2_35) rfl rfl q) ?_
   obtain ⟨_, _, ⟨T57, L57, k57, n57⟩, -, X57, ⟨Lc57, hQ57, l57, y57, z57⟩, st57⟩ := X53.specialBack hx (y := own_M19) rfl hown (mvT hZ (w 79 rfl)) (mvT hZ (w 80 rfl)) (mvT hZ (w 81 rfl)) (by decide) (backOf (W := 1) (rm28 l Z a0 hw [] b53 (own_T19 w0 w1) h53 n0 Z53 ge53 A53 Fvalue_53 Fcoder_53 Fcount_53 FmaybeLatin1_53 G1 US O53) hZ (w 81 rfl) (w 78 rfl) (by decide) (by decide)) (g := (mkF m 36 #[.val (.ref a1), .val (.ref a2)] [(.ref b53), (.ref b53)])) rfl (by rw [hml]; rfl) (Steps.refl _) (a := b53) (argsL := []) (rest := [(.ref b53)]) (lenOf pd22 rfl) rfl (by show 2 * 0 + _ ≤ _; exact Nat.le_of_eq rfl) (hb hby dp30m2_36) (fun _ _ => ⟨rfl, e53, (by decide : 1 + 1 ≤ _), (by decide : 4 + 16 ≤ _)⟩)
   dsimp only [Pt.U, Pt.locs, Pt.cells, Pt.slots] at X57 l57 y57 z57 st57 hQ57
   subst l57 y57 z57
   obtain ⟨rfl, Nq57, Kp57, nv57, kn57, gn57, sn57, B57⟩ := hQ57
   have f59 := (E1.ext E53)
   have ne58 : a1 ≠ nv57 := Nat.ne_of_lt (Nat.lt_of_lt_of_le f59.lt sn57)
   have f61 := (Eq_.ext E53)
   have ne60 : a2 ≠ nv57 := Nat.ne_of_lt (Nat.lt_of_lt_of_le f61.lt sn57)
   have f63 := (Vq.ext E53)
   have ne62 : tq ≠ nv57 := Nat.ne_of_lt (Nat.lt_of_lt_of_le f63.lt sn57)
   have ne64 : b53 ≠ nv57 := Nat.ne_of_lt (Nat.lt_of_lt_of_le A53.lt sn57)
   have s0nv57 : h0.size ≤ nv57 := Nat.le_trans K53.1 sn57
   have N57 := Fr.app N51 Nq57
   have O57 := Old.keep O53 Kp57 (allS ge53 all0)
   have Z57 : n0 ≤ T57.heap.size := Nat.le_trans Z53 Kp57.1
   have K57 : Keep h0 T57.heap [] := Keep.trans K53 Kp57 (allS (Or.inr sz53) all0)
   have Wd57 := Wd53.keep Kp57 (allS (Safe.exa hZ.alike A53 (by decide) (by decide)) all0)
   have B57_ : own_B Z T57.heap b53 nv57 kn57 (0 : Int32) (Int32.ofNat 0) (Int32.ofNat 16) (own_A 16 (own_fL ((own_T19 w0 w1).take 0))) := by have q := B57; rw [own_repL] at q; exact q
   have G57 : Safe Z own_EL s.vm T57.heap nv57 := Safe.keep Kp57 (allS (Safe.exa hZ.alike A53 (by decide) (by decide)) all0) Wd53.chv (Safe.new sn57)
   refine own_csR [(.ref b53)] 39 st57 ?_
   obtain ⟨b65, T65, h65, bb65, kk65, X65, e65, E65, Wd65, ho65, A65, Cd65, Vl65, V65, Ch65, Sf65, st65⟩ := own_ldc X57 hx Wd57 hown (w 94 rfl) wS rfl (by simp [own_EL]) (vs := [(.int (116 : Int32)), (.int (104 : Int32)), (.int (101 : Int32)), (.int (114 : Int32)), (.int (101 : Int32)), (.int (32 : Int32)), (.int (105 : Int32)), (.int (115 : Int32)), (.int (32 : Int32)), (.int (110 : Int32)), (.int (111 : Int32)), (.int (32 : Int32)), (.int (115 : Int32)), (.int (117 : Int32)), (.int (99 : Int32)), (.int (104 : Int32)), (.int (32 : Int32))]) (z := (17 : Int32)) ⟨by decide, by decide⟩ (by decide) rfl (g := (mkF m 39 #[.val (.ref a1), .val (.ref a2)] [(.ref b53)])) rfl (hb hby dp30m2_39) (n := 68) (by decide) (by decide) (by decide) (by decide)
   have hZ65 : Z.Warmed39 (s.setVm T65.vm).vm := Wd65.hZ
   have hown65 : (s.setVm T65.vm).vm.findClass "com/example/kalends/kalends/FileNames" = some m.cls := ho65
   have O65 := Old.ext O57 E65
   have K65 : Keep h0 h65 [] := K57.ext E65
   have Z65 : n0 ≤ h65.size := Nat.le_trans Z57 E65.1
   have G65_nv57 := CHr.safe Ch65 B57_.2.2.2.2.2.lt G57
   have f66 := (B57_.1.ext E65)
   have nl65_b53 := Sf65 b53 (Safe.exa hZ65.alike f66 (by decide) (by decide))
   have nl65_nv57 := Sf65 nv57 G65_nv57
   refine own_tp (.ref b65) 41 st65 ?_
   have VK67 : Arv Z h65 bb65 kk65 .byte (17 : Int32) (own_lows own_K0) (.int (0 : Int32)) := by rw [← own_ascii own_K0 (fun c hc => (own_ask0 c hc).1)]; exact V65
   have f68 := (B57_.2.1.ext E65)
   have f69 := (B57_.2.2.1.ext E65)
   have f70 := (B57_.2.2.2.1.ext E65)
   have f71 := (B57_.2.2.2.2.1.ext E65)
   have f72 := (B57_.2.2.2.2.2.ext E65)
   obtain ⟨cq73, kq73, q73a, q73b, q73c⟩ := isOf hZ65 e65 f66
   obtain ⟨_, _, ⟨T73, L73, k73, n73⟩, -, X73, ⟨Lc73, hQ73, l73, y73, z73⟩, st73⟩ := X65.virtualBack hx (y := own_M28) (z := own_M28) hown65 (mvT hZ65 (w 95 rfl)) (mvT hZ65 (w 96 rfl)) (notFace_of_selects (args := #[]) (mvT hZ65 (w 98 rfl))) (mvT hZ65 (w 98 rfl)) (mvT hZ65 (w 97 rfl)) (by decide) (backOf (W := 0) (rm39 l Z a0 hw [] b53 nv57 kn57 (own_T19 w0 w1) 16 0 b65 bb65 kk65 own_K0 17 34 h65 n0 Z65 ge53 gn57 ne64 (by omega) (by omega) (Ne.symm nl65_b53.1) (Ne.symm nl65_b53.2) (Ne.symm nl65_nv57.1) (Ne.symm nl65_nv57.2) ⟨f66, f68, f69, f70, f71, f72⟩ ⟨A65, Cd65, Vl65, VK67⟩ rfl (own_d1a w0 w1) (by decide) (by decide) (by decide) (by decide) (by decide) G1 US O65 G3 rG3 Sf) hZ65 (w 99 rfl) (w 78 rfl) (by decide) (by decide)) q73a q73c (g := (mkF m 41 #[.val (.ref a1), .val (.ref a2)] [(.ref b65), (.ref b53)])) rfl (by rw [hml]; rfl) (Steps.refl _) (argsL := [(.ref b65)]) (rest := []) (lenOf pd29 rfl) rfl (by show 2 * 0 + _ ≤ _; exact Nat.le_of_eq rfl) (hb hby dp30m2_41) (fun _ _ => ⟨rfl, e65, (by decide : 4 + 1 ≤ _), (by decide : 92 + 150 ≤ _)⟩)
   dsimp only [Pt.U, Pt.locs, Pt.cells, Pt.slots] at X73 l73 y73 z73 st73 hQ73
   subst l73 y73 z73
   obtain ⟨rfl, Nq73, Kp73, nv73, kn73, gn73, sn73, B73⟩ := hQ73
   have f75 := ((f59.keep Kp57).ext E65)
   have ne74 : a1 ≠ nv73 := Nat.ne_of_lt (Nat.lt_of_lt_of_le f75.lt sn73)
   have f77 := ((f61.keep Kp57).ext E65)
   have ne76 : a2 ≠ nv73 := Nat.ne_of_lt (Nat.lt_of_lt_of_le f77.lt sn73)
   have f79 := ((f63.keep Kp57 (ninS ne56 nin0)).ext E65)
   have ne78 : tq ≠ nv73 := Nat.ne_of_lt (Nat.lt_of_lt_of_le f79.lt sn73)
   have ne80 : b53 ≠ nv73 := Nat.ne_of_lt (Nat.lt_of_lt_of_le f66.lt sn73)
   have ne81 : nv57 ≠ nv73 := Nat.ne_of_lt (Nat.lt_of_lt_of_le f72.lt sn73)
   have ne82 : b65 ≠ nv73 := Nat.ne_of_lt (Nat.lt_of_lt_of_le A65.lt sn73)
   have ne83 : bb65 ≠ nv73 := Nat.ne_of_lt (Nat.lt_of_lt_of_le VK67.lt sn73)
   have s0nv73 : h0.size ≤ nv73 := Nat.le_trans K65.1 sn73
   have N73 := Fr.app N57 Nq73
   have O73 := Old.keep O65 Kp73 (allS ge53 (allS gn57 all0))
   have Z73 : n0 ≤ T73.heap.size := Nat.le_trans Z65 Kp73.1
   have K73 : Keep h0 T73.heap [] := Keep.trans K65 Kp73 (allS (Or.inr sz53) (allS (Or.inr s0nv57) all0))
   have Wd73 := Wd65.keep Kp73 (allS (Safe.exa hZ65.alike f66 (by decide) (by decide)) (allS G65_nv57 all0))
   have G73 : Safe Z own_EL T65.vm T73.heap nv73 := Safe.keep Kp73 (allS (Safe.exa hZ65.alike f66 (by decide) (by decide)) (allS G65_nv57 all0)) Wd65.chv (Safe.new sn73)
   refine own_csR [(.ref b53)] 44 st73 ?_
   refine own_tp (.ref a2) 45 (fun _ q => XS.aloadN X73.here hx rfl (hb hby dp30m2_44) rfl rfl q) ?_
   have f84 := (f77.keep Kp73)
   have f85 := ((((Cq.ext E53).keep Kp57 (ninS ne55 nin0)).ext E65).keep Kp73 (ninS ne55 (ninS ne60 nin0)))
   have f86 := ((((Lq.ext E53).keep Kp57 (ninS ne55 nin0)).ext E65).keep Kp73 (ninS ne55 (ninS ne60 nin0)))
   have f87 := (f79.keep Kp73 (ninS ne56 (ninS ne62 nin0)))
   obtain ⟨cq88, kq88, q88a, q88b, q88c⟩ := isOf hZ65 rfl B73.1
   obtain ⟨_, _, ⟨T88, L88, k88, n88⟩, -, X88, ⟨Lc88, hQ88, l88, y88, z88⟩, st88⟩ := X73.virtualBack hx (y := own_M28) (z := own_M28) hown65 (mvT hZ65 (w 95 rfl)) (mvT hZ65 (w 96 rfl)) (notFace_of_selects (args := #[]) (mvT hZ65 (w 98 rfl))) (mvT hZ65 (w 98 rfl)) (mvT hZ65 (w 97 rfl)) (by decide) (backOf (W := 0) (rm42 l Z a0 hw [] b53 nv73 kn73 (own_T19 w0 w1) 34 17 a2 tq kq [w0, w1] 2 T73.heap n0 Z73 ge53 gn73 ne80 (by omega) (by omega) ne55 ne56 ne76 ne78 B73 ⟨f84, f85, f86, f87⟩ rfl (own_d1b w0 w1) (by decide) G1 US O73 G3 rG3 Sf) hZ65 (w 99 rfl) (w 78 rfl) (by decide) (by decide)) q88a q88c (g := (mkF m 45 #[.val (.ref a1), .val (.ref a2)] [(.ref a2), (.ref b53)])) rfl (by rw [hml]; rfl) (Steps.refl _) (argsL := [(.ref a2)]) (rest := []) (lenOf pd29 rfl) rfl (by show 2 * 0 + _ ≤ _; exact Nat.le_of_eq rfl) (hb hby dp30m2_45) (fun _ _ => ⟨rfl, rfl, (by decide : 5 + 0 ≤ _), (by decide : 242 + 0 ≤ _)⟩)
   dsimp only [Pt.U, Pt.locs, Pt.cells, Pt.slots] at X88 l88 y88 z88 st88 hQ88
   subst l88 y88 z88
   obtain ⟨rfl, Nq88, Kp88, B88⟩ := hQ88
   have N88 := Fr.app N73 Nq88
   have O88 := Old.keep O73 Kp88 (allS ge53 (allS gn73 all0))
   have Z88 : n0 ≤ T88.heap.size := Nat.le_trans Z73 Kp88.1
   have K88 : Keep h0 T88.heap [] := Keep.trans K73 Kp88 (allS (Or.inr sz53) (allS (Or.inr s0nv73) all0))
   have Wd88 := Wd73.keep Kp88 (allS (Safe.exa hZ65.alike B73.1 (by decide) (by decide)) (allS G73 all0))
   refine own_csR [(.ref b53)] 48 st88 ?_
   obtain ⟨cq89, kq89, q89a, q89b, q89c⟩ := isOf hZ65 rfl B88.1
   obtain ⟨_, _, ⟨T89, L89, k89, n89⟩, -, X89, ⟨Lc89, hQ89, l89, y89, z89⟩, st89⟩ := X88.virtualBack hx (y := own_M47) (z := own_M47) hown65 (mvT hZ65 (w 156 rfl)) (mvT hZ65 (w 157 rfl)) (notFace_of_selects (args := #[]) (mvT hZ65 (w 159 rfl))) (mvT hZ65 (w 159 rfl)) (mvT hZ65 (w 158 rfl)) (by decide) (backOf (W := 0) (rm76 l Z a0 hw [] b53 nv73 kn73 (own_T19 w0 w1) 34 19 T88.heap n0 Z88 ge53 gn73 ne80 (by omega) (by omega) B88 rfl (by decide) (by decide) (own_T19l hwq) G1 US O88) hZ65 (w 160 rfl) (w 78 rfl) (by decide) (by decide)) q89a q89c (g := (mkF m 48 #[.val (.ref a1), .val (.ref a2)] [(.ref b53)])) rfl (by rw [hml]; rfl) (Steps.refl _) (argsL := []) (rest := []) (lenOf pd30 rfl) rfl (by show 2 * 0 + _ ≤ _; exact Nat.le_of_eq rfl) (hb hby dp30m2_48) (fun _ _ => ⟨rfl, rfl, (by decide : 5 + 2 ≤ _), (by decide : 242 + 196 ≤ _)⟩)
   dsimp only [Pt.U, Pt.locs, Pt.cells, Pt.slots] at X89 l89 y89 z89 st89 hQ89
   subst l89 y89 z89
   obtain ⟨rs89, rfl, Nq89, Kp89, SS89⟩ := hQ89
   have N89 := Fr.app N88 Nq89
   have O89 := Old.keep O88 Kp89 all0
   have Z89 : n0 ≤ T89.heap.size := Nat.le_trans Z88 Kp89.1
   have K89 : Keep h0 T89.heap [] := Keep.trans K88 Kp89 all0
   have Wd89 := Wd88.keep Kp89 all0
   refine own_csR [(.ref rs89)] 51 st89 ?_
   have hTX : own_TX (own_ud cs) w0 w1 = own_T19 w0 w1 := (by unfold own_TX; rw [if_pos c52])
   exact own_retRW X89 hx hrt (hb hby dp30m2_51) rfl rfl hlk (by decide) (by decide) rfl Wd89 (⟨rs89, rfl, N89, K89, by rw [hTX]; exact SS89⟩)
  ·
   refine own_d1 7 (fun _ q => XS.ifNo X51.here hx rfl (hb hby dp30m2_4) rfl ((if0 _ _).trans (feq c52).1) q) ?_
   obtain ⟨T90, h90, X90, e90, E90, A90, D90, -, st90⟩ := newO X51 hx hZ hown (w 76 rfl) (w 77 rfl) (w 78 rfl) eq51 (g := (mkF m 7 #[.val (.ref a1), .val (.ref a2)] [])) rfl (hb hby dp30m2_7) (by decide) (by decide)
   obtain ⟨b90, g90⟩ : ∃ z, z = h0.size := ⟨_, rfl⟩
   rw [← g90] at A90 D90 st90
   have ge90 : n0 ≤ b90 := Nat.le_trans Z0 (Nat.le_of_eq g90.symm)
   have sz90 : h0.size ≤ b90 := Nat.le_trans (Keep.refl h0 []).1 (Nat.le_of_eq g90.symm)
   have ne91 : a1 ≠ b90 := Nat.ne_of_lt (Nat.lt_of_lt_of_le E1.lt (Nat.le_of_eq g90.symm))
   have ne92 : a2 ≠ b90 := Nat.ne_of_lt (Nat.lt_of_lt_of_le Eq_.lt (Nat.le_of_eq g90.symm))
   have ne93 : tq ≠ b90 := Nat.ne_of_lt (Nat.lt_of_lt_of_le Vq.lt (Nat.le_of_eq g90.symm))
   have O90 := Old.ext O0 E90
   have K90 : Keep h0 h90 [] := (Keep.refl h0 []).ext E90
   have Z90 : n0 ≤ h90.size := Nat.le_trans Z0 E90.1
   have Wd90 := Wd0.ext E90
   have Fvalue_90 : Fld Z h90 b90 "java/lang/AbstractStringBuilder" "value" "[B" .null := D90 (Or.inl (w 91 rfl)) (ty := (.array .byte)) (by decide)
   have Fcoder_90 : Fld Z h90 b90 "java/lang/AbstractStringBuilder" "coder" "B" (.int (0 : Int32)) := D90 (Or.inl (w 93 rfl)) (ty := .byte) (by decide)
   have Fcount_90 : Fld Z h90 b90 "java/lang/AbstractStringBuilder" "count" "I" (.int (0 : Int32)) := D90 (Or.inl (w 107 rfl)) (ty := .int) (by decide)
   have FmaybeLatin1_90 : Fld Z h90 b90 "java/lang/AbstractStringBuilder" "maybeLatin1" "Z" (.int (0 : Int32)) := D90 (Or.inl (w 272 rfl)) (ty := .boolean) (by decide)
   refine own_tp (.ref b90) 10 st90 ?_
   refine own_tp (.ref b90) 11 (fun _ q => XS.dup X90.here hx rfl (hb hby dp30m2_10) rfl rfl q) ?_
   obtain ⟨_, _, ⟨T94, L94, k94, n94⟩, -, X94, ⟨Lc94, hQ94, l94, y94, z94⟩, st94⟩ := X90.specialBack hx (y := own_M19) rfl hown (mvT hZ (w 79 rfl)) (mvT hZ (w 80 rfl)) (mvT hZ (w 81 rfl)) (by decide) (backOf (W := 1) (rm28 l Z a0 hw [] b90 (own_T96 w0 w1) h90 n0 Z90 ge90 A90 Fvalue_90 Fcoder_90 Fcount_90 FmaybeLatin1_90 G1 US O90) hZ (w 81 rfl) (w 78 rfl) (by decide) (by decide)) (g := (mkF m 11 #[.val (.ref a1), .val (.ref a2)] [(.ref b90), (.ref b90)])) rfl (by rw [hml]; rfl) (Steps.refl _) (a := b90) (argsL := []) (rest := [(.ref b90)]) (lenOf pd22 rfl) rfl (by show 2 * 0 + _ ≤ _; exact Nat.le_of_eq rfl) (hb hby dp30m2_11) (fun _ _ => ⟨rfl, e90, (by decide : 1 + 1 ≤ _), (by decide : 4 + 16 ≤ _)⟩)
   dsimp only [Pt.U, Pt.locs, Pt.cells, Pt.slots] at X94 l94 y94 z94 st94 hQ94
   subst l94 y94 z94
   obtain ⟨rfl, Nq94, Kp94, nv94, kn94, gn94, sn94, B94⟩ := hQ94
   have f96 := (E1.ext E90)
   have ne95 : a1 ≠ nv94 := Nat.ne_of_lt (Nat.lt_of_lt_of_le f96.lt sn94)
   have f98 := (Eq_.ext E90)
   have ne97 : a2 ≠ nv94 := Nat.ne_of_lt (Nat.lt_of_lt_of_le f98.lt sn94)
   have f100 := (Vq.ext E90)
   have ne99 : tq ≠ nv94 := Nat.ne_of_lt (Nat.lt_of_lt_of_le f100.lt sn94)
   have ne101 : b90 ≠ nv94 := Nat.ne_of_lt (Nat.lt_of_lt_of_le A90.lt sn94)
   have s0nv94 : h0.size ≤ nv94 := Nat.le_trans K90.1 sn94
   have N94 := Fr.app N51 Nq94
   have O94 := Old.keep O90 Kp94 (allS ge90 all0)
   have Z94 : n0 ≤ T94.heap.size := Nat.le_trans Z90 Kp94.1
   have K94 : Keep h0 T94.heap [] := Keep.trans K90 Kp94 (allS (Or.inr sz90) all0)
   have Wd94 := Wd90.keep Kp94 (allS (Safe.exa hZ.alike A90 (by decide) (by decide)) all0)
   have B94_ : own_B Z T94.heap b90 nv94 kn94 (0 : Int32) (Int32.ofNat 0) (Int32.ofNat 16) (own_A 16 (own_fL ((own_T96 w0 w1).take 0))) := by have q := B94; rw [own_repL] at q; exact q
   have G94 : Safe Z own_EL s.vm T94.heap nv94 := Safe.keep Kp94 (allS (Safe.exa hZ.alike A90 (by decide) (by decide)) all0) Wd90.chv (Safe.new sn94)
   refine own_csR [(.ref b90)] 14 st94 ?_
   obtain ⟨b102, T102, h102, bb102, kk102, X102, e102, E102, Wd102, ho102, A102, Cd102, Vl102, V102, Ch102, Sf102, st102⟩ := own_ldc X94 hx Wd94 hown (w 273 rfl) wS rfl (by simp [own_EL]) (vs := [(.int (105 : Int32)), (.int (116 : Int32)), (.int (115 : Int32)), (.int (32 : Int32)), (.int (110 : Int32)), (.int (97 : Int32)), (.int (109 : Int32)), (.int (101 : Int32)), (.int (32 : Int32)), (.int (104 : Int32)), (.int (111 : Int32)), (.int (108 : Int32)), (.int (100 : Int32)), (.int (115 : Int32)), (.int (32 : Int32)), (.int (98 : Int32)), (.int (121 : Int32)), (.int (116 : Int32)), (.int (101 : Int32)), (.int (115 : Int32)), (.int (32 : Int32)), (.int (116 : Int32)), (.int (104 : Int32)), (.int (97 : Int32)), (.int (116 : Int32)), (.int (32 : Int32)), (.int (116 : Int32)), (.int (104 : Int32)), (.int (101 : Int32)), (.int (32 : Int32)), (.int (108 : Int32)), (.int (111 : Int32)), (.int (99 : Int32)), (.int (97 : Int32)), (.int (108 : Int32)), (.int (101 : Int32)), (.int (39 : Int32)), (.int (115 : Int32)), (.int (32 : Int32)), (.int (99 : Int32)), (.int (104 : Int32)), (.int (97 : Int32)), (.int (114 : Int32)), (.int (97 : Int32)), (.int (99 : Int32)), (.int (116 : Int32)), (.int (101 : Int32)), (.int (114 : Int32)), (.int (32 : Int32)), (.int (115 : Int32)), (.int (101 : Int32)), (.int (116 : Int32)), (.int (32 : Int32)), (.int (99 : Int32)), (.int (97 : Int32)), (.int (110 : Int32)), (.int (110 : Int32)), (.int (111 : Int32)), (.int (116 : Int32)), (.int (32 : Int32)), (.int (100 : Int32)), (.int (101 : Int32)), (.int (99 : Int32)), (.int (111 : Int32)), (.int (100 : Int32)), (.int (101 : Int32)), (.int (44 : Int32)), (.int (32 : Int32)), (.int (115 : Int32)), (.int (111 : Int32)), (.int (32 : Int32)), (.int (110 : Int32)), (.int (111 : Int32)), (.int (32 : Int32))]) (z := (74 : Int32)) ⟨by decide, by decide⟩ (by decide) rfl (g := (mkF m 14 #[.val (.ref a1), .val (.ref a2)] [(.ref b90)])) rfl (hb hby dp30m2_14) (n := 296) (by decide) (by decide) (by decide) (by decide)
   have hZ102 : Z.Warmed39 (s.setVm T102.vm).vm := Wd102.hZ
   have hown102 : (s.setVm T102.vm).vm.findClass "com/example/kalends/kalends/FileNames" = some m.cls := ho102
   have O102 := Old.ext O94 E102
   have K102 : Keep h0 h102 [] := K94.ext E102
   have Z102 : n0 ≤ h102.size := Nat.le_trans Z94 E102.1
   have G102_nv94 := CHr.safe Ch102 B94_.2.2.2.2.2.lt G94
   have f103 := (B94_.1.ext E102)
   have nl102_b90 := Sf102 b90 (Safe.exa hZ102.alike f103 (by decide) (by decide))
   have nl102_nv94 := Sf102 nv94 G102_nv94
   refine own_tp (.ref b102) 16 st102 ?_
   have VK104 : Arv Z h102 bb102 kk102 .byte (74 : Int32) (own_lows own_K1) (.int (0 : Int32)) := by rw [← own_ascii own_K1 (fun c hc => (own_ask1 c hc).1)]; exact V102
   have f105 := (B94_.2.1.ext E102)
   have f106 := (B94_.2.2.1.ext E102)
   have f107 := (B94_.2.2.2.1.ext E102)
   have f108 := (B94_.2.2.2.2.1.ext E102)
   have f109 := (B94_.2.2.2.2.2.ext E102)
   obtain ⟨cq110, kq110, q110a, q110b, q110c⟩ := isOf hZ102 e102 f103
   obtain ⟨_, _, ⟨T110, L110, k110, n110⟩, -, X110, ⟨Lc110, hQ110, l110, y110, z110⟩, st110⟩ := X102.virtualBack hx (y := own_M28) (z := own_M28) hown102 (mvT hZ102 (w 95 rfl)) (mvT hZ102 (w 96 rfl)) (notFace_of_selects (args := #[]) (mvT hZ102 (w 98 rfl))) (mvT hZ102 (w 98 rfl)) (mvT hZ102 (w 97 rfl)) (by decide) (backOf (W := 0) (rm39 l Z a0 hw [] b90 nv94 kn94 (own_T96 w0 w1) 16 0 b102 bb102 kk102 own_K1 74 74 h102 n0 Z102 ge90 gn94 ne101 (by omega) (by omega) (Ne.symm nl102_b90.1) (Ne.symm nl102_b90.2) (Ne.symm nl102_nv94.1) (Ne.symm nl102_nv94.2) ⟨f103, f105, f106, f107, f108, f109⟩ ⟨A102, Cd102, Vl102, VK104⟩ rfl (own_d2a w0 w1) (by decide) (by decide) (by decide) (by decide) (by decide) G1 US O102 G3 rG3 Sf) hZ102 (w 99 rfl) (w 78 rfl) (by decide) (by decide)) q110a q110c (g := (mkF m 16 #[.val (.ref a1), .val (.ref a2)] [(.ref b102), (.ref b90)])) rfl (by rw [hml]; rfl) (Steps.refl _) (argsL := [(.ref b102)]) (rest := []) (lenOf pd29 rfl) rfl (by show 2 * 0 + _ ≤ _; exact Nat.le_of_eq rfl) (hb hby dp30m2_16) (fun _ _ => ⟨rfl, e102, (by decide : 4 + 1 ≤ _), (by decide : 320 + 150 ≤ _)⟩)
   dsimp only [Pt.U, Pt.locs, Pt.cells, Pt.slots] at X110 l110 y110 z110 st110 hQ110
   subst l110 y110 z110
   obtain ⟨rfl, Nq110, Kp110, nv110, kn110, gn110, sn110, B110⟩ := hQ110
   have f112 := ((f96.keep Kp94).ext E102)
   have ne111 : a1 ≠ nv110 := Nat.ne_of_lt (Nat.lt_of_lt_of_le f112.lt sn110)
   have f114 := ((f98.keep Kp94).ext E102)
   have ne113 : a2 ≠ nv110 := Nat.ne_of_lt (Nat.lt_of_lt_of_le f114.lt sn110)
   have f116 := ((f100.keep Kp94 (ninS ne93 nin0)).ext E102)
   have ne115 : tq ≠ nv110 := Nat.ne_of_lt (Nat.lt_of_lt_of_le f116.lt sn110)
   have ne117 : b90 ≠ nv110 := Nat.ne_of_lt (Nat.lt_of_lt_of_le f103.lt sn110)
   have ne118 : nv94 ≠ nv110 := Nat.ne_of_lt (Nat.lt_of_lt_of_le f109.lt sn110)
   have ne119 : b102 ≠ nv110 := Nat.ne_of_lt (Nat.lt_of_lt_of_le A102.lt sn110)
   have ne120 : bb102 ≠ nv110 := Nat.ne_of_lt (Nat.lt_of_lt_of_le VK104.lt sn110)
   have s0nv110 : h0.size ≤ nv110 := Nat.le_trans K102.1 sn110
   have N110 := Fr.app N94 Nq110
   have O110 := Old.keep O102 Kp110 (allS ge90 (allS gn94 all0))
   have Z110 : n0 ≤ T110.heap.size := Nat.le_trans Z102 Kp110.1
   have K110 : Keep h0 T110.heap [] := Keep.trans K102 Kp110 (allS (Or.inr sz90) (allS (Or.inr s0nv94) all0))
   have Wd110 := Wd102.keep Kp110 (allS (Safe.exa hZ102.alike f103 (by decide) (by decide)) (allS G102_nv94 all0))
   have G110 : Safe Z own_EL T102.vm T110.heap nv110 := Safe.keep Kp110 (allS (Safe.exa hZ102.alike f103 (by decide) (by decide)) (allS G102_nv94 all0)) Wd102.chv (Safe.new sn110)
   refine own_csR [(.ref b90)] 19 st110 ?_
   refine own_tp (.ref a2) 20 (fun _ q => XS.aloadN X110.here hx rfl (hb hby dp30m2_19) rfl rfl q) ?_
   have f121 := (f114.keep Kp110)
   have f122 := ((((Cq.ext E90).keep Kp94 (ninS ne92 nin0)).ext E102).keep Kp110 (ninS ne92 (ninS ne97 nin0)))
   have f123 := ((((Lq.ext E90).keep Kp94 (ninS ne92 nin0)).ext E102).keep Kp110 (ninS ne92 (ninS ne97 nin0)))
   have f124 := (f116.keep Kp110 (ninS ne93 (ninS ne99 nin0)))
   obtain ⟨cq125, kq125, q125a, q125b, q125c⟩ := isOf hZ102 rfl B110.1
   obtain ⟨_, _, ⟨T125, L125, k125, n125⟩, -, X125, ⟨Lc125, hQ125, l125, y125, z125⟩, st125⟩ := X110.virtualBack hx (y := own_M28) (z := own_M28) hown102 (mvT hZ102 (w 95 rfl)) (mvT hZ102 (w 96 rfl)) (notFace_of_selects (args := #[]) (mvT hZ102 (w 98 rfl))) (mvT hZ102 (w 98 rfl)) (mvT hZ102 (w 97 rfl)) (by decide) (backOf (W := 0) (rm39 l Z a0 hw [] b90 nv110 kn110 (own_T96 w0 w1) 74 74 a2 tq kq [w0, w1] 2 150 T110.heap n0 Z110 ge90 gn110 ne117 (by omega) (by omega) ne92 ne93 ne113 ne115 B110 ⟨f121, f122, f123, f124⟩ rfl (own_d2b w0 w1) (by decide) (by decide) (by decide) (by decide) (by decide) G1 US O110 G3 rG3 Sf) hZ102 (w 99 rfl) (w 78 rfl) (by decide) (by decide)) q125a q125c (g := (mkF m 20 #[.val (.ref a1), .val (.ref a2)] [(.ref a2), (.ref b90)])) rfl (by rw [hml]; rfl) (Steps.refl _) (argsL := [(.ref a2)]) (rest := []) (lenOf pd29 rfl) rfl (by show 2 * 0 + _ ≤ _; exact Nat.le_of_eq rfl) (hb hby dp30m2_20) (fun _ _ => ⟨rfl, rfl, (by decide : 5 + 1 ≤ _), (by decide : 470 + 150 ≤ _)⟩)
   dsimp only [Pt.U, Pt.locs, Pt.cells, Pt.slots] at X125 l125 y125 z125 st125 hQ125
   subst l125 y125 z125
   obtain ⟨rfl, Nq125, Kp125, nv125, kn125, gn125, sn125, B125⟩ := hQ125
   have f127 := (f112.keep Kp110)
   have ne126 : a1 ≠ nv125 := Nat.ne_of_lt (Nat.lt_of_lt_of_le f127.lt sn125)
   have ne128 : a2 ≠ nv125 := Nat.ne_of_lt (Nat.lt_of_lt_of_le f121.lt sn125)
   have ne129 : tq ≠ nv125 := Nat.ne_of_lt (Nat.lt_of_lt_of_le f124.lt sn125)
   have ne130 : b90 ≠ nv125 := Nat.ne_of_lt (Nat.lt_of_lt_of_le B110.1.lt sn125)
   have f132 := (A102.keep Kp110)
   have ne131 : b102 ≠ nv125 := Nat.ne_of_lt (Nat.lt_of_lt_of_le f132.lt sn125)
   have f134 := (VK104.keep Kp110 (ninS (Ne.symm nl102_b90.2) (ninS (Ne.symm nl102_nv94.2) nin0)))
   have ne133 : bb102 ≠ nv125 := Nat.ne_of_lt (Nat.lt_of_lt_of_le f134.lt sn125)
   have ne135 : nv110 ≠ nv125 := Nat.ne_of_lt (Nat.lt_of_lt_of_le B110.2.2.2.2.2.lt sn125)
   have s0nv125 : h0.size ≤ nv125 := Nat.le_trans K110.1 sn125
   have N125 := Fr.app N110 Nq125
   have O125 := Old.keep O110 Kp125 (allS ge90 (allS gn110 all0))
   have Z125 : n0 ≤ T125.heap.size := Nat.le_trans Z110 Kp125.1
   have K125 : Keep h0 T125.heap [] := Keep.trans K110 Kp125 (allS (Or.inr sz90) (allS (Or.inr s0nv110) all0))
   have Wd125 := Wd110.keep Kp125 (allS (Safe.exa hZ102.alike B110.1 (by decide) (by decide)) (allS G110 all0))
   have G125 : Safe Z own_EL T102.vm T125.heap nv125 := Safe.keep Kp125 (allS (Safe.exa hZ102.alike B110.1 (by decide) (by decide)) (allS G110 all0)) Wd110.chv (Safe.new sn125)
   refine own_csR [(.ref b90)] 23 st125 ?_
   obtain ⟨b136, T136, h136, bb136, kk136, X136, e136, E136, Wd136, ho136, A136, Cd136, Vl136, V136, Ch136, Sf136, st136⟩ := own_ldc X125 hx Wd125 hown102 (w 274 rfl) wS rfl (by simp [own_EL]) (vs := [(.int (32 : Int32)), (.int (99 : Int32)), (.int (97 : Int32)), (.int (110 : Int32)), (.int (32 : Int32)), (.int (98 : Int32)), (.int (101 : Int32)), (.int (32 : Int32)), (.int (111 : Int32)), (.int (112 : Int32)), (.int (101 : Int32)), (.int (110 : Int32)), (.int (101 : Int32)), (.int (100 : Int32)), (.int (32 : Int32)), (.int (98 : Int32)), (.int (121 : Int32)), (.int (32 : Int32)), (.int (105 : Int32)), (.int (116 : Int32))]) (z := (20 : Int32)) ⟨by decide, by decide⟩ (by decide) rfl (g := (mkF m 23 #[.val (.ref a1), .val (.ref a2)] [(.ref b90)])) rfl (hb hby dp30m2_23) (n := 80) (by decide) (by decide) (by decide) (by decide)
   have hZ136 : Z.Warmed39 (s.setVm T136.vm).vm := Wd136.hZ
   have hown136 : (s.setVm T136.vm).vm.findClass "com/example/kalends/kalends/FileNames" = some m.cls := ho136
   have O136 := Old.ext O125 E136
   have K136 : Keep h0 h136 [] := K125.ext E136
   have Z136 : n0 ≤ h136.size := Nat.le_trans Z125 E136.1
   have G136_nv125 := CHr.safe Ch136 B125.2.2.2.2.2.lt G125
   have f137 := (B125.1.ext E136)
   have nl136_b90 := Sf136 b90 (Safe.exa hZ136.alike f137 (by decide) (by decide))
   have nl136_nv125 := Sf136 nv125 G136_nv125
   refine own_tp (.ref b136) 25 st136 ?_
   have VK138 : Arv Z h136 bb136 kk136 .byte (20 : Int32) (own_lows own_K2) (.int (0 : Int32)) := by rw [← own_ascii own_K2 (fun c hc => (own_ask2 c hc).1)]; exact V136
   have f139 := (B125.2.1.ext E136)
   have f140 := (B125.2.2.1.ext E136)
   have f141 := (B125.2.2.2.1.ext E136)
   have f142 := (B125.2.2.2.2.1.ext E136)
   have f143 := (B125.2.2.2.2.2.ext E136)
   obtain ⟨cq144, kq144, q144a, q144b, q144c⟩ := isOf hZ136 e136 f137
   obtain ⟨_, _, ⟨T144, L144, k144, n144⟩, -, X144, ⟨Lc144, hQ144, l144, y144, z144⟩, st144⟩ := X136.virtualBack hx (y := own_M28) (z := own_M28) hown136 (mvT hZ136 (w 95 rfl)) (mvT hZ136 (w 96 rfl)) (notFace_of_selects (args := #[]) (mvT hZ136 (w 98 rfl))) (mvT hZ136 (w 98 rfl)) (mvT hZ136 (w 97 rfl)) (by decide) (backOf (W := 0) (rm42 l Z a0 hw [] b90 nv125 kn125 (own_T96 w0 w1) 150 76 b136 bb136 kk136 own_K2 20 h136 n0 Z136 ge90 gn125 ne130 (by omega) (by omega) (Ne.symm nl136_b90.1) (Ne.symm nl136_b90.2) (Ne.symm nl136_nv125.1) (Ne.symm nl136_nv125.2) ⟨f137, f139, f140, f141, f142, f143⟩ ⟨A136, Cd136, Vl136, VK138⟩ rfl (own_d2c w0 w1) (by decide) G1 US O136 G3 rG3 Sf) hZ136 (w 99 rfl) (w 78 rfl) (by decide) (by decide)) q144a q144c (g := (mkF m 25 #[.val (.ref a1), .val (.ref a2)] [(.ref b136), (.ref b90)])) rfl (by rw [hml]; rfl) (Steps.refl _) (argsL := [(.ref b136)]) (rest := []) (lenOf pd29 rfl) rfl (by show 2 * 0 + _ ≤ _; exact Nat.le_of_eq rfl) (hb hby dp30m2_25) (fun _ _ => ⟨rfl, e136, (by decide : 8 + 0 ≤ _), (by decide : 704 + 0 ≤ _)⟩)
   dsimp only [Pt.U, Pt.locs, Pt.cells, Pt.slots] at X144 l144 y144 z144 st144 hQ144
   subst l144 y144 z144
   obtain ⟨rfl, Nq144, Kp144, B144⟩ := hQ144
   have N144 := Fr.app N125 Nq144
   have O144 := Old.keep O136 Kp144 (allS ge90 (allS gn125 all0))
   have Z144 : n0 ≤ T144.heap.size := Nat.le_trans Z136 Kp144.1
   have K144 : Keep h0 T144.heap [] := Keep.trans K136 Kp144 (allS (Or.inr sz90) (allS (Or.inr s0nv125) all0))
   have Wd144 := Wd136.keep Kp144 (allS (Safe.exa hZ136.alike f137 (by decide) (by decide)) (allS G136_nv125 all0))
   refine own_csR [(.ref b90)] 28 st144 ?_
   obtain ⟨cq145, kq145, q145a, q145b, q145c⟩ := isOf hZ136 rfl B144.1
   obtain ⟨_, _, ⟨T145, L145, k145, n145⟩, -, X145, ⟨Lc145, hQ145, l145, y145, z145⟩, st145⟩ := X144.virtualBack hx (y := own_M47) (z := own_M47) hown136 (mvT hZ136 (w 156 rfl)) (mvT hZ136 (w 157 rfl)) (notFace_of_selects (args := #[]) (mvT hZ136 (w 159 rfl))) (mvT hZ136 (w 159 rfl)) (mvT hZ136 (w 158 rfl)) (by decide) (backOf (W := 0) (rm76 l Z a0 hw [] b90 nv125 kn125 (own_T96 w0 w1) 150 96 T144.heap n0 Z144 ge90 gn125 ne130 (by omega) (by omega) B144 rfl (by decide) (by decide) (own_T96l hwq) G1 US O144) hZ136 (w 160 rfl) (w 78 rfl) (by decide) (by decide)) q145a q145c (g := (mkF m 28 #[.val (.ref a1), .val (.ref a2)] [(.ref b90)])) rfl (by rw [hml]; rfl) (Steps.refl _) (argsL := []) (rest := []) (lenOf pd30 rfl) rfl (by show 2 * 0 + _ ≤ _; exact Nat.le_of_eq rfl) (hb hby dp30m2_28) (fun _ _ => ⟨rfl, rfl, (by decide : 8 + 2 ≤ _), (by decide : 704 + 196 ≤ _)⟩)
   dsimp only [Pt.U, Pt.locs, Pt.cells, Pt.slots] at X145 l145 y145 z145 st145 hQ145
   subst l145 y145 z145
   obtain ⟨rs145, rfl, Nq145, Kp145, SS145⟩ := hQ145
   have N145 := Fr.app N144 Nq145
   have O145 := Old.keep O144 Kp145 all0
   have Z145 : n0 ≤ T145.heap.size := Nat.le_trans Z144 Kp145.1
   have K145 : Keep h0 T145.heap [] := Keep.trans K144 Kp145 all0
   have Wd145 := Wd144.keep Kp145 all0
   refine own_csR [(.ref rs145)] 31 st145 ?_
   have hTX : own_TX (own_ud cs) w0 w1 = own_T96 w0 w1 := (by unfold own_TX; rw [if_neg c52])
   exact own_retRW X145 hx hrt (hb hby dp30m2_31) rfl rfl hlk (by decide) (by decide) rfl Wd145 (⟨rs145, rfl, N145, K145, by rw [hTX]; exact SS145⟩)
 ·
  refine own_tp (.ref a1) 1 (fun _ q => XS.aloadN X0.here hx rfl (hb hby dp30m2_0) rfl rfl q) ?_
  obtain ⟨_, _, ⟨T146, L146, k146, n146⟩, -, X146, ⟨Lc146, hQ146, l146, y146, z146⟩, st146⟩ := Jvm.LawKit.callS X0 hx (y := own_M17) hown (mvT hZ (w 40 rfl)) (mvT hZ (w 41 rfl)) (mvT hZ (w 38 rfl)) (mvT hZ (w 42 rfl)) (by decide) (backOf (W := 0) (rm26 l Z a0 hw [] a1 cs h0 n0 hl hch G1 US O0 G3 rG3 Sf SN) hZ (w 42 rfl) (w 38 rfl) (by decide) (by decide)) (g := (mkF m 1 #[.val (.ref a1), .val (.ref a2)] [(.ref a1)])) rfl (by rw [hml]; rfl) (argsL := [(.ref a1)]) (rest := []) (lenOf pd28 rfl) rfl (by show 2 * 0 + _ ≤ _; exact Nat.le_of_eq rfl) (hb hby dp30m2_1) (fun _ _ => ⟨rfl, e0, (by decide : 0 + 0 ≤ _), (by decide : 0 + 0 ≤ _)⟩)
  dsimp only [Pt.U, Pt.locs, Pt.cells, Pt.slots] at X146 l146 y146 z146 st146 hQ146
  subst l146 y146 z146
  obtain ⟨rfl, Nq146, eq146⟩ := hQ146
  have N146 := Fr.app N0 Nq146
  refine own_t1 (.int (own_ud cs)) 4 st146 ?_
  by_cases c147 : (own_ud cs) = (0 : Int32)
  ·
   refine own_d1 32 (fun _ q => XS.ifYes X146.here hx rfl (pc0 := 4) (pc' := 32) rfl (hb hby dp30m2_4) rfl ((if0 _ _).trans (teq c147).1) (by decide) (by decide) q) ?_
   obtain ⟨T148, h148, X148, e148, E148, A148, D148, -, st148⟩ := newO X146 hx hZ hown (w 76 rfl) (w 77 rfl) (w 78 rfl) eq146 (g := (mkF m 32 #[.val (.ref a1), .val (.ref a2)] [])) rfl (hb hby dp30m2_32) (by decide) (by decide)
   obtain ⟨b148, g148⟩ : ∃ z, z = h0.size := ⟨_, rfl⟩
   rw [← g148] at A148 D148 st148
   have ge148 : n0 ≤ b148 := Nat.le_trans Z0 (Nat.le_of_eq g148.symm)
   have sz148 : h0.size ≤ b148 := Nat.le_trans (Keep.refl h0 []).1 (Nat.le_of_eq g148.symm)
   have ne149 : a1 ≠ b148 := Nat.ne_of_lt (Nat.lt_of_lt_of_le E1.lt (Nat.le_of_eq g148.symm))
   have ne150 : a2 ≠ b148 := Nat.ne_of_lt (Nat.lt_of_lt_of_le Eq_.lt (Nat.le_of_eq g148.symm))
   have ne151 : tq ≠ b148 := Nat.ne_of_lt (Nat.lt_of_lt_of_le Vq.lt (Nat.le_of_eq g148.symm))
   have O148 := Old.ext O0 E148
   have K148 : Keep h0 h148 [] := (Keep.refl h0 []).ext E148
   have Z148 : n0 ≤ h148.size := Nat.le_trans Z0 E148.1
   have Wd148 := Wd0.ext E148
   have Fvalue_148 : Fld Z h148 b148 "java/lang/AbstractStringBuilder" "value" "[B" .null := D148 (Or.inl (w 91 rfl)) (ty := (.array .byte)) (by decide)
   have Fcoder_148 : Fld Z h148 b148 "java/lang/AbstractStringBuilder" "coder" "B" (.int (0 : Int32)) := D148 (Or.inl (w 93 rfl)) (ty := .byte) (by decide)
   have Fcount_148 : Fld Z h148 b148 "java/lang/AbstractStringBuilder" "count" "I" (.int (0 : Int32)) := D148 (Or.inl (w 107 rfl)) (ty := .int) (by decide)
   have FmaybeLatin1_148 : Fld Z h148 b148 "java/lang/AbstractStringBuilder" "maybeLatin1" "Z" (.int (0 : Int32)) := D148 (Or.inl (w 272 rfl)) (ty := .boolean) (by decide)
   refine own_tp (.ref b148) 35 st148 ?_
   refine own_tp (.ref b148) 36 (fun _ q => XS.dup X148.here hx rfl (hb hby dp30m2_35) rfl rfl q) ?_
   obtain ⟨_, _, ⟨T152, L152, k152, n152⟩, -, X152, ⟨Lc152, hQ152, l152, y152, z152⟩, st152⟩ := X148.specialBack hx (y := own_M19) rfl hown (mvT hZ (w 79 rfl)) (mvT hZ (w 80 rfl)) (mvT hZ (w 81 rfl)) (by decide) (backOf (W := 1) (rm28 l Z a0 hw [] b148 (own_T19 w0 w1) h148 n0 Z148 ge148 A148 Fvalue_148 Fcoder_148 Fcount_148 FmaybeLatin1_148 G1 US O148) hZ (w 81 rfl) (w 78 rfl) (by decide) (by decide)) (g := (mkF m 36 #[.val (.ref a1), .val (.ref a2)] [(.ref b148), (.ref b148)])) rfl (by rw [hml]; rfl) (Steps.refl _) (a := b148) (argsL := []) (rest := [(.ref b148)]) (lenOf pd22 rfl) rfl (by show 2 * 0 + _ ≤ _; exact Nat.le_of_eq rfl) (hb hby dp30m2_36) (fun _ _ => ⟨rfl, e148, (by decide : 1 + 1 ≤ _), (by decide : 4 + 16 ≤ _)⟩)
   dsimp only [Pt.U, Pt.locs, Pt.cells, Pt.slots] at X152 l152 y152 z152 st152 hQ152
   subst l152 y152 z152
   obtain ⟨rfl, Nq152, Kp152, nv152, kn152, gn152, sn152, B152⟩ := hQ152
   have f154 := (E1.ext E148)
   have ne153 : a1 ≠ nv152 := Nat.ne_of_lt (Nat.lt_of_lt_of_le f154.lt sn152)
   have f156 := (Eq_.ext E148)
   have ne155 : a2 ≠ nv152 := Nat.ne_of_lt (Nat.lt_of_lt_of_le f156.lt sn152)
   have f158 := (Vq.ext E148)
   have ne157 : tq ≠ nv152 := Nat.ne_of_lt (Nat.lt_of_lt_of_le f158.lt sn152)
   have ne159 : b148 ≠ nv152 := Nat.ne_of_lt (Nat.lt_of_lt_of_le A148.lt sn152)
   have s0nv152 : h0.size ≤ nv152 := Nat.le_trans K148.1 sn152
   have N152 := Fr.app N146 Nq152
   have O152 := Old.keep O148 Kp152 (allS ge148 all0)
   have Z152 : n0 ≤ T152.heap.size := Nat.le_trans Z148 Kp152.1
   have K152 : Keep h0 T152.heap [] := Keep.trans K148 Kp152 (allS (Or.inr sz148) all0)
   have Wd152 := Wd148.keep Kp152 (allS (Safe.exa hZ.alike A148 (by decide) (by decide)) all0)
   have B152_ : own_B Z T152.heap b148 nv152 kn152 (0 : Int32) (Int32.ofNat 0) (Int32.ofNat 16) (own_A 16 (own_fL ((own_T19 w0 w1).take 0))) := by have q := B152; rw [own_repL] at q; exact q
   have G152 : Safe Z own_EL s.vm T152.heap nv152 := Safe.keep Kp152 (allS (Safe.exa hZ.alike A148 (by decide) (by decide)) all0) Wd148.chv (Safe.new sn152)
   refine own_csR [(.ref b148)] 39 st152 ?_
   obtain ⟨b160, T160, h160, bb160, kk160, X160, e160, E160, Wd160, ho160, A160, Cd160, Vl160, V160, Ch160, Sf160, st160⟩ := own_ldc X152 hx Wd152 hown (w 94 rfl) wS rfl (by simp [own_EL]) (vs := [(.int (116 : Int32)), (.int (104 : Int32)), (.int (101 : Int32)), (.int (114 : Int32)), (.int (101 : Int32)), (.int (32 : Int32)), (.int (105 : Int32)), (.int (115 : Int32)), (.int (32 : Int32)), (.int (110 : Int32)), (.int (111 : Int32)), (.int (32 : Int32)), (.int (115 : Int32)), (.int (117 : Int32)), (.int (99 : Int32)), (.int (104 : Int32)), (.int (32 : Int32))]) (z := (17 : Int32)) ⟨by decide, by decide⟩ (by decide) rfl (g := (mkF m 39 #[.val (.ref a1), .val (.ref a2)] [(.ref b148)])) rfl (hb hby dp30m2_39) (n := 68) (by decide) (by decide) (by decide) (by decide)
   have hZ160 : Z.Warmed39 (s.setVm T160.vm).vm := Wd160.hZ
   have hown160 : (s.setVm T160.vm).vm.findClass "com/example/kalends/kalends/FileNames" = some m.cls := ho160
   have O160 := Old.ext O152 E160
   have K160 : Keep h0 h160 [] := K152.ext E160
   have Z160 : n0 ≤ h160.size := Nat.le_trans Z152 E160.1
   have G160_nv152 := CHr.safe Ch160 B152_.2.2.2.2.2.lt G152
   have f161 := (B152_.1.ext E160)
   have nl160_b148 := Sf160 b148 (Safe.exa hZ160.alike f161 (by decide) (by decide))
   have nl160_nv152 := Sf160 nv152 G160_nv152
   refine own_tp (.ref b160) 41 st160 ?_
   have VK162 : Arv Z h160 bb160 kk160 .byte (17 : Int32) (own_lows own_K0) (.int (0 : Int32)) := by rw [← own_ascii own_K0 (fun c hc => (own_ask0 c hc).1)]; exact V160
   have f163 := (B152_.2.1.ext E160)
   have f164 := (B152_.2.2.1.ext E160)
   have f165 := (B152_.2.2.2.1.ext E160)
   have f166 := (B152_.2.2.2.2.1.ext E160)
   have f167 := (B152_.2.2.2.2.2.ext E160)
   obtain ⟨cq168, kq168, q168a, q168b, q168c⟩ := isOf hZ160 e160 f161
   obtain ⟨_, _, ⟨T168, L168, k168, n168⟩, -, X168, ⟨Lc168, hQ168, l168, y168, z168⟩, st168⟩ := X160.virtualBack hx (y := own_M28) (z := own_M28) hown160 (mvT hZ160 (w 95 rfl)) (mvT hZ160 (w 96 rfl)) (notFace_of_selects (args := #[]) (mvT hZ160 (w 98 rfl))) (mvT hZ160 (w 98 rfl)) (mvT hZ160 (w 97 rfl)) (by decide) (backOf (W := 0) (rm39 l Z a0 hw [] b148 nv152 kn152 (own_T19 w0 w1) 16 0 b160 bb160 kk160 own_K0 17 34 h160 n0 Z160 ge148 gn152 ne159 (by omega) (by omega) (Ne.symm nl160_b148.1) (Ne.symm nl160_b148.2) (Ne.symm nl160_nv152.1) (Ne.symm nl160_nv152.2) ⟨f161, f163, f164, f165, f166, f167⟩ ⟨A160, Cd160, Vl160, VK162⟩ rfl (own_d1a w0 w1) (by decide) (by decide) (by decide) (by decide) (by decide) G1 US O160 G3 rG3 Sf) hZ160 (w 99 rfl) (w 78 rfl) (by decide) (by decide)) q168a q168c (g := (mkF m 41 #[.val (.ref a1), .val (.ref a2)] [(.ref b160), (.ref b148)])) rfl (by rw [hml]; rfl) (Steps.refl _) (argsL := [(.ref b160)]) (rest := []) (lenOf pd29 rfl) rfl (by show 2 * 0 + _ ≤ _; exact Nat.le_of_eq rfl) (hb hby dp30m2_41) (fun _ _ => ⟨rfl, e160, (by decide : 4 + 1 ≤ _), (by decide : 92 + 150 ≤ _)⟩)
   dsimp only [Pt.U, Pt.locs, Pt.cells, Pt.slots] at X168 l168 y168 z168 st168 hQ168
   subst l168 y168 z168
   obtain ⟨rfl, Nq168, Kp168, nv168, kn168, gn168, sn168, B168⟩ := hQ168
   have f170 := ((f154.keep Kp152).ext E160)
   have ne169 : a1 ≠ nv168 := Nat.ne_of_lt (Nat.lt_of_lt_of_le f170.lt sn168)
   have f172 := ((f156.keep Kp152).ext E160)
   have ne171 : a2 ≠ nv168 := Nat.ne_of_lt (Nat.lt_of_lt_of_le f172.lt sn168)
   have f174 := ((f158.keep Kp152 (ninS ne151 nin0)).ext E160)
   have ne173 : tq ≠ nv168 := Nat.ne_of_lt (Nat.lt_of_lt_of_le f174.lt sn168)
   have ne175 : b148 ≠ nv168 := Nat.ne_of_lt (Nat.lt_of_lt_of_le f161.lt sn168)
   have ne176 : nv152 ≠ nv168 := Nat.ne_of_lt (Nat.lt_of_lt_of_le f167.lt sn168)
   have ne177 : b160 ≠ nv168 := Nat.ne_of_lt (Nat.lt_of_lt_of_le A160.lt sn168)
   have ne178 : bb160 ≠ nv168 := Nat.ne_of_lt (Nat.lt_of_lt_of_le VK162.lt sn168)
   have s0nv168 : h0.size ≤ nv168 := Nat.le_trans K160.1 sn168
   have N168 := Fr.app N152 Nq168
   have O168 := Old.keep O160 Kp168 (allS ge148 (allS gn152 all0))
   have Z168 : n0 ≤ T168.heap.size := Nat.le_trans Z160 Kp168.1
   have K168 : Keep h0 T168.heap [] := Keep.trans K160 Kp168 (allS (Or.inr sz148) (allS (Or.inr s0nv152) all0))
   have Wd168 := Wd160.keep Kp168 (allS (Safe.exa hZ160.alike f161 (by decide) (by decide)) (allS G160_nv152 all0))
   have G168 : Safe Z own_EL T160.vm T168.heap nv168 := Safe.keep Kp168 (allS (Safe.exa hZ160.alike f161 (by decide) (by decide)) (allS G160_nv152 all0)) Wd160.chv (Safe.new sn168)
   refine own_csR [(.ref b148)] 44 st168 ?_
   refine own_tp (.ref a2) 45 (fun _ q => XS.aloadN X168.here hx rfl (hb hby dp30m2_44) rfl rfl q) ?_
   have f179 := (f172.keep Kp168)
   have f180 := ((((Cq.ext E148).keep Kp152 (ninS ne150 nin0)).ext E160).keep Kp168 (ninS ne150 (ninS ne155 nin0)))
   have f181 := ((((Lq.ext E148).keep Kp152 (ninS ne150 nin0)).ext E160).keep Kp168 (ninS ne150 (ninS ne155 nin0)))
   have f182 := (f174.keep Kp168 (ninS ne151 (ninS ne157 nin0)))
   obtain ⟨cq183, kq183, q183a, q183b, q183c⟩ := isOf hZ160 rfl B168.1
   obtain ⟨_, _, ⟨T183, L183, k183, n183⟩, -, X183, ⟨Lc183, hQ183, l183, y183, z183⟩, st183⟩ := X168.virtualBack hx (y := own_M28) (z := own_M28) hown160 (mvT hZ160 (w 95 rfl)) (mvT hZ160 (w 96 rfl)) (notFace_of_selects (args := #[]) (mvT hZ160 (w 98 rfl))) (mvT hZ160 (w 98 rfl)) (mvT hZ160 (w 97 rfl)) (by decide) (backOf (W := 0) (rm57 l Z a0 hw [] b148 nv168 kn168 (own_T19 w0 w1) 34 17 a2 tq kq [w0, w1] 2 T168.heap n0 Z168 ge148 gn168 ne175 (by omega) (by omega) ne150 ne151 ne171 ne173 B168 ⟨f179, f180, f181, f182⟩ rfl (own_d1b w0 w1) (own_hK0 own_ask0 rfl (own_d1a w0 w1)) (by decide) G1 US O168 G3 rG3 Sf) hZ160 (w 99 rfl) (w 78 rfl) (by decide) (by decide)) q183a q183c (g := (mkF m 45 #[.val (.ref a1), .val (.ref a2)] [(.ref a2), (.ref b148)])) rfl (by rw [hml]; rfl) (Steps.refl _) (argsL := [(.ref a2)]) (rest := []) (lenOf pd29 rfl) rfl (by show 2 * 0 + _ ≤ _; exact Nat.le_of_eq rfl) (hb hby dp30m2_45) (fun _ _ => ⟨rfl, rfl, (by decide : 5 + 1 ≤ _), (by decide : 242 + 300 ≤ _)⟩)
   dsimp only [Pt.U, Pt.locs, Pt.cells, Pt.slots] at X183 l183 y183 z183 st183 hQ183
   subst l183 y183 z183
   obtain ⟨rfl, Nq183, Kp183, nv183, kn183, gn183, sn183, B183⟩ := hQ183
   have f185 := (f170.keep Kp168)
   have ne184 : a1 ≠ nv183 := Nat.ne_of_lt (Nat.lt_of_lt_of_le f185.lt sn183)
   have ne186 : a2 ≠ nv183 := Nat.ne_of_lt (Nat.lt_of_lt_of_le f179.lt sn183)
   have ne187 : tq ≠ nv183 := Nat.ne_of_lt (Nat.lt_of_lt_of_le f182.lt sn183)
   have ne188 : b148 ≠ nv183 := Nat.ne_of_lt (Nat.lt_of_lt_of_le B168.1.lt sn183)
   have f190 := (A160.keep Kp168)
   have ne189 : b160 ≠ nv183 := Nat.ne_of_lt (Nat.lt_of_lt_of_le f190.lt sn183)
   have f192 := (VK162.keep Kp168 (ninS (Ne.symm nl160_b148.2) (ninS (Ne.symm nl160_nv152.2) nin0)))
   have ne191 : bb160 ≠ nv183 := Nat.ne_of_lt (Nat.lt_of_lt_of_le f192.lt sn183)
   have ne193 : nv168 ≠ nv183 := Nat.ne_of_lt (Nat.lt_of_lt_of_le B168.2.2.2.2.2.lt sn183)
   have s0nv183 : h0.size ≤ nv183 := Nat.le_trans K168.1 sn183
   have N183 := Fr.app N168 Nq183
   have O183 := Old.keep O168 Kp183 (allS ge148 (allS gn168 all0))
   have Z183 : n0 ≤ T183.heap.size := Nat.le_trans Z168 Kp183.1
   have K183 : Keep h0 T183.heap [] := Keep.trans K168 Kp183 (allS (Or.inr sz148) (allS (Or.inr s0nv168) all0))
   have Wd183 := Wd168.keep Kp183 (allS (Safe.exa hZ160.alike B168.1 (by decide) (by decide)) (allS G168 all0))
   have G183 : Safe Z own_EL T160.vm T183.heap nv183 := Safe.keep Kp183 (allS (Safe.exa hZ160.alike B168.1 (by decide) (by decide)) (allS G168 all0)) Wd168.chv (Safe.new sn183)
   refine own_csR [(.ref b148)] 48 st183 ?_
   obtain ⟨cq194, kq194, q194a, q194b, q194c⟩ := isOf hZ160 rfl B183.1
   obtain ⟨_, _, ⟨T194, L194, k194, n194⟩, -, X194, ⟨Lc194, hQ194, l194, y194, z194⟩, st194⟩ := X183.virtualBack hx (y := own_M47) (z := own_M47) hown160 (mvT hZ160 (w 156 rfl)) (mvT hZ160 (w 157 rfl)) (notFace_of_selects (args := #[]) (mvT hZ160 (w 159 rfl))) (mvT hZ160 (w 159 rfl)) (mvT hZ160 (w 158 rfl)) (by decide) (backOf (W := 0) (rm84 l Z a0 hw [] b148 nv183 kn183 (own_T19 w0 w1) 34 19 T183.heap n0 Z183 ge148 gn183 ne188 (by omega) (by omega) B183 rfl (by decide) (by decide) (own_T19w hwq) G1 US O183) hZ160 (w 160 rfl) (w 78 rfl) (by decide) (by decide)) q194a q194c (g := (mkF m 48 #[.val (.ref a1), .val (.ref a2)] [(.ref b148)])) rfl (by rw [hml]; rfl) (Steps.refl _) (argsL := []) (rest := []) (lenOf pd30 rfl) rfl (by show 2 * 0 + _ ≤ _; exact Nat.le_of_eq rfl) (hb hby dp30m2_48) (fun _ _ => ⟨rfl, rfl, (by decide : 6 + 2 ≤ _), (by decide : 542 + 196 ≤ _)⟩)
   dsimp only [Pt.U, Pt.locs, Pt.cells, Pt.slots] at X194 l194 y194 z194 st194 hQ194
   subst l194 y194 z194
   obtain ⟨rs194, rfl, Nq194, Kp194, SS194⟩ := hQ194
   have N194 := Fr.app N183 Nq194
   have O194 := Old.keep O183 Kp194 all0
   have Z194 : n0 ≤ T194.heap.size := Nat.le_trans Z183 Kp194.1
   have K194 : Keep h0 T194.heap [] := Keep.trans K183 Kp194 all0
   have Wd194 := Wd183.keep Kp194 all0
   refine own_csR [(.ref rs194)] 51 st194 ?_
   have hTX : own_TX (own_ud cs) w0 w1 = own_T19 w0 w1 := (by unfold own_TX; rw [if_pos c147])
   exact own_retRW X194 hx hrt (hb hby dp30m2_51) rfl rfl hlk (by decide) (by decide) rfl Wd194 (⟨rs194, rfl, N194, K194, by rw [hTX]; exact SS194⟩)
  ·
   refine own_d1 7 (fun _ q => XS.ifNo X146.here hx rfl (hb hby dp30m2_4) rfl ((if0 _ _).trans (feq c147).1) q) ?_
   obtain ⟨T195, h195, X195, e195, E195, A195, D195, -, st195⟩ := newO X146 hx hZ hown (w 76 rfl) (w 77 rfl) (w 78 rfl) eq146 (g := (mkF m 7 #[.val (.ref a1), .val (.ref a2)] [])) rfl (hb hby dp30m2_7) (by decide) (by decide)
   obtain ⟨b195, g195⟩ : ∃ z, z = h0.size := ⟨_, rfl⟩
   rw [← g195] at A195 D195 st195
   have ge195 : n0 ≤ b195 := Nat.le_trans Z0 (Nat.le_of_eq g195.symm)
   have sz195 : h0.size ≤ b195 := Nat.le_trans (Keep.refl h0 []).1 (Nat.le_of_eq g195.symm)
   have ne196 : a1 ≠ b195 := Nat.ne_of_lt (Nat.lt_of_lt_of_le E1.lt (Nat.le_of_eq g195.symm))
   have ne197 : a2 ≠ b195 := Nat.ne_of_lt (Nat.lt_of_lt_of_le Eq_.lt (Nat.le_of_eq g195.symm))
   have ne198 : tq ≠ b195 := Nat.ne_of_lt (Nat.lt_of_lt_of_le Vq.lt (Nat.le_of_eq g195.symm))
   have O195 := Old.ext O0 E195
   have K195 : Keep h0 h195 [] := (Keep.refl h0 []).ext E195
   have Z195 : n0 ≤ h195.size := Nat.le_trans Z0 E195.1
   have Wd195 := Wd0.ext E195
   have Fvalue_195 : Fld Z h195 b195 "java/lang/AbstractStringBuilder" "value" "[B" .null := D195 (Or.inl (w 91 rfl)) (ty := (.array .byte)) (by decide)
   have Fcoder_195 : Fld Z h195 b195 "java/lang/AbstractStringBuilder" "coder" "B" (.int (0 : Int32)) := D195 (Or.inl (w 93 rfl)) (ty := .byte) (by decide)
   have Fcount_195 : Fld Z h195 b195 "java/lang/AbstractStringBuilder" "count" "I" (.int (0 : Int32)) := D195 (Or.inl (w 107 rfl)) (ty := .int) (by decide)
   have FmaybeLatin1_195 : Fld Z h195 b195 "java/lang/AbstractStringBuilder" "maybeLatin1" "Z" (.int (0 : Int32)) := D195 (Or.inl (w 272 rfl)) (ty := .boolean) (by decide)
   refine own_tp (.ref b195) 10 st195 ?_
   refine own_tp (.ref b195) 11 (fun _ q => XS.dup X195.here hx rfl (hb hby dp30m2_10) rfl rfl q) ?_
   obtain ⟨_, _, ⟨T199, L199, k199, n199⟩, -, X199, ⟨Lc199, hQ199, l199, y199, z199⟩, st199⟩ := X195.specialBack hx (y := own_M19) rfl hown (mvT hZ (w 79 rfl)) (mvT hZ (w 80 rfl)) (mvT hZ (w 81 rfl)) (by decide) (backOf (W := 1) (rm28 l Z a0 hw [] b195 (own_T96 w0 w1) h195 n0 Z195 ge195 A195 Fvalue_195 Fcoder_195 Fcount_195 FmaybeLatin1_195 G1 US O195) hZ (w 81 rfl) (w 78 rfl) (by decide) (by decide)) (g := (mkF m 11 #[.val (.ref a1), .val (.ref a2)] [(.ref b195), (.ref b195)])) rfl (by rw [hml]; rfl) (Steps.refl _) (a := b195) (argsL := []) (rest := [(.ref b195)]) (lenOf pd22 rfl) rfl (by show 2 * 0 + _ ≤ _; exact Nat.le_of_eq rfl) (hb hby dp30m2_11) (fun _ _ => ⟨rfl, e195, (by decide : 1 + 1 ≤ _), (by decide : 4 + 16 ≤ _)⟩)
   dsimp only [Pt.U, Pt.locs, Pt.cells, Pt.slots] at X199 l199 y199 z199 st199 hQ199
   subst l199 y199 z199
   obtain ⟨rfl, Nq199, Kp199, nv199, kn199, gn199, sn199, B199⟩ := hQ199
   have f201 := (E1.ext E195)
   have ne200 : a1 ≠ nv199 := Nat.ne_of_lt (Nat.lt_of_lt_of_le f201.lt sn199)
   have f203 := (Eq_.ext E195)
   have ne202 : a2 ≠ nv199 := Nat.ne_of_lt (Nat.lt_of_lt_of_le f203.lt sn199)
   have f205 := (Vq.ext E195)
   have ne204 : tq ≠ nv199 := Nat.ne_of_lt (Nat.lt_of_lt_of_le f205.lt sn199)
   have ne206 : b195 ≠ nv199 := Nat.ne_of_lt (Nat.lt_of_lt_of_le A195.lt sn199)
   have s0nv199 : h0.size ≤ nv199 := Nat.le_trans K195.1 sn199
   have N199 := Fr.app N146 Nq199
   have O199 := Old.keep O195 Kp199 (allS ge195 all0)
   have Z199 : n0 ≤ T199.heap.size := Nat.le_trans Z195 Kp199.1
   have K199 : Keep h0 T199.heap [] := Keep.trans K195 Kp199 (allS (Or.inr sz195) all0)
   have Wd199 := Wd195.keep Kp199 (allS (Safe.exa hZ.alike A195 (by decide) (by decide)) all0)
   have B199_ : own_B Z T199.heap b195 nv199 kn199 (0 : Int32) (Int32.ofNat 0) (Int32.ofNat 16) (own_A 16 (own_fL ((own_T96 w0 w1).take 0))) := by have q := B199; rw [own_repL] at q; exact q
   have G199 : Safe Z own_EL s.vm T199.heap nv199 := Safe.keep Kp199 (allS (Safe.exa hZ.alike A195 (by decide) (by decide)) all0) Wd195.chv (Safe.new sn199)
   refine own_csR [(.ref b195)] 14 st199 ?_
   obtain ⟨b207, T207, h207, bb207, kk207, X207, e207, E207, Wd207, ho207, A207, Cd207, Vl207, V207, Ch207, Sf207, st207⟩ := own_ldc X199 hx Wd199 hown (w 273 rfl) wS rfl (by simp [own_EL]) (vs := [(.int (105 : Int32)), (.int (116 : Int32)), (.int (115 : Int32)), (.int (32 : Int32)), (.int (110 : Int32)), (.int (97 : Int32)), (.int (109 : Int32)), (.int (101 : Int32)), (.int (32 : Int32)), (.int (104 : Int32)), (.int (111 : Int32)), (.int (108 : Int32)), (.int (100 : Int32)), (.int (115 : Int32)), (.int (32 : Int32)), (.int (98 : Int32)), (.int (121 : Int32)), (.int (116 : Int32)), (.int (101 : Int32)), (.int (115 : Int32)), (.int (32 : Int32)), (.int (116 : Int32)), (.int (104 : Int32)), (.int (97 : Int32)), (.int (116 : Int32)), (.int (32 : Int32)), (.int (116 : Int32)), (.int (104 : Int32)), (.int (101 : Int32)), (.int (32 : Int32)), (.int (108 : Int32)), (.int (111 : Int32)), (.int (99 : Int32)), (.int (97 : Int32)), (.int (108 : Int32)), (.int (101 : Int32)), (.int (39 : Int32)), (.int (115 : Int32)), (.int (32 : Int32)), (.int (99 : Int32)), (.int (104 : Int32)), (.int (97 : Int32)), (.int (114 : Int32)), (.int (97 : Int32)), (.int (99 : Int32)), (.int (116 : Int32)), (.int (101 : Int32)), (.int (114 : Int32)), (.int (32 : Int32)), (.int (115 : Int32)), (.int (101 : Int32)), (.int (116 : Int32)), (.int (32 : Int32)), (.int (99 : Int32)), (.int (97 : Int32)), (.int (110 : Int32)), (.int (110 : Int32)), (.int (111 : Int32)), (.int (116 : Int32)), (.int (32 : Int32)), (.int (100 : Int32)), (.int (101 : Int32)), (.int (99 : Int32)), (.int (111 : Int32)), (.int (100 : Int32)), (.int (101 : Int32)), (.int (44 : Int32)), (.int (32 : Int32)), (.int (115 : Int32)), (.int (111 : Int32)), (.int (32 : Int32)), (.int (110 : Int32)), (.int (111 : Int32)), (.int (32 : Int32))]) (z := (74 : Int32)) ⟨by decide, by decide⟩ (by decide) rfl (g := (mkF m 14 #[.val (.ref a1), .val (.ref a2)] [(.ref b195)])) rfl (hb hby dp30m2_14) (n := 296) (by decide) (by decide) (by decide) (by decide)
   have hZ207 : Z.Warmed39 (s.setVm T207.vm).vm := Wd207.hZ
   have hown207 : (s.setVm T207.vm).vm.findClass "com/example/kalends/kalends/FileNames" = some m.cls := ho207
   have O207 := Old.ext O199 E207
   have K207 : Keep h0 h207 [] := K199.ext E207
   have Z207 : n0 ≤ h207.size := Nat.le_trans Z199 E207.1
   have G207_nv199 := CHr.safe Ch207 B199_.2.2.2.2.2.lt G199
   have f208 := (B199_.1.ext E207)
   have nl207_b195 := Sf207 b195 (Safe.exa hZ207.alike f208 (by decide) (by decide))
   have nl207_nv199 := Sf207 nv199 G207_nv199
   refine own_tp (.ref b207) 16 st207 ?_
   have VK209 : Arv Z h207 bb207 kk207 .byte (74 : Int32) (own_lows own_K1) (.int (0 : Int32)) := by rw [← own_ascii own_K1 (fun c hc => (own_ask1 c hc).1)]; exact V207
   have f210 := (B199_.2.1.ext E207)
   have f211 := (B199_.2.2.1.ext E207)
   have f212 := (B199_.2.2.2.1.ext E207)
   have f213 := (B199_.2.2.2.2.1.ext E207)
   have f214 := (B199_.2.2.2.2.2.ext E207)
   obtain ⟨cq215, kq215, q215a, q215b, q215c⟩ := isOf hZ207 e207 f208
   obtain ⟨_, _, ⟨T215, L215, k215, n215⟩, -, X215, ⟨Lc215, hQ215, l215, y215, z215⟩, st215⟩ := X207.virtualBack hx (y := own_M28) (z := own_M28) hown207 (mvT hZ207 (w 95 rfl)) (mvT hZ207 (w 96 rfl)) (notFace_of_selects (args := #[]) (mvT hZ207 (w 98 rfl))) (mvT hZ207 (w 98 rfl)) (mvT hZ207 (w 97 rfl)) (by decide) (backOf (W := 0) (rm39 l Z a0 hw [] b195 nv199 kn199 (own_T96 w0 w1) 16 0 b207 bb207 kk207 own_K1 74 74 h207 n0 Z207 ge195 gn199 ne206 (by omega) (by omega) (Ne.symm nl207_b195.1) (Ne.symm nl207_b195.2) (Ne.symm nl207_nv199.1) (Ne.symm nl207_nv199.2) ⟨f208, f210, f211, f212, f213, f214⟩ ⟨A207, Cd207, Vl207, VK209⟩ rfl (own_d2a w0 w1) (by decide) (by decide) (by decide) (by decide) (by decide) G1 US O207 G3 rG3 Sf) hZ207 (w 99 rfl) (w 78 rfl) (by decide) (by decide)) q215a q215c (g := (mkF m 16 #[.val (.ref a1), .val (.ref a2)] [(.ref b207), (.ref b195)])) rfl (by rw [hml]; rfl) (Steps.refl _) (argsL := [(.ref b207)]) (rest := []) (lenOf pd29 rfl) rfl (by show 2 * 0 + _ ≤ _; exact Nat.le_of_eq rfl) (hb hby dp30m2_16) (fun _ _ => ⟨rfl, e207, (by decide : 4 + 1 ≤ _), (by decide : 320 + 150 ≤ _)⟩)
   dsimp only [Pt.U, Pt.locs, Pt.cells, Pt.slots] at X215 l215 y215 z215 st215 hQ215
   subst l215 y215 z215
   obtain ⟨rfl, Nq215, Kp215, nv215, kn215, gn215, sn215, B215⟩ := hQ215
   have f217 := ((f201.keep Kp199).ext E207)
   have ne216 : a1 ≠ nv215 := Nat.ne_of_lt (Nat.lt_of_lt_of_le f217.lt sn215)
   have f219 := ((f203.keep Kp199).ext E207)
   have ne218 : a2 ≠ nv215 := Nat.ne_of_lt (Nat.lt_of_lt_of_le f219.lt sn215)
   have f221 := ((f205.keep Kp199 (ninS ne198 nin0)).ext E207)
   have ne220 : tq ≠ nv215 := Nat.ne_of_lt (Nat.lt_of_lt_of_le f221.lt sn215)
   have ne222 : b195 ≠ nv215 := Nat.ne_of_lt (Nat.lt_of_lt_of_le f208.lt sn215)
   have ne223 : nv199 ≠ nv215 := Nat.ne_of_lt (Nat.lt_of_lt_of_le f214.lt sn215)
   have ne224 : b207 ≠ nv215 := Nat.ne_of_lt (Nat.lt_of_lt_of_le A207.lt sn215)
   have ne225 : bb207 ≠ nv215 := Nat.ne_of_lt (Nat.lt_of_lt_of_le VK209.lt sn215)
   have s0nv215 : h0.size ≤ nv215 := Nat.le_trans K207.1 sn215
   have N215 := Fr.app N199 Nq215
   have O215 := Old.keep O207 Kp215 (allS ge195 (allS gn199 all0))
   have Z215 : n0 ≤ T215.heap.size := Nat.le_trans Z207 Kp215.1
   have K215 : Keep h0 T215.heap [] := Keep.trans K207 Kp215 (allS (Or.inr sz195) (allS (Or.inr s0nv199) all0))
   have Wd215 := Wd207.keep Kp215 (allS (Safe.exa hZ207.alike f208 (by decide) (by decide)) (allS G207_nv199 all0))
   have G215 : Safe Z own_EL T207.vm T215.heap nv215 := Safe.keep Kp215 (allS (Safe.exa hZ207.alike f208 (by decide) (by decide)) (allS G207_nv199 all0)) Wd207.chv (Safe.new sn215)
   refine own_csR [(.ref b195)] 19 st215 ?_
   refine own_tp (.ref a2) 20 (fun _ q => XS.aloadN X215.here hx rfl (hb hby dp30m2_19) rfl rfl q) ?_
   have f226 := (f219.keep Kp215)
   have f227 := ((((Cq.ext E195).keep Kp199 (ninS ne197 nin0)).ext E207).keep Kp215 (ninS ne197 (ninS ne202 nin0)))
   have f228 := ((((Lq.ext E195).keep Kp199 (ninS ne197 nin0)).ext E207).keep Kp215 (ninS ne197 (ninS ne202 nin0)))
   have f229 := (f221.keep Kp215 (ninS ne198 (ninS ne204 nin0)))
   obtain ⟨cq230, kq230, q230a, q230b, q230c⟩ := isOf hZ207 rfl B215.1
   obtain ⟨_, _, ⟨T230, L230, k230, n230⟩, -, X230, ⟨Lc230, hQ230, l230, y230, z230⟩, st230⟩ := X215.virtualBack hx (y := own_M28) (z := own_M28) hown207 (mvT hZ207 (w 95 rfl)) (mvT hZ207 (w 96 rfl)) (notFace_of_selects (args := #[]) (mvT hZ207 (w 98 rfl))) (mvT hZ207 (w 98 rfl)) (mvT hZ207 (w 97 rfl)) (by decide) (backOf (W := 0) (rm59 l Z a0 hw [] b195 nv215 kn215 (own_T96 w0 w1) 74 74 a2 tq kq [w0, w1] 2 150 T215.heap n0 Z215 ge195 gn215 ne222 (by omega) (by omega) ne197 ne198 ne218 ne220 B215 ⟨f226, f227, f228, f229⟩ rfl (own_d2b w0 w1) (own_hK0 own_ask1 rfl (own_d2a w0 w1)) (by decide) (by decide) (by decide) (by decide) (by decide) G1 US O215 G3 rG3 Sf) hZ207 (w 99 rfl) (w 78 rfl) (by decide) (by decide)) q230a q230c (g := (mkF m 20 #[.val (.ref a1), .val (.ref a2)] [(.ref a2), (.ref b195)])) rfl (by rw [hml]; rfl) (Steps.refl _) (argsL := [(.ref a2)]) (rest := []) (lenOf pd29 rfl) rfl (by show 2 * 0 + _ ≤ _; exact Nat.le_of_eq rfl) (hb hby dp30m2_20) (fun _ _ => ⟨rfl, rfl, (by decide : 5 + 2 ≤ _), (by decide : 470 + 450 ≤ _)⟩)
   dsimp only [Pt.U, Pt.locs, Pt.cells, Pt.slots] at X230 l230 y230 z230 st230 hQ230
   subst l230 y230 z230
   obtain ⟨rfl, Nq230, Kp230, nv230, kn230, gn230, sn230, B230⟩ := hQ230
   have f232 := (f217.keep Kp215)
   have ne231 : a1 ≠ nv230 := Nat.ne_of_lt (Nat.lt_of_lt_of_le f232.lt sn230)
   have ne233 : a2 ≠ nv230 := Nat.ne_of_lt (Nat.lt_of_lt_of_le f226.lt sn230)
   have ne234 : tq ≠ nv230 := Nat.ne_of_lt (Nat.lt_of_lt_of_le f229.lt sn230)
   have ne235 : b195 ≠ nv230 := Nat.ne_of_lt (Nat.lt_of_lt_of_le B215.1.lt sn230)
   have f237 := (A207.keep Kp215)
   have ne236 : b207 ≠ nv230 := Nat.ne_of_lt (Nat.lt_of_lt_of_le f237.lt sn230)
   have f239 := (VK209.keep Kp215 (ninS (Ne.symm nl207_b195.2) (ninS (Ne.symm nl207_nv199.2) nin0)))
   have ne238 : bb207 ≠ nv230 := Nat.ne_of_lt (Nat.lt_of_lt_of_le f239.lt sn230)
   have ne240 : nv215 ≠ nv230 := Nat.ne_of_lt (Nat.lt_of_lt_of_le B215.2.2.2.2.2.lt sn230)
   have s0nv230 : h0.size ≤ nv230 := Nat.le_trans K215.1 sn230
   have N230 := Fr.app N215 Nq230
   have O230 := Old.keep O215 Kp230 (allS ge195 (allS gn215 all0))
   have Z230 : n0 ≤ T230.heap.size := Nat.le_trans Z215 Kp230.1
   have K230 : Keep h0 T230.heap [] := Keep.trans K215 Kp230 (allS (Or.inr sz195) (allS (Or.inr s0nv215) all0))
   have Wd230 := Wd215.keep Kp230 (allS (Safe.exa hZ207.alike B215.1 (by decide) (by decide)) (allS G215 all0))
   have G230 : Safe Z own_EL T207.vm T230.heap nv230 := Safe.keep Kp230 (allS (Safe.exa hZ207.alike B215.1 (by decide) (by decide)) (allS G215 all0)) Wd215.chv (Safe.new sn230)
   refine own_csR [(.ref b195)] 23 st230 ?_
   obtain ⟨b241, T241, h241, bb241, kk241, X241, e241, E241, Wd241, ho241, A241, Cd241, Vl241, V241, Ch241, Sf241, st241⟩ := own_ldc X230 hx Wd230 hown207 (w 274 rfl) wS rfl (by simp [own_EL]) (vs := [(.int (32 : Int32)), (.int (99 : Int32)), (.int (97 : Int32)), (.int (110 : Int32)), (.int (32 : Int32)), (.int (98 : Int32)), (.int (101 : Int32)), (.int (32 : Int32)), (.int (111 : Int32)), (.int (112 : Int32)), (.int (101 : Int32)), (.int (110 : Int32)), (.int (101 : Int32)), (.int (100 : Int32)), (.int (32 : Int32)), (.int (98 : Int32)), (.int (121 : Int32)), (.int (32 : Int32)), (.int (105 : Int32)), (.int (116 : Int32))]) (z := (20 : Int32)) ⟨by decide, by decide⟩ (by decide) rfl (g := (mkF m 23 #[.val (.ref a1), .val (.ref a2)] [(.ref b195)])) rfl (hb hby dp30m2_23) (n := 80) (by decide) (by decide) (by decide) (by decide)
   have hZ241 : Z.Warmed39 (s.setVm T241.vm).vm := Wd241.hZ
   have hown241 : (s.setVm T241.vm).vm.findClass "com/example/kalends/kalends/FileNames" = some m.cls := ho241
   have O241 := Old.ext O230 E241
   have K241 : Keep h0 h241 [] := K230.ext E241
   have Z241 : n0 ≤ h241.size := Nat.le_trans Z230 E241.1
   have G241_nv230 := CHr.safe Ch241 B230.2.2.2.2.2.lt G230
   have f242 := (B230.1.ext E241)
   have nl241_b195 := Sf241 b195 (Safe.exa hZ241.alike f242 (by decide) (by decide))
   have nl241_nv230 := Sf241 nv230 G241_nv230
   refine own_tp (.ref b241) 25 st241 ?_
   have VK243 : Arv Z h241 bb241 kk241 .byte (20 : Int32) (own_lows own_K2) (.int (0 : Int32)) := by rw [← own_ascii own_K2 (fun c hc => (own_ask2 c hc).1)]; exact V241
   have f244 := (B230.2.1.ext E241)
   have f245 := (B230.2.2.1.ext E241)
   have f246 := (B230.2.2.2.1.ext E241)
   have f247 := (B230.2.2.2.2.1.ext E241)
   have f248 := (B230.2.2.2.2.2.ext E241)
   obtain ⟨cq249, kq249, q249a, q249b, q249c⟩ := isOf hZ241 e241 f242
   obtain ⟨_, _, ⟨T249, L249, k249, n249⟩, -, X249, ⟨Lc249, hQ249, l249, y249, z249⟩, st249⟩ := X241.virtualBack hx (y := own_M28) (z := own_M28) hown241 (mvT hZ241 (w 95 rfl)) (mvT hZ241 (w 96 rfl)) (notFace_of_selects (args := #[]) (mvT hZ241 (w 98 rfl))) (mvT hZ241 (w 98 rfl)) (mvT hZ241 (w 97 rfl)) (by decide) (backOf (W := 0) (rm67 l Z a0 hw [] b195 nv230 kn230 (own_T96 w0 w1) 150 76 b241 bb241 kk241 own_K2 20 h241 n0 Z241 ge195 gn230 ne235 (by omega) (by omega) (Ne.symm nl241_b195.1) (Ne.symm nl241_b195.2) (Ne.symm nl241_nv230.1) (Ne.symm nl241_nv230.2) ⟨f242, f244, f245, f246, f247, f248⟩ ⟨A241, Cd241, Vl241, VK243⟩ rfl (own_d2c w0 w1) (own_hK own_ask2 rfl (own_d2c w0 w1)) (by decide) G1 US O241 G3 rG3 Sf) hZ241 (w 99 rfl) (w 78 rfl) (by decide) (by decide)) q249a q249c (g := (mkF m 25 #[.val (.ref a1), .val (.ref a2)] [(.ref b241), (.ref b195)])) rfl (by rw [hml]; rfl) (Steps.refl _) (argsL := [(.ref b241)]) (rest := []) (lenOf pd29 rfl) rfl (by show 2 * 0 + _ ≤ _; exact Nat.le_of_eq rfl) (hb hby dp30m2_25) (fun _ _ => ⟨rfl, e241, (by decide : 9 + 0 ≤ _), (by decide : 1004 + 0 ≤ _)⟩)
   dsimp only [Pt.U, Pt.locs, Pt.cells, Pt.slots] at X249 l249 y249 z249 st249 hQ249
   subst l249 y249 z249
   obtain ⟨rfl, Nq249, Kp249, B249⟩ := hQ249
   have N249 := Fr.app N230 Nq249
   have O249 := Old.keep O241 Kp249 (allS ge195 (allS gn230 all0))
   have Z249 : n0 ≤ T249.heap.size := Nat.le_trans Z241 Kp249.1
   have K249 : Keep h0 T249.heap [] := Keep.trans K241 Kp249 (allS (Or.inr sz195) (allS (Or.inr s0nv230) all0))
   have Wd249 := Wd241.keep Kp249 (allS (Safe.exa hZ241.alike f242 (by decide) (by decide)) (allS G241_nv230 all0))
   refine own_csR [(.ref b195)] 28 st249 ?_
   obtain ⟨cq250, kq250, q250a, q250b, q250c⟩ := isOf hZ241 rfl B249.1
   obtain ⟨_, _, ⟨T250, L250, k250, n250⟩, -, X250, ⟨Lc250, hQ250, l250, y250, z250⟩, st250⟩ := X249.virtualBack hx (y := own_M47) (z := own_M47) hown241 (mvT hZ241 (w 156 rfl)) (mvT hZ241 (w 157 rfl)) (notFace_of_selects (args := #[]) (mvT hZ241 (w 159 rfl))) (mvT hZ241 (w 159 rfl)) (mvT hZ241 (w 158 rfl)) (by decide) (backOf (W := 0) (rm84 l Z a0 hw [] b195 nv230 kn230 (own_T96 w0 w1) 150 96 T249.heap n0 Z249 ge195 gn230 ne235 (by omega) (by omega) B249 rfl (by decide) (by decide) (own_T96w hwq) G1 US O249) hZ241 (w 160 rfl) (w 78 rfl) (by decide) (by decide)) q250a q250c (g := (mkF m 28 #[.val (.ref a1), .val (.ref a2)] [(.ref b195)])) rfl (by rw [hml]; rfl) (Steps.refl _) (argsL := []) (rest := []) (lenOf pd30 rfl) rfl (by show 2 * 0 + _ ≤ _; exact Nat.le_of_eq rfl) (hb hby dp30m2_28) (fun _ _ => ⟨rfl, rfl, (by decide : 9 + 2 ≤ _), (by decide : 1004 + 196 ≤ _)⟩)
   dsimp only [Pt.U, Pt.locs, Pt.cells, Pt.slots] at X250 l250 y250 z250 st250 hQ250
   subst l250 y250 z250
   obtain ⟨rs250, rfl, Nq250, Kp250, SS250⟩ := hQ250
   have N250 := Fr.app N249 Nq250
   have O250 := Old.keep O249 Kp250 all0
   have Z250 : n0 ≤ T250.heap.size := Nat.le_trans Z249 Kp250.1
   have K250 : Keep h0 T250.heap [] := Keep.trans K249 Kp250 all0
   have Wd250 := Wd249.keep Kp250 all0
   refine own_csR [(.ref rs250)] 31 st250 ?_
   have hTX : own_TX (own_ud cs) w0 w1 = own_T96 w0 w1 := (by unfold own_TX; rw [if_neg c147])
   exact own_retRW X250 hx hrt (hb hby dp30m2_31) rfl rfl hlk (by decide) (by decide) rfl Wd250 (⟨rs250, rfl, N250, K250, by rw [hTX]; exact SS250⟩)

theorem own_ltb {i n : Nat} (hn : n ≤ 4000) (hi : i ≤ n) : Int32.ofNat i < Int32.ofNat n ↔ i < n := by
  rw [Int32.lt_iff_toInt_lt, Int32.toInt_ofNat_small (by omega), Int32.toInt_ofNat_small (by omega)]
  omega

def Q86  (h0 : Heap) (n0 : Nat) (v : Option Value) (h : Heap) (L : List Loc) : Prop := v = some (.int (1 : Int32)) ∧ Fr n0 L ∧ h = h0

theorem rm86 (l : Launch) (Z : State) (a0 : Array Value) (hw : own_HW a0 Z) (ws : List Jvm.Cond) (b1 b2 : Addr) (k1 k2 : ClassId) (nn : Nat) (vs : List Value) (h0 : Heap) (n0 : Nat) (hn : nn ≤ 4000) (V1 : Arv Z h0 b1 k1 .byte (Int32.ofNat nn) vs (.int (0 : Int32))) (V2 : Arv Z h0 b2 k2 .byte (Int32.ofNat nn) vs (.int (0 : Int32))) :
  own_Met l own_M49 jdk_43_method_13_code 3 (some .boolean) ws own_R_0_0_0_0 Z #[(.ref b1), (.ref b2)] h0 (Q86 h0 n0) := by
 refine own_enter #[.val (.ref b1), .val (.ref b2), .unset] (plainFor_of_name pn_java_lang_StringLatin1) (fun m => ef_RR_3 m b1 b2) ?_
 intro p e s m below meth c s₁ hx hby hml hown hnm hZ hrt hlk X0 e0
 have w := @own_w _ _ hw
 have N0 := Fr.nil n0
 refine own_tp (.ref b1) 1 (fun _ q => XS.aloadN X0.here hx rfl (hb hby dj43m13_0) rfl rfl q) ?_
 obtain ⟨cl51, Ar51, -, Sz51, Nn51, -, -⟩ := (id V1)
 refine own_t1 (.int (Int32.ofNat nn)) 2 (fun t q => X0.arraylength hx (by rw [e0]; exact Ar51.1) (State.isArrayOf_alike hZ.alike Ar51.2.1) (g := (mkF m 1 #[.val (.ref b1), .val (.ref b2), .unset] [(.ref b1)])) rfl rfl (hb hby dj43m13_1) _ (by rw [len_of Sz51 Nn51]; exact q)) ?_
 refine own_tp (.ref b2) 3 (fun _ q => XS.aloadN X0.here hx rfl (hb hby dj43m13_2) rfl rfl q) ?_
 obtain ⟨cl52, Ar52, -, Sz52, Nn52, -, -⟩ := (id V2)
 refine own_t1 (.int (Int32.ofNat nn)) 4 (fun t q => X0.arraylength hx (by rw [e0]; exact Ar52.1) (State.isArrayOf_alike hZ.alike Ar52.2.1) (g := (mkF m 3 #[.val (.ref b1), .val (.ref b2), .unset] [(.ref b2), (.int (Int32.ofNat nn))])) rfl rfl (hb hby dj43m13_3) _ (by rw [len_of Sz52 Nn52]; exact q)) ?_
 refine own_d2 7 (fun _ q => XS.icmpNo X0.here hx rfl (hb hby dj43m13_4) rfl (teq rfl).2 q) ?_
 refine own_tp (.int (0 : Int32)) 8 (fun _ q => XS.iconst X0.here hx rfl (hb hby dj43m13_7) q) ?_
 refine own_ls #[.val (.ref b1), .val (.ref b2), .val (.int (0 : Int32))] 9 (fun _ q => XS.istoreN X0.here hx rfl (hb hby dj43m13_8) rfl (l' := #[.val (.ref b1), .val (.ref b2), .val (.int (0 : Int32))]) rfl q) ?_
 have loop : ∀ (r i : Nat) (Tj : State) (lj : List Loc), i + r = nn → Stand p l e own_R_0_0_0_0 s m #[(.ref b1), (.ref b2)] below meth c Tj lj 0 0 → Fr n0 lj → Tj.heap = h0 → own_Goes p e below (own_FN s (Q86 h0 n0) own_R_0_0_0_0.cells own_R_0_0_0_0.slots) (Tj.setTop (mkF m 9 #[.val (.ref b1), .val (.ref b2), .val (.int (Int32.ofNat i))] [])) := by
  intro r
  induction r with
  | zero =>
   intro i Tj lj hi Xj Nj ej
   have hlt : ¬ ((Int32.ofNat i) < (Int32.ofNat nn)) := fun q => by have := (own_ltb hn (by omega)).mp q; omega
   refine own_tp (.int (Int32.ofNat i)) 10 (fun _ q => XS.iloadN Xj.here hx rfl (hb hby dj43m13_9) rfl q) ?_
   refine own_tp (.ref b1) 11 (fun _ q => XS.aloadN Xj.here hx rfl (hb hby dj43m13_10) rfl rfl q) ?_
   obtain ⟨cl53, Ar53, -, Sz53, Nn53, -, -⟩ := (id V1)
   refine own_t1 (.int (Int32.ofNat nn)) 12 (fun t q => Xj.arraylength hx (by rw [ej]; exact Ar53.1) (State.isArrayOf_alike hZ.alike Ar53.2.1) (g := (mkF m 11 #[.val (.ref b1), .val (.ref b2), .val (.int (Int32.ofNat i))] [(.ref b1), (.int (Int32.ofNat i))])) rfl rfl (hb hby dj43m13_11) _ (by rw [len_of Sz53 Nn53]; exact q)) ?_
   refine own_d2 32 (fun _ q => XS.icmpYes Xj.here hx rfl (pc0 := 12) (pc' := 32) rfl (hb hby dj43m13_12) rfl (flt hlt).2.1 (by decide) (by decide) q) ?_
   refine own_tp (.int (1 : Int32)) 33 (fun _ q => XS.iconst Xj.here hx rfl (hb hby dj43m13_32) q) ?_
   exact own_retN (t := .boolean) Xj hx hrt (hb hby dj43m13_33) (by simp) hlk (by decide) (by decide) ej (⟨rfl, Nj, rfl⟩)
  | succ r ih =>
   intro i Tj lj hi Xj Nj ej
   have hlt : (Int32.ofNat i) < (Int32.ofNat nn) := (own_ltb hn (by omega)).mpr (by omega)
   obtain ⟨xi, hxi⟩ := own_intAt V1 (i := i) (by rw [(own_ofn (by omega)).2]; omega)
   refine own_tp (.int (Int32.ofNat i)) 10 (fun _ q => XS.iloadN Xj.here hx rfl (hb hby dj43m13_9) rfl q) ?_
   refine own_tp (.ref b1) 11 (fun _ q => XS.aloadN Xj.here hx rfl (hb hby dj43m13_10) rfl rfl q) ?_
   obtain ⟨cl54, Ar54, -, Sz54, Nn54, -, -⟩ := (id V1)
   refine own_t1 (.int (Int32.ofNat nn)) 12 (fun t q => Xj.arraylength hx (by rw [ej]; exact Ar54.1) (State.isArrayOf_alike hZ.alike Ar54.2.1) (g := (mkF m 11 #[.val (.ref b1), .val (.ref b2), .val (.int (Int32.ofNat i))] [(.ref b1), (.int (Int32.ofNat i))])) rfl rfl (hb hby dj43m13_11) _ (by rw [len_of Sz54 Nn54]; exact q)) ?_
   refine own_d2 15 (fun _ q => XS.icmpNo Xj.here hx rfl (hb hby dj43m13_12) rfl (tlt hlt).2.1 q) ?_
   refine own_tp (.ref b1) 16 (fun _ q => XS.aloadN Xj.here hx rfl (hb hby dj43m13_15) rfl rfl q) ?_
   refine own_tp (.int (Int32.ofNat i)) 17 (fun _ q => XS.iloadN Xj.here hx rfl (hb hby dj43m13_16) rfl q) ?_
   obtain ⟨cl55, Ar55, q55, S55, Nn55, H55, G55⟩ := (id V1)
   have hin55 : ¬ ((Int32.ofNat i) < 0 ∨ cl55.slots.size ≤ ((Int32.ofNat i)).toNatClampNeg) := inb_of S55 (own_inb (by omega) (by omega))
   have hat55 : cl55.slots[((Int32.ofNat i)).toNatClampNeg]? = some (.int xi) := H55.at hin55 (by rw [(own_ofn (by omega)).2]; exact hxi)
   refine own_t2 (.int xi) 18 (fun _ q => Xj.baloadBytes hx (j := (Int32.ofNat i)) (v := (.int xi)) (by rw [ej]; exact Ar55.1) (State.isArrayOf_alike hZ.alike Ar55.2.1) Ar55.2.2 hin55 hat55 (g := (mkF m 17 #[.val (.ref b1), .val (.ref b2), .val (.int (Int32.ofNat i))] [(.int (Int32.ofNat i)), (.ref b1)])) rfl rfl (hb hby dj43m13_17) _ q) ?_
   refine own_tp (.ref b2) 19 (fun _ q => XS.aloadN Xj.here hx rfl (hb hby dj43m13_18) rfl rfl q) ?_
   refine own_tp (.int (Int32.ofNat i)) 20 (fun _ q => XS.iloadN Xj.here hx rfl (hb hby dj43m13_19) rfl q) ?_
   obtain ⟨cl56, Ar56, q56, S56, Nn56, H56, G56⟩ := (id V2)
   have hin56 : ¬ ((Int32.ofNat i) < 0 ∨ cl56.slots.size ≤ ((Int32.ofNat i)).toNatClampNeg) := inb_of S56 (own_inb (by omega) (by omega))
   have hat56 : cl56.slots[((Int32.ofNat i)).toNatClampNeg]? = some (.int xi) := H56.at hin56 (by rw [(own_ofn (by omega)).2]; exact hxi)
   refine own_t2 (.int xi) 21 (fun _ q => Xj.baloadBytes hx (j := (Int32.ofNat i)) (v := (.int xi)) (by rw [ej]; exact Ar56.1) (State.isArrayOf_alike hZ.alike Ar56.2.1) Ar56.2.2 hin56 hat56 (g := (mkF m 20 #[.val (.ref b1), .val (.ref b2), .val (.int (Int32.ofNat i))] [(.int (Int32.ofNat i)), (.ref b2), (.int xi)])) rfl rfl (hb hby dj43m13_20) _ q) ?_
   refine own_d2 26 (fun _ q => XS.icmpYes Xj.here hx rfl (pc0 := 21) (pc' := 26) rfl (hb hby dj43m13_21) rfl (teq rfl).1 (by decide) (by decide) q) ?_
   refine own_li #[.val (.ref b1), .val (.ref b2), .val (.int ((Int32.ofNat i) + (1 : Int32)))] 29 (fun _ q => XS.iinc Xj.here hx rfl (hb hby dj43m13_26) rfl (l' := #[.val (.ref b1), .val (.ref b2), .val (.int ((Int32.ofNat i) + (1 : Int32)))]) rfl q) ?_
   refine own_d0 9 (fun _ q => XS.goto Xj.here hx rfl (pc0 := 29) (pc' := 9) rfl (hb hby dj43m13_29) (by decide) (by decide) q) ?_
   rw [own_succ]
   exact ih (i + 1) Tj _ (by omega) Xj Nj ej
 exact loop nn 0 s₁ _ (by omega) X0 N0 e0

def Q87  (h0 : Heap) (n0 : Nat) (v : Option Value) (h : Heap) (L : List Loc) : Prop := v = some (.int (1 : Int32)) ∧ Fr n0 L ∧ h = h0

theorem rm87 (l : Launch) (Z : State) (a0 : Array Value) (hw : own_HW a0 Z) (ws : List Jvm.Cond) (a1 b1 a2 b2 : Addr) (k1 k2 : ClassId) (cdd : Int32) (nn : Nat) (vs : List Value) (h0 : Heap) (n0 : Nat) (hn : nn ≤ 4000) (E1 : Exa Z h0 a1 "java/lang/String") (L1 : Fld Z h0 a1 "java/lang/String" "value" "[B" (.ref b1)) (C1 : Fld Z h0 a1 "java/lang/String" "coder" "B" (.int cdd)) (V1 : Arv Z h0 b1 k1 .byte (Int32.ofNat nn) vs (.int (0 : Int32))) (E2 : Exa Z h0 a2 "java/lang/String") (L2 : Fld Z h0 a2 "java/lang/String" "value" "[B" (.ref b2)) (C2 : Fld Z h0 a2 "java/lang/String" "coder" "B" (.int cdd)) (V2 : Arv Z h0 b2 k2 .byte (Int32.ofNat nn) vs (.int (0 : Int32))) (G1 : Int32) (US : own_US Z G1) (O0 : Old Z n0 h0) :
  own_Met l own_M50 jdk_42_method_66_code 3 (some .boolean) ws own_R_1_0_0_14 Z #[(.ref a1), (.ref a2)] h0 (Q87 h0 n0) := by
 refine own_enter #[.val (.ref a1), .val (.ref a2), .unset] (plainFor_of_name pn_java_lang_String) (fun m => ef_RR_3 m a1 a2) ?_
 intro p e s m below meth c s₁ hx hby hml hown hnm hZ hrt hlk X0 e0
 have w := @own_w _ _ hw
 have N0 := Fr.nil n0
 refine own_tp (.ref a1) 1 (fun _ q => XS.aloadN X0.here hx rfl (hb hby dj42m66_0) rfl rfl q) ?_
 refine own_tp (.ref a2) 2 (fun _ q => XS.aloadN X0.here hx rfl (hb hby dj42m66_1) rfl rfl q) ?_
 by_cases c51 : a1 = a2
 ·
  refine own_d2 5 (fun _ q => Jvm.RoadKit.acmp (g := (mkF m 2 #[.val (.ref a1), .val (.ref a2), .unset] [(.ref a2), (.ref a1)])) X0 hx rfl rfl rfl (pc0 := 2) (pc' := 5) (same := true) rfl (hb hby dj42m66_2) rfl (decide_eq_true (congrArg Value.ref c51)) (by decide) (by decide) q) ?_
  refine own_tp (.int (1 : Int32)) 6 (fun _ q => XS.iconst X0.here hx rfl (hb hby dj42m66_5) q) ?_
  exact own_retN (t := .boolean) X0 hx hrt (hb hby dj42m66_6) (by simp) hlk (by decide) (by decide) e0 (⟨rfl, N0, rfl⟩)
 ·
  refine own_d2 7 (fun _ q => Jvm.RoadKit.acmp (g := (mkF m 2 #[.val (.ref a1), .val (.ref a2), .unset] [(.ref a2), (.ref a1)])) X0 hx rfl rfl rfl (pc0 := 2) (pc' := 7) (same := false) rfl (hb hby dj42m66_2) rfl (decide_eq_false fun q => c51 (Value.ref.inj q)) (by decide) (by decide) q) ?_
  refine own_tp (.ref a2) 8 (fun _ q => XS.aloadN X0.here hx rfl (hb hby dj42m66_7) rfl rfl q) ?_
  obtain ⟨T52, X52, e52, st52⟩ := instY X0 hx hZ hown (w 200 rfl) e0 (Ins.self E2) (g := (mkF m 8 #[.val (.ref a1), .val (.ref a2), .unset] [(.ref a2)])) rfl rfl (hb hby dj42m66_8)
  refine own_t1 (.int (1 : Int32)) 11 st52 ?_
  refine own_d1 14 (fun _ q => XS.ifNo X52.here hx rfl (hb hby dj42m66_11) rfl ((if0 _ _).trans (feq (by decide : ¬ ((1 : Int32) = (0 : Int32)))).1) q) ?_
  refine own_tp (.ref a2) 15 (fun _ q => XS.aloadN X52.here hx rfl (hb hby dj42m66_14) rfl rfl q) ?_
  obtain ⟨T53, X53, e53, st53⟩ := castY X52 hx hZ hown (w 200 rfl) e52 (Ins.self E2) (g := (mkF m 15 #[.val (.ref a1), .val (.ref a2), .unset] [(.ref a2)])) rfl rfl (hb hby dj42m66_15)
  refine own_d0 18 st53 ?_
  refine own_ls #[.val (.ref a1), .val (.ref a2), .val (.ref a2)] 19 (fun _ q => XS.astoreN X53.here hx rfl (hb hby dj42m66_18) rfl rfl (l' := #[.val (.ref a1), .val (.ref a2), .val (.ref a2)]) rfl q) ?_
  obtain ⟨T54, X54, e54, st54⟩ := getS2 X53 hx hZ hown (host := "") (Or.inl (w 25 rfl)) Via.refl e53 (US.2.1.ext O0.2) (g := (mkF m 19 #[.val (.ref a1), .val (.ref a2), .val (.ref a2)] [])) rfl (hb hby dj42m66_19)
  refine own_tp (.int G1) 22 st54 ?_
  refine own_d1 25 (fun _ q => XS.ifNo X54.here hx rfl (hb hby dj42m66_22) rfl ((if0 _ _).trans (feq US.1).1) q) ?_
  refine own_tp (.ref a1) 26 (fun _ q => XS.aloadN X54.here hx rfl (hb hby dj42m66_25) rfl rfl q) ?_
  obtain ⟨T55, X55, e55, st55⟩ := getF X54 hx hZ hown (host := "") (Or.inl (w 23 rfl)) Via.refl e54 C1 (g := (mkF m 26 #[.val (.ref a1), .val (.ref a2), .val (.ref a2)] [(.ref a1)])) rfl rfl (hb hby dj42m66_26)
  refine own_t1 (.int cdd) 29 st55 ?_
  refine own_tp (.ref a2) 30 (fun _ q => XS.aloadN X55.here hx rfl (hb hby dj42m66_29) rfl rfl q) ?_
  obtain ⟨T56, X56, e56, st56⟩ := getF X55 hx hZ hown (host := "") (Or.inl (w 23 rfl)) Via.refl e55 C2 (g := (mkF m 30 #[.val (.ref a1), .val (.ref a2), .val (.ref a2)] [(.ref a2), (.int cdd)])) rfl rfl (hb hby dj42m66_30)
  refine own_t1 (.int cdd) 33 st56 ?_
  refine own_d2 36 (fun _ q => XS.icmpNo X56.here hx rfl (hb hby dj42m66_33) rfl (teq rfl).2 q) ?_
  refine own_tp (.ref a1) 37 (fun _ q => XS.aloadN X56.here hx rfl (hb hby dj42m66_36) rfl rfl q) ?_
  obtain ⟨T57, X57, e57, st57⟩ := getF X56 hx hZ hown (host := "") (Or.inl (w 22 rfl)) Via.refl e56 L1 (g := (mkF m 37 #[.val (.ref a1), .val (.ref a2), .val (.ref a2)] [(.ref a1)])) rfl rfl (hb hby dj42m66_37)
  refine own_t1 (.ref b1) 40 st57 ?_
  refine own_tp (.ref a2) 41 (fun _ q => XS.aloadN X57.here hx rfl (hb hby dj42m66_40) rfl rfl q) ?_
  obtain ⟨T58, X58, e58, st58⟩ := getF X57 hx hZ hown (host := "") (Or.inl (w 22 rfl)) Via.refl e57 L2 (g := (mkF m 41 #[.val (.ref a1), .val (.ref a2), .val (.ref a2)] [(.ref a2), (.ref b1)])) rfl rfl (hb hby dj42m66_41)
  refine own_t1 (.ref b2) 44 st58 ?_
  obtain ⟨_, _, ⟨T59, L59, k59, n59⟩, -, X59, ⟨Lc59, hQ59, l59, y59, z59⟩, st59⟩ := Jvm.LawKit.callS X58 hx (y := own_M49) hown (mvT hZ (w 201 rfl)) (mvT hZ (w 202 rfl)) (mvT hZ (w 71 rfl)) (mvT hZ (w 203 rfl)) (by decide) (backOf (W := 0) (rm86 l Z a0 hw [] b1 b2 k1 k2 nn vs h0 n0 hn V1 V2) hZ (w 203 rfl) (w 71 rfl) (by decide) (by decide)) (g := (mkF m 44 #[.val (.ref a1), .val (.ref a2), .val (.ref a2)] [(.ref b2), (.ref b1)])) rfl (by rw [hml]; rfl) (argsL := [(.ref b1), (.ref b2)]) (rest := []) (lenOf pd31 rfl) rfl (by show 2 * 0 + _ ≤ _; exact Nat.le_of_eq rfl) (hb hby dj42m66_44) (fun _ _ => ⟨rfl, e58, (by decide : 0 + 0 ≤ _), (by decide : 0 + 0 ≤ _)⟩)
  dsimp only [Pt.U, Pt.locs, Pt.cells, Pt.slots] at X59 l59 y59 z59 st59 hQ59
  subst l59 y59 z59
  obtain ⟨rfl, Nq59, eq59⟩ := hQ59
  have N59 := Fr.app N0 Nq59
  refine own_t2 (.int (1 : Int32)) 47 st59 ?_
  refine own_d1 50 (fun _ q => XS.ifNo X59.here hx rfl (hb hby dj42m66_47) rfl ((if0 _ _).trans (feq (by decide : ¬ ((1 : Int32) = (0 : Int32)))).1) q) ?_
  refine own_tp (.int (1 : Int32)) 51 (fun _ q => XS.iconst X59.here hx rfl (hb hby dj42m66_50) q) ?_
  refine own_d0 55 (fun _ q => XS.goto X59.here hx rfl (pc0 := 51) (pc' := 55) rfl (hb hby dj42m66_51) (by decide) (by decide) q) ?_
  exact own_retN (t := .boolean) X59 hx hrt (hb hby dj42m66_55) (by simp) hlk (by decide) (by decide) eq59 (⟨rfl, N59, rfl⟩)

theorem rm88 (l : Launch) (Z : State) (a0 : Array Value) (hw : own_HW a0 Z) (ws : List Jvm.Cond) (a1 a2 : Addr) (cs : List Int32) (h0 : Heap) (n0 : Nat) (hl : cs.length ≤ 1000) (S1 : own_S Z h0 a1 cs) (S2 : own_S Z h0 a2 cs) (G1 : Int32) (US : own_US Z G1) (O0 : Old Z n0 h0) :
    own_Met l own_M50 jdk_42_method_66_code 3 (some .boolean) ws own_R_1_0_0_14 Z #[.ref a1, .ref a2] h0 (Q87 h0 n0) := by
  obtain ⟨t, kb, cd, N, vs, E1, L1, C1, V1, Co⟩ := S1
  obtain ⟨t', kb', cd', N', vs', E2, L2, C2, V2, Co'⟩ := S2
  obtain ⟨rfl, rfl, rfl⟩ := own_CodU Co Co'
  obtain ⟨nn, hn, rfl⟩ : ∃ nn : Nat, nn ≤ 4000 ∧ N = Int32.ofNat nn := by
    rcases Co with ⟨-, h, -⟩ | ⟨-, h, -⟩
    · exact ⟨_, by omega, h⟩
    · exact ⟨2 * cs.length, by omega, h⟩
  exact rm87 l Z a0 hw ws a1 t a2 t' kb kb' cd nn vs h0 n0 hn E1 L1 C1 V1 E2 L2 C2 V2 G1 US O0

def Q89 (Z : State) (x1 : Addr) (h0 : Heap) (n0 : Nat) (v : Option Value) (h : Heap) (L : List Loc) : Prop := v = none ∧ Fr n0 L ∧ Keep h0 h [x1] ∧ ∃ (t : Addr) (kb : ClassId) (cd N : Int32) (vs : List Value), Exa Z h x1 "java/lang/String" ∧ Fld Z h x1 "java/lang/String" "value" "[B" (.ref t) ∧ Fld Z h x1 "java/lang/String" "coder" "B" (.int cd) ∧ Arv Z h t kb .byte N vs (.int (0 : Int32)) ∧ own_Cod [] cd N vs

theorem rm89 (l : Launch) (Z : State) (a0 : Array Value) (hw : own_HW a0 Z) (ws : List Jvm.Cond) (x1 a1 : Addr) (h0 : Heap) (n0 : Nat) (hE : EW Z a0 own_EL) (Z0 : n0 ≤ h0.size) (g1 : n0 ≤ x1) (E1 : Exa Z h0 x1 "java/lang/String") (F1 : Fld Z h0 x1 "java/lang/String" "value" "[B" .null) (F2 : Fld Z h0 x1 "java/lang/String" "coder" "B" (.int (0 : Int32))) (G1 : Int32) (US : own_US Z G1) (O0 : Old Z n0 h0) :
  own_MetW own_EL l own_M51 jdk_42_method_149_code 6 none ws own_R_1_4_8_12 Z #[(.ref x1), (.ref a1), (.int (0 : Int32)), (.int (0 : Int32)), .null] h0 (Q89 Z x1 h0 n0) := by
 refine own_enterW #[.val (.ref x1), .val (.ref a1), .val (.int (0 : Int32)), .val (.int (0 : Int32)), .val .null, .unset] (plainFor_of_name pn_java_lang_String) (fun m => ef_RRIIN_6 m x1 a1 (0 : Int32) (0 : Int32)) hE ?_
 intro p e s m below meth c s₁ hx hby hml hown hnm hZ hrt hlk X0 e0 Wd0
 have w := @own_w _ _ hw
 have N0 := Fr.nil n0
 have wS := own_wS hw
 have G0 : Safe Z own_EL s.vm h0 x1 := own_safe0 hZ.alike E1 F1
 refine own_tp (.ref x1) 1 (fun _ q => XS.aloadN X0.here hx rfl (hb hby dj42m149_0) rfl rfl q) ?_
 obtain ⟨T51, X51, e51, st51⟩ := initO X0 hx hZ hown (w 13 rfl) (w 14 rfl) (w 15 rfl) e0 (g := (mkF m 1 #[.val (.ref x1), .val (.ref a1), .val (.int (0 : Int32)), .val (.int (0 : Int32)), .val .null, .unset] [(.ref x1)])) rfl (by rw [hml]; rfl) rfl (hb hby dj42m149_1) (by decide) (W := 0) (by show 2 * 0 + _ ≤ _; exact Nat.le_of_eq rfl) (by decide)
 refine own_d1 4 st51 ?_
 refine own_tp (.int (0 : Int32)) 5 (fun _ q => XS.iloadN X51.here hx rfl (hb hby dj42m149_4) rfl q) ?_
 refine own_d1 8 (fun _ q => XS.ifNo X51.here hx rfl (hb hby dj42m149_5) rfl ((if0 _ _).trans (teq (by decide : (0 : Int32) = (0 : Int32))).2) q) ?_
 refine own_tp (.ref x1) 9 (fun _ q => XS.aloadN X51.here hx rfl (hb hby dj42m149_8) rfl rfl q) ?_
 obtain ⟨b52, T52, h52, bb52, kk52, X52, e52, E52, Wd52, ho52, A52, Cd52, Vl52, V52, Ch52, Sf52, st52⟩ := own_ldc X51 hx Wd0 hown (w 16 rfl) wS e51 (by simp [own_EL]) (vs := []) (z := (0 : Int32)) ⟨by decide, by decide⟩ (by decide) rfl (g := (mkF m 9 #[.val (.ref x1), .val (.ref a1), .val (.int (0 : Int32)), .val (.int (0 : Int32)), .val .null, .unset] [(.ref x1)])) rfl (hb hby dj42m149_9) (n := 0) (by decide) (by decide) (by decide) (by decide)
 have hZ52 : Z.Warmed39 (s.setVm T52.vm).vm := Wd52.hZ
 have hown52 : (s.setVm T52.vm).vm.findClass "java/lang/String" = some m.cls := ho52
 have O52 := Old.ext O0 E52
 have K52 : Keep h0 h52 [x1] := (Keep.refl h0 [x1]).ext E52
 have Z52 : n0 ≤ h52.size := Nat.le_trans Z0 E52.1
 have G52_x1 := CHr.safe Ch52 E1.lt G0
 have nl52_x1 := Sf52 x1 G52_x1
 refine own_tp (.ref b52) 11 st52 ?_
 obtain ⟨T53, X53, e53, st53⟩ := getF X52 hx hZ52 hown52 (host := "") (Or.inl (w 22 rfl)) Via.refl e52 Vl52 (g := (mkF m 11 #[.val (.ref x1), .val (.ref a1), .val (.int (0 : Int32)), .val (.int (0 : Int32)), .val .null, .unset] [(.ref b52), (.ref x1)])) rfl rfl (hb hby dj42m149_11)
 refine own_t1 (.ref bb52) 14 st53 ?_
 have f54 := (F1.ext E52)
 have f55 := (E1.ext E52)
 obtain ⟨T56, h56, X56, e56, W56, st56⟩ := putF X53 hx hZ52 hown52 (host := "") (Or.inl (w 22 rfl)) Via.refl e53 f54 f55 (Or.inr ⟨(w 18 rfl), rfl, hnm⟩) (w 4 rfl) (ty := (.array .byte)) (by decide) rfl rfl (g := (mkF m 14 #[.val (.ref x1), .val (.ref a1), .val (.int (0 : Int32)), .val (.int (0 : Int32)), .val .null, .unset] [(.ref bb52), (.ref x1)])) rfl rfl (hb hby dj42m149_14)
 have Fw56 := f54.same W56
 have N56 := Fr.snoc X56 N0 g1
 have O56 := Old.wr O52 W56 g1
 have K56 : Keep h0 h56 [x1] := K52.wr W56 (Or.inl (List.mem_of_getElem? (i := 0) rfl))
 have Z56 : n0 ≤ h56.size := Nat.le_trans Z52 (Nat.le_of_eq W56.size.symm)
 have Wd56 := Wd52.wr W56 G52_x1
 refine own_d2 17 st56 ?_
 refine own_tp (.ref x1) 18 (fun _ q => XS.aloadN X56.here hx rfl (hb hby dj42m149_17) rfl rfl q) ?_
 have f58 := (Safe.wr W56 G52_x1 Wd52.chv G52_x1)
 have f59 := (f55.wr W56)
 obtain ⟨b57, T57, h57, bb57, kk57, X57, e57, E57, Wd57, ho57, A57, Cd57, Vl57, V57, Ch57, Sf57, st57⟩ := own_ldc X56 hx Wd56 hown52 (w 16 rfl) wS e56 (by simp [own_EL]) (vs := []) (z := (0 : Int32)) ⟨by decide, by decide⟩ (by decide) rfl (g := (mkF m 18 #[.val (.ref x1), .val (.ref a1), .val (.int (0 : Int32)), .val (.int (0 : Int32)), .val .null, .unset] [(.ref x1)])) rfl (hb hby dj42m149_18) (n := 0) (by decide) (by decide) (by decide) (by decide)
 have hZ57 : Z.Warmed39 (s.setVm T57.vm).vm := Wd57.hZ
 have hown57 : (s.setVm T57.vm).vm.findClass "java/lang/String" = some m.cls := ho57
 have O57 := Old.ext O56 E57
 have K57 : Keep h0 h57 [x1] := K56.ext E57
 have Z57 : n0 ≤ h57.size := Nat.le_trans Z56 E57.1
 have G57_x1 := CHr.safe Ch57 f59.lt f58
 have nl57_x1 := Sf57 x1 G57_x1
 refine own_tp (.ref b57) 20 st57 ?_
 obtain ⟨T60, X60, e60, st60⟩ := getF X57 hx hZ57 hown57 (host := "") (Or.inl (w 23 rfl)) Via.refl e57 Cd57 (g := (mkF m 20 #[.val (.ref x1), .val (.ref a1), .val (.int (0 : Int32)), .val (.int (0 : Int32)), .val .null, .unset] [(.ref b57), (.ref x1)])) rfl rfl (hb hby dj42m149_20)
 refine own_t1 (.int (0 : Int32)) 23 st60 ?_
 have f61 := (((F2.ext E52).other W56 (Or.inr (slot_ne (Or.inr (w 19 rfl)) (Or.inr (w 18 rfl)) (by decide) (t := .byte) (t' := (.array .byte)) (by decide) (by decide)))).ext E57)
 have f62 := (f59.ext E57)
 obtain ⟨T63, h63, X63, e63, W63, st63⟩ := putFN X60 hx hZ57 hown57 (w 23 rfl) Via.refl e60 f61 f62 (Or.inr ⟨(w 19 rfl), rfl, hnm⟩) (w 4 rfl) (ty := .byte) (v' := (.int (0 : Int32))) (by decide) rfl rfl (g := (mkF m 23 #[.val (.ref x1), .val (.ref a1), .val (.int (0 : Int32)), .val (.int (0 : Int32)), .val .null, .unset] [(.int (0 : Int32)), (.ref x1)])) rfl rfl (hb hby dj42m149_23)
 have Fw63 := f61.same W63
 have N63 := Fr.snoc X63 N56 g1
 have O63 := Old.wr O57 W63 g1
 have K63 : Keep h0 h63 [x1] := K57.wr W63 (Or.inl (List.mem_of_getElem? (i := 0) rfl))
 have Z63 : n0 ≤ h63.size := Nat.le_trans Z57 (Nat.le_of_eq W63.size.symm)
 have Wd63 := Wd57.wr W63 G57_x1
 refine own_d2 26 st63 ?_
 have f64 := (f62.wr W63)
 have f65 := ((Fw56.ext E57).other W63 (Or.inr (slot_ne (Or.inr (w 18 rfl)) (Or.inr (w 19 rfl)) (by decide) (t := (.array .byte)) (t' := .byte) (by decide) (by decide))))
 have f66 := (((V52.other W56 (Ne.symm nl52_x1.2)).ext E57).other W63 (Ne.symm nl52_x1.2))
 exact own_retVW X63 hx hrt (hb hby dj42m149_26) hlk (by decide) (by decide) e63 Wd63 (⟨rfl, N63, K63, bb52, _, _, _, _, f64, f65, Fw63, f66, Or.inl ⟨rfl, rfl, rfl, by simp⟩⟩)

def Q90 (Z : State) (x1 : Addr) (h0 : Heap) (n0 : Nat) (v : Option Value) (h : Heap) (L : List Loc) : Prop := v = none ∧ Fr n0 L ∧ Keep h0 h [x1] ∧ ∃ (t : Addr) (kb : ClassId) (cd N : Int32) (vs : List Value), Exa Z h x1 "java/lang/String" ∧ Fld Z h x1 "java/lang/String" "value" "[B" (.ref t) ∧ Fld Z h x1 "java/lang/String" "coder" "B" (.int cd) ∧ Arv Z h t kb .byte N vs (.int (0 : Int32)) ∧ own_Cod [] cd N vs

theorem rm90 (l : Launch) (Z : State) (a0 : Array Value) (hw : own_HW a0 Z) (ws : List Jvm.Cond) (x1 a1 : Addr) (k1 : ClassId) (h0 : Heap) (n0 : Nat) (hE : EW Z a0 own_EL) (Z0 : n0 ≤ h0.size) (g1 : n0 ≤ x1) (E1 : Exa Z h0 x1 "java/lang/String") (F1 : Fld Z h0 x1 "java/lang/String" "value" "[B" .null) (F2 : Fld Z h0 x1 "java/lang/String" "coder" "B" (.int (0 : Int32))) (G1 : Int32) (US : own_US Z G1) (O0 : Old Z n0 h0) (V1 : Arv Z h0 a1 k1 .char (0 : Int32) [] (.int (0 : Int32))) :
  own_MetW own_EL l own_M52 jdk_42_method_3_code 2 none ws own_R_2_4_8_29 Z #[(.ref x1), (.ref a1)] h0 (Q90 Z x1 h0 n0) := by
 refine own_enterW #[.val (.ref x1), .val (.ref a1)] (plainFor_of_name pn_java_lang_String) (fun m => ef_RR_2 m x1 a1) hE ?_
 intro p e s m below meth c s₁ hx hby hml hown hnm hZ hrt hlk X0 e0 Wd0
 have w := @own_w _ _ hw
 have N0 := Fr.nil n0
 have wS := own_wS hw
 refine own_tp (.ref x1) 1 (fun _ q => XS.aloadN X0.here hx rfl (hb hby dj42m3_0) rfl rfl q) ?_
 refine own_tp (.ref a1) 2 (fun _ q => XS.aloadN X0.here hx rfl (hb hby dj42m3_1) rfl rfl q) ?_
 refine own_tp (.int (0 : Int32)) 3 (fun _ q => XS.iconst X0.here hx rfl (hb hby dj42m3_2) q) ?_
 refine own_tp (.ref a1) 4 (fun _ q => XS.aloadN X0.here hx rfl (hb hby dj42m3_3) rfl rfl q) ?_
 obtain ⟨cl51, Ar51, -, Sz51, Nn51, -, -⟩ := (id V1)
 refine own_t1 (.int (0 : Int32)) 5 (fun t q => X0.arraylength hx (by rw [e0]; exact Ar51.1) (State.isArrayOf_alike hZ.alike Ar51.2.1) (g := (mkF m 4 #[.val (.ref x1), .val (.ref a1)] [(.ref a1), (.int (0 : Int32)), (.ref a1), (.ref x1)])) rfl rfl (hb hby dj42m3_4) _ (by rw [len_of Sz51 Nn51]; exact q)) ?_
 refine own_tp .null 6 (fun _ q => XS.aconstNull X0.here hx rfl (hb hby dj42m3_5) q) ?_
 obtain ⟨_, _, ⟨T52, L52, k52, n52⟩, -, X52, hS52, -, ⟨Lc52, hQ52, l52, y52, z52, Ch52⟩, st52⟩ := X0.specialBackS hx (y := own_M51) rfl hown (mvT hZ (w 9 rfl)) (mvT hZ (w 10 rfl)) (mvT hZ (w 12 rfl)) (by decide) (backOfSH (W := 0) (rm89 l Z a0 hw [] x1 a1 h0 n0 hE Z0 g1 E1 F1 F2 G1 US O0) hZ (w 12 rfl) (w 5 rfl) (by decide) (by decide) Wd0.hE Wd0.chv) (g := (mkF m 6 #[.val (.ref x1), .val (.ref a1)] [.null, (.int (0 : Int32)), (.int (0 : Int32)), (.ref a1), (.ref x1)])) rfl (by rw [hml]; rfl) (Steps.refl _) (a := x1) (argsL := [(.ref a1), (.int (0 : Int32)), (.int (0 : Int32)), .null]) (rest := []) (lenOf pd32 rfl) rfl (by show 2 * 0 + _ ≤ _; exact Nat.le_of_eq rfl) (hb hby dj42m3_6) (fun _ _ => ⟨rfl, e0, (by decide : 0 + 4 ≤ _), (by decide : 0 + 8 ≤ _)⟩)
 dsimp only [Pt.U, Pt.locs, Pt.cells, Pt.slots] at X52 l52 y52 z52 st52 hQ52 hS52 Ch52
 subst l52 y52 z52
 have Wd52 := own_Wd.call Wd0 hS52 Ch52
 have hZ52 : Z.Warmed39 (s.setVm T52.vm).vm := Wd52.hZ
 have hown52 : (s.setVm T52.vm).vm.findClass "java/lang/String" = some m.cls := own_since_own hS52 hown
 have Y52 : Stand p l e own_R_2_4_8_29 (s.setVm T52.vm) m #[(.ref x1), (.ref a1)] below meth c T52 _ _ _ := X52
 obtain ⟨rfl, Nq52, Kp52, rest52⟩ := hQ52
 refine own_csR [] 9 st52 ?_
 exact own_retVW Y52 hx hrt (hb hby dj42m3_9) hlk (by decide) (by decide) rfl Wd52 (⟨rfl, Fr.app N0 Nq52, Kp52, rest52⟩)

def Q304 (Z : State) (b1 : Addr) (k2 : ClassId) (cs : List Int32) (h0 : Heap) (n0 : Nat) (v : Option Value) (h : Heap) (L : List Loc) : Prop := Fr n0 L ∧ Keep h0 h [b1] ∧ ((∃ i : Nat, i < cs.length ∧ v = some (.int (Int32.ofNat i)) ∧ (255 : Int32) < cs.getD i 0) ∨ (v = some (.int (Int32.ofNat cs.length)) ∧ (∀ c ∈ cs, ¬ (255 : Int32) < c) ∧ Arv Z h b1 k2 .byte (Int32.ofNat cs.length) (own_lows cs) (.int (0 : Int32))))

theorem rm304 (l : Launch) (Z : State) (a0 : Array Value) (hw : own_HW a0 Z) (ws : List Jvm.Cond) (a1 b1 : Addr) (k1 k2 : ClassId) (cs : List Int32) (h0 : Heap) (n0 : Nat) (hp0 : 0 < cs.length) (hl : cs.length ≤ 96) (Z0 : n0 ≤ h0.size) (g1 : n0 ≤ b1) (hab : a1 ≠ b1) (V1 : Arv Z h0 a1 k1 .char (Int32.ofNat cs.length) (cs.map Value.int) (.int (0 : Int32))) (V2 : Arv Z h0 b1 k2 .byte (Int32.ofNat cs.length) (List.replicate cs.length (.int (0 : Int32))) (.int (0 : Int32))) :
  own_Met l own_M53 jdk_52_method_21_code 7 (some .int) ws own_R_0_0_0_0 Z #[(.ref a1), (.int (0 : Int32)), (.ref b1), (.int (0 : Int32)), (.int (Int32.ofNat cs.length))] h0 (Q304 Z b1 k2 cs h0 n0) := by
 refine own_enter #[.val (.ref a1), .val (.int (0 : Int32)), .val (.ref b1), .val (.int (0 : Int32)), .val (.int (Int32.ofNat cs.length)), .unset, .unset] (plainFor_of_name pn_java_lang_StringUTF16) (fun m => ef_RIRII_7 m a1 (0 : Int32) b1 (0 : Int32) (Int32.ofNat cs.length)) ?_
 intro p e s m below meth c s₁ hx hby hml hown hnm hZ hrt hlk X0 e0
 have w := @own_w _ _ hw
 have N0 := Fr.nil n0
 refine own_tp (.int (0 : Int32)) 1 (fun _ q => XS.iconst X0.here hx rfl (hb hby dj52m21_0) q) ?_
 refine own_ls #[.val (.ref a1), .val (.int (0 : Int32)), .val (.ref b1), .val (.int (0 : Int32)), .val (.int (Int32.ofNat cs.length)), .val (.int (0 : Int32)), .unset] 3 (fun _ q => XS.istore X0.here hx rfl (hb hby dj52m21_1) rfl (l' := #[.val (.ref a1), .val (.int (0 : Int32)), .val (.ref b1), .val (.int (0 : Int32)), .val (.int (Int32.ofNat cs.length)), .val (.int (0 : Int32)), .unset]) rfl q) ?_
 have loop : ∀ (r i : Nat) (sl : Slot) (Tj : State) (lj : List Loc) (hj : Heap), i + r = cs.length → (∀ j, j < i → ¬ (255 : Int32) < cs.getD j 0) → One sl → Stand p l e own_R_0_0_0_0 s m #[(.ref a1), (.int (0 : Int32)), (.ref b1), (.int (0 : Int32)), (.int (Int32.ofNat cs.length))] below meth c Tj lj 0 0 → Fr n0 lj → Tj.heap = hj → Keep h0 hj [b1] → n0 ≤ hj.size → Arv Z hj b1 k2 .byte (Int32.ofNat cs.length) (own_A cs.length (own_fL (cs.take i))) (.int (0 : Int32)) → own_Goes p e below (own_FN s (Q304 Z b1 k2 cs h0 n0) own_R_0_0_0_0.cells own_R_0_0_0_0.slots) (Tj.setTop (mkF m 3 #[.val (.ref a1), .val (.int (Int32.ofNat i)), .val (.ref b1), .val (.int (Int32.ofNat i)), .val (.int (Int32.ofNat cs.length)), .val (.int (Int32.ofNat i)), sl] [])) := by
  intro r
  induction r with
  | zero =>
   intro i sl Tj lj hj hi hno hsl Xj Nj ej Kj Zj Vj
   have hlt : ¬ ((Int32.ofNat i) < (Int32.ofNat cs.length)) := fun q => by have := (own_ltn (by omega) (by omega)).mp q; omega
   refine own_tp (.int (Int32.ofNat i)) 5 (fun _ q => XS.iload Xj.here hx rfl (hb hby dj52m21_3) rfl q) ?_
   refine own_tp (.int (Int32.ofNat cs.length)) 7 (fun _ q => XS.iload Xj.here hx rfl (hb hby dj52m21_5) rfl q) ?_
   refine own_d2 44 (fun _ q => XS.icmpYes Xj.here hx rfl (pc0 := 7) (pc' := 44) rfl (hb hby dj52m21_7) rfl (flt hlt).2.1 (by decide) (by decide) q) ?_
   refine own_tp (.int (Int32.ofNat cs.length)) 46 (fun _ q => XS.iload Xj.here hx rfl (hb hby dj52m21_44) rfl q) ?_
   exact own_retI Xj hx hrt (hb hby dj52m21_46) hlk (by decide) (by decide) ej (⟨Nj, Kj, Or.inr ⟨rfl, own_allN (fun j hj => hno j (by omega)), by have q := Vj; rw [List.take_of_length_le (by omega)] at q; rw [own_lowsA]; exact q⟩⟩)
  | succ r ih =>
   intro i sl Tj lj hj hi hno hsl Xj Nj ej Kj Zj Vj
   have hlt : (Int32.ofNat i) < (Int32.ofNat cs.length) := (own_ltn (by omega) (by omega)).mpr (by omega)
   refine own_tp (.int (Int32.ofNat i)) 5 (fun _ q => XS.iload Xj.here hx rfl (hb hby dj52m21_3) rfl q) ?_
   refine own_tp (.int (Int32.ofNat cs.length)) 7 (fun _ q => XS.iload Xj.here hx rfl (hb hby dj52m21_5) rfl q) ?_
   refine own_d2 10 (fun _ q => XS.icmpNo Xj.here hx rfl (hb hby dj52m21_7) rfl (tlt hlt).2.1 q) ?_
   refine own_tp (.ref a1) 11 (fun _ q => XS.aloadN Xj.here hx rfl (hb hby dj52m21_10) rfl rfl q) ?_
   refine own_tp (.int (Int32.ofNat i)) 12 (fun _ q => XS.iloadN Xj.here hx rfl (hb hby dj52m21_11) rfl q) ?_
   obtain ⟨cl51, Ar51, q51, S51, Nn51, H51, G51⟩ := (id (V1.keep Kj (ninS hab nin0)))
   have hin51 : ¬ ((Int32.ofNat i) < 0 ∨ cl51.slots.size ≤ ((Int32.ofNat i)).toNatClampNeg) := inb_of S51 (own_inb (by omega) (by omega))
   have hat51 : cl51.slots[((Int32.ofNat i)).toNatClampNeg]? = some (.int (cs.getD i 0)) := H51.at hin51 (by rw [(own_ofn (by omega)).2]; exact own_mapV cs i _ (by omega))
   refine own_t2 (.int (cs.getD i 0)) 13 (fun _ q => Xj.caload hx (j := (Int32.ofNat i)) (v := (.int (cs.getD i 0))) (by rw [ej]; exact Ar51.1) (State.isArrayOf_alike hZ.alike Ar51.2.1) Ar51.2.2 hin51 hat51 (g := (mkF m 12 #[.val (.ref a1), .val (.int (Int32.ofNat i)), .val (.ref b1), .val (.int (Int32.ofNat i)), .val (.int (Int32.ofNat cs.length)), .val (.int (Int32.ofNat i)), sl] [(.int (Int32.ofNat i)), (.ref a1)])) rfl rfl (hb hby dj52m21_12) _ q) ?_
   refine own_ls #[.val (.ref a1), .val (.int (Int32.ofNat i)), .val (.ref b1), .val (.int (Int32.ofNat i)), .val (.int (Int32.ofNat cs.length)), .val (.int (Int32.ofNat i)), .val (.int (cs.getD i 0))] 15 (fun _ q => XS.istoreS Xj.here hx rfl (hb hby dj52m21_13) rfl rfl hsl q) ?_
   refine own_tp (.int (cs.getD i 0)) 17 (fun _ q => XS.iload Xj.here hx rfl (hb hby dj52m21_15) rfl q) ?_
   refine own_tp (.int (255 : Int32)) 20 (fun _ q => XS.sipush Xj.here hx rfl (hb hby dj52m21_17) q) ?_
   by_cases c52 : (255 : Int32) < (cs.getD i 0)
   ·
    refine own_d2 23 (fun _ q => XS.icmpNo Xj.here hx rfl (hb hby dj52m21_20) rfl (tlt c52).2.2.2 q) ?_
    refine own_tp (.int (Int32.ofNat i)) 25 (fun _ q => XS.iload Xj.here hx rfl (hb hby dj52m21_23) rfl q) ?_
    exact own_retI Xj hx hrt (hb hby dj52m21_25) hlk (by decide) (by decide) ej (⟨Nj, Kj, Or.inl ⟨i, by omega, rfl, c52⟩⟩)
   ·
    refine own_d2 26 (fun _ q => XS.icmpYes Xj.here hx rfl (pc0 := 20) (pc' := 26) rfl (hb hby dj52m21_20) rfl (flt c52).2.2.2 (by decide) (by decide) q) ?_
    refine own_tp (.ref b1) 27 (fun _ q => XS.aloadN Xj.here hx rfl (hb hby dj52m21_26) rfl rfl q) ?_
    refine own_tp (.int (Int32.ofNat i)) 28 (fun _ q => XS.iloadN Xj.here hx rfl (hb hby dj52m21_27) rfl q) ?_
    refine own_tp (.int (cs.getD i 0)) 30 (fun _ q => XS.iload Xj.here hx rfl (hb hby dj52m21_28) rfl q) ?_
    refine own_t1 (.int ((cs.getD i 0).toInt8.toInt32)) 31 (fun _ q => XS.i2b Xj.here hx rfl (hb hby dj52m21_30) rfl q) ?_
    obtain ⟨cl53, Ar53, q53, S53, Nn53, H53, G53⟩ := (id Vj)
    have hin53 : ¬ ((Int32.ofNat i) < 0 ∨ cl53.slots.size ≤ ((Int32.ofNat i)).toNatClampNeg) := inb_of S53 (own_inb (by omega) (by omega))
    obtain ⟨T54, h54, X54, e54, W54, st54⟩ := stB Xj hx hZ ej Ar53 (j := (Int32.ofNat i)) hin53 (g := (mkF m 31 #[.val (.ref a1), .val (.int (Int32.ofNat i)), .val (.ref b1), .val (.int (Int32.ofNat i)), .val (.int (Int32.ofNat cs.length)), .val (.int (Int32.ofNat i)), .val (.int (cs.getD i 0))] [(.int ((cs.getD i 0).toInt8.toInt32)), (.int (Int32.ofNat i)), (.ref b1)])) rfl rfl (hb hby dj52m21_31)
    have V54 := Arv.set Ar53 q53 S53 Nn53 H53 G53 (fits_nar_byte _) W54 i (own_ofn (by omega)).2 (by rw [own_A_len]; omega)
    have N54 := Fr.snoc X54 Nj g1
    have K54 : Keep h0 h54 [b1] := Kj.wr W54 (Or.inl (List.mem_of_getElem? (i := 0) rfl))
    have Z54 : n0 ≤ h54.size := Nat.le_trans Zj (Nat.le_of_eq W54.size.symm)
    have V54' : Arv Z h54 b1 k2 .byte (Int32.ofNat cs.length) ((own_A cs.length (own_fL (cs.take i))).set i (.int ((cs.getD i 0).toInt8.toInt32))) (.int (0 : Int32)) := by have q := V54; first | (rw [own_nb] at q; exact q) | (rw [own_nb2] at q; exact q)
    refine own_cs [] 32 st54 ?_
    refine own_li #[.val (.ref a1), .val (.int ((Int32.ofNat i) + (1 : Int32))), .val (.ref b1), .val (.int (Int32.ofNat i)), .val (.int (Int32.ofNat cs.length)), .val (.int (Int32.ofNat i)), .val (.int (cs.getD i 0))] 35 (fun _ q => XS.iinc X54.here hx rfl (hb hby dj52m21_32) rfl (l' := #[.val (.ref a1), .val (.int ((Int32.ofNat i) + (1 : Int32))), .val (.ref b1), .val (.int (Int32.ofNat i)), .val (.int (Int32.ofNat cs.length)), .val (.int (Int32.ofNat i)), .val (.int (cs.getD i 0))]) rfl q) ?_
    refine own_li #[.val (.ref a1), .val (.int ((Int32.ofNat i) + (1 : Int32))), .val (.ref b1), .val (.int ((Int32.ofNat i) + (1 : Int32))), .val (.int (Int32.ofNat cs.length)), .val (.int (Int32.ofNat i)), .val (.int (cs.getD i 0))] 38 (fun _ q => XS.iinc X54.here hx rfl (hb hby dj52m21_35) rfl (l' := #[.val (.ref a1), .val (.int ((Int32.ofNat i) + (1 : Int32))), .val (.ref b1), .val (.int ((Int32.ofNat i) + (1 : Int32))), .val (.int (Int32.ofNat cs.length)), .val (.int (Int32.ofNat i)), .val (.int (cs.getD i 0))]) rfl q) ?_
    refine own_li #[.val (.ref a1), .val (.int ((Int32.ofNat i) + (1 : Int32))), .val (.ref b1), .val (.int ((Int32.ofNat i) + (1 : Int32))), .val (.int (Int32.ofNat cs.length)), .val (.int ((Int32.ofNat i) + (1 : Int32))), .val (.int (cs.getD i 0))] 41 (fun _ q => XS.iinc X54.here hx rfl (hb hby dj52m21_38) rfl (l' := #[.val (.ref a1), .val (.int ((Int32.ofNat i) + (1 : Int32))), .val (.ref b1), .val (.int ((Int32.ofNat i) + (1 : Int32))), .val (.int (Int32.ofNat cs.length)), .val (.int ((Int32.ofNat i) + (1 : Int32))), .val (.int (cs.getD i 0))]) rfl q) ?_
    refine own_d0 3 (fun _ q => XS.goto X54.here hx rfl (pc0 := 41) (pc' := 3) rfl (hb hby dj52m21_41) (by decide) (by decide) q) ?_
    rw [own_succ]
    have Vn : Arv Z h54 b1 k2 .byte (Int32.ofNat cs.length) (own_A cs.length (own_fL (cs.take (i + 1)))) (.int (0 : Int32)) := by have q := V54'; rw [own_setL (by omega)] at q; exact q
    exact ih (i + 1) _ T54 _ h54 (by omega) (own_moreN hno c52) (One.val rfl) X54 N54 e54 K54 Z54 Vn
 exact loop cs.length 0 .unset s₁ _ h0 (by omega) (fun j hj => absurd hj (Nat.not_lt_zero j)) One.u X0 N0 e0 (Keep.refl h0 [b1]) Z0 (by have q := V2; rw [own_repL] at q; exact q)

def Q305 (Z : State) (cs : List Int32) (h0 : Heap) (n0 : Nat) (v : Option Value) (h : Heap) (L : List Loc) : Prop := ∃ (b : Addr) (k : ClassId), v = some (.ref b) ∧ Fr n0 L ∧ Keep h0 h [] ∧ n0 ≤ b ∧ h0.size ≤ b ∧ Arv Z h b k .byte (Int32.ofNat (2 * cs.length)) (own_wide cs) (.int (0 : Int32))

theorem rm305 (l : Launch) (Z : State) (a0 : Array Value) (hw : own_HW a0 Z) (ws : List Jvm.Cond) (a1 : Addr) (k1 : ClassId) (cs : List Int32) (h0 : Heap) (n0 : Nat) (hp0 : 0 < cs.length) (hl : cs.length ≤ 96) (Z0 : n0 ≤ h0.size) (V1 : Arv Z h0 a1 k1 .char (Int32.ofNat cs.length) (cs.map Value.int) (.int (0 : Int32))) (G1 : Int32) (US : own_US Z G1) (O0 : Old Z n0 h0) :
  own_Met l own_M54 jdk_52_method_14_code 5 (some (.array .byte)) ws own_R_2_1_300_24 Z #[(.ref a1), (.int (0 : Int32)), (.int (Int32.ofNat cs.length))] h0 (Q305 Z cs h0 n0) := by
 refine own_enter #[.val (.ref a1), .val (.int (0 : Int32)), .val (.int (Int32.ofNat cs.length)), .unset, .unset] (plainFor_of_name pn_java_lang_StringUTF16) (fun m => ef_RII_5 m a1 (0 : Int32) (Int32.ofNat cs.length)) ?_
 intro p e s m below meth c s₁ hx hby hml hown hnm hZ hrt hlk X0 e0
 have w := @own_w _ _ hw
 have N0 := Fr.nil n0
 refine own_tp (.int (Int32.ofNat cs.length)) 1 (fun _ q => XS.iloadN X0.here hx rfl (hb hby dj52m14_0) rfl q) ?_
 obtain ⟨_, _, ⟨T51, L51, k51, n51⟩, -, X51, ⟨Lc51, hQ51, l51, y51, z51⟩, st51⟩ := Jvm.LawKit.callS X0 hx (y := own_M31) hown (mvT hZ (w 207 rfl)) (mvT hZ (w 208 rfl)) (mvT hZ (w 28 rfl)) (mvT hZ (w 209 rfl)) (by decide) (backOf (W := 0) (rm302 l Z a0 hw [] cs.length h0 n0 (by omega) Z0) hZ (w 209 rfl) (w 28 rfl) (by decide) (by decide)) (g := (mkF m 1 #[.val (.ref a1), .val (.int (0 : Int32)), .val (.int (Int32.ofNat cs.length)), .unset, .unset] [(.int (Int32.ofNat cs.length))])) rfl (by rw [hml]; rfl) (argsL := [(.int (Int32.ofNat cs.length))]) (rest := []) (lenOf pd21 rfl) rfl (by show 2 * 0 + _ ≤ _; exact Nat.le_of_eq rfl) (hb hby dj52m14_1) (fun _ _ => ⟨rfl, e0, (by decide : 0 + 1 ≤ _), (by decide : 0 + 300 ≤ _)⟩)
 dsimp only [Pt.U, Pt.locs, Pt.cells, Pt.slots] at X51 l51 y51 z51 st51 hQ51
 subst l51 y51 z51
 obtain ⟨nb51, kn51, rfl, Nq51, Kp51, ge51, sz51, V51⟩ := hQ51
 have ne52 : a1 ≠ nb51 := Nat.ne_of_lt (Nat.lt_of_lt_of_le V1.lt sz51)
 have s0nb51 : h0.size ≤ nb51 := Nat.le_trans (Keep.refl h0 []).1 sz51
 have N51 := Fr.app N0 Nq51
 have O51 := Old.keep O0 Kp51 all0
 have Z51 : n0 ≤ T51.heap.size := Nat.le_trans Z0 Kp51.1
 have K51 : Keep h0 T51.heap [] := Keep.trans (Keep.refl h0 []) Kp51 all0
 have V51_ : Arv Z T51.heap nb51 kn51 .byte (Int32.ofNat (2 * cs.length)) (own_A (2 * cs.length) (own_fW [])) (.int (0 : Int32)) := by have q := V51; rw [own_repW] at q; exact q
 refine own_t1 (.ref nb51) 4 st51 ?_
 refine own_ls #[.val (.ref a1), .val (.int (0 : Int32)), .val (.int (Int32.ofNat cs.length)), .val (.ref nb51), .unset] 5 (fun _ q => XS.astoreN X51.here hx rfl (hb hby dj52m14_4) rfl rfl (l' := #[.val (.ref a1), .val (.int (0 : Int32)), .val (.int (Int32.ofNat cs.length)), .val (.ref nb51), .unset]) rfl q) ?_
 refine own_tp (.int (0 : Int32)) 6 (fun _ q => XS.iconst X51.here hx rfl (hb hby dj52m14_5) q) ?_
 refine own_ls #[.val (.ref a1), .val (.int (0 : Int32)), .val (.int (Int32.ofNat cs.length)), .val (.ref nb51), .val (.int (0 : Int32))] 8 (fun _ q => XS.istore X51.here hx rfl (hb hby dj52m14_6) rfl (l' := #[.val (.ref a1), .val (.int (0 : Int32)), .val (.int (Int32.ofNat cs.length)), .val (.ref nb51), .val (.int (0 : Int32))]) rfl q) ?_
 have loop : ∀ (r i : Nat) (Tj : State) (lj : List Loc) (hj : Heap), i + r = cs.length → Stand p l e own_R_2_1_300_24 s m #[(.ref a1), (.int (0 : Int32)), (.int (Int32.ofNat cs.length))] below meth c Tj lj 1 300 → Fr n0 lj → Tj.heap = hj → Keep h0 hj [] → n0 ≤ hj.size → Old Z n0 hj → Arv Z hj nb51 kn51 .byte (Int32.ofNat (2 * cs.length)) (own_A (2 * cs.length) (own_fW (cs.take i))) (.int (0 : Int32)) → own_Goes p e below (own_FN s (Q305 Z cs h0 n0) own_R_2_1_300_24.cells own_R_2_1_300_24.slots) (Tj.setTop (mkF m 8 #[.val (.ref a1), .val (.int (Int32.ofNat i)), .val (.int (Int32.ofNat cs.length)), .val (.ref nb51), .val (.int (Int32.ofNat i))] [])) := by
  intro r
  induction r with
  | zero =>
   intro i Tj lj hj hi Xj Nj ej Kj Zj Oj Vj
   have hlt : ¬ ((Int32.ofNat i) < (Int32.ofNat cs.length)) := fun q => by have := (own_ltn (by omega) (by omega)).mp q; omega
   refine own_tp (.int (Int32.ofNat i)) 10 (fun _ q => XS.iload Xj.here hx rfl (hb hby dj52m14_8) rfl q) ?_
   refine own_tp (.int (Int32.ofNat cs.length)) 11 (fun _ q => XS.iloadN Xj.here hx rfl (hb hby dj52m14_10) rfl q) ?_
   refine own_d2 32 (fun _ q => XS.icmpYes Xj.here hx rfl (pc0 := 11) (pc' := 32) rfl (hb hby dj52m14_11) rfl (flt hlt).2.1 (by decide) (by decide) q) ?_
   refine own_tp (.ref nb51) 33 (fun _ q => XS.aloadN Xj.here hx rfl (hb hby dj52m14_32) rfl rfl q) ?_
   exact own_retR Xj hx hrt (hb hby dj52m14_33) rfl rfl hlk (by decide) (by decide) ej (⟨nb51, _, rfl, Nj, Kj, ge51, s0nb51, by have q := Vj; rw [List.take_of_length_le (by omega)] at q; rw [own_wideA]; exact q⟩)
  | succ r ih =>
   intro i Tj lj hj hi Xj Nj ej Kj Zj Oj Vj
   have hlt : (Int32.ofNat i) < (Int32.ofNat cs.length) := (own_ltn (by omega) (by omega)).mpr (by omega)
   refine own_tp (.int (Int32.ofNat i)) 10 (fun _ q => XS.iload Xj.here hx rfl (hb hby dj52m14_8) rfl q) ?_
   refine own_tp (.int (Int32.ofNat cs.length)) 11 (fun _ q => XS.iloadN Xj.here hx rfl (hb hby dj52m14_10) rfl q) ?_
   refine own_d2 14 (fun _ q => XS.icmpNo Xj.here hx rfl (hb hby dj52m14_11) rfl (tlt hlt).2.1 q) ?_
   refine own_tp (.ref nb51) 15 (fun _ q => XS.aloadN Xj.here hx rfl (hb hby dj52m14_14) rfl rfl q) ?_
   refine own_tp (.int (Int32.ofNat i)) 17 (fun _ q => XS.iload Xj.here hx rfl (hb hby dj52m14_15) rfl q) ?_
   refine own_tp (.ref a1) 18 (fun _ q => XS.aloadN Xj.here hx rfl (hb hby dj52m14_17) rfl rfl q) ?_
   refine own_tp (.int (Int32.ofNat i)) 19 (fun _ q => XS.iloadN Xj.here hx rfl (hb hby dj52m14_18) rfl q) ?_
   obtain ⟨cl53, Ar53, q53, S53, Nn53, H53, G53⟩ := (id (V1.keep Kj nin0))
   have hin53 : ¬ ((Int32.ofNat i) < 0 ∨ cl53.slots.size ≤ ((Int32.ofNat i)).toNatClampNeg) := inb_of S53 (own_inb (by omega) (by omega))
   have hat53 : cl53.slots[((Int32.ofNat i)).toNatClampNeg]? = some (.int (cs.getD i 0)) := H53.at hin53 (by rw [(own_ofn (by omega)).2]; exact own_mapV cs i _ (by omega))
   refine own_t2 (.int (cs.getD i 0)) 20 (fun _ q => Xj.caload hx (j := (Int32.ofNat i)) (v := (.int (cs.getD i 0))) (by rw [ej]; exact Ar53.1) (State.isArrayOf_alike hZ.alike Ar53.2.1) Ar53.2.2 hin53 hat53 (g := (mkF m 19 #[.val (.ref a1), .val (.int (Int32.ofNat i)), .val (.int (Int32.ofNat cs.length)), .val (.ref nb51), .val (.int (Int32.ofNat i))] [(.int (Int32.ofNat i)), (.ref a1), (.int (Int32.ofNat i)), (.ref nb51)])) rfl rfl (hb hby dj52m14_19) _ q) ?_
   obtain ⟨_, _, ⟨T54, L54, k54, n54⟩, -, X54, ⟨Lc54, hQ54, l54, y54, z54⟩, st54⟩ := Jvm.LawKit.callS Xj hx (y := own_M35) hown (mvT hZ (w 214 rfl)) (mvT hZ (w 215 rfl)) (mvT hZ (w 28 rfl)) (mvT hZ (w 216 rfl)) (by decide) (backOf (W := 0) (rm303 l Z a0 hw [] nb51 kn51 i (cs.getD i 0) (own_A (2 * cs.length) (own_fW (cs.take i))) hj n0 Zj ge51 (by rw [own_A_len]; omega) (by rw [own_A_len]; omega) (by rw [own_A_len]; exact Vj) G1 US Oj) hZ (w 216 rfl) (w 28 rfl) (by decide) (by decide)) (g := (mkF m 20 #[.val (.ref a1), .val (.int (Int32.ofNat i)), .val (.int (Int32.ofNat cs.length)), .val (.ref nb51), .val (.int (Int32.ofNat i))] [(.int (cs.getD i 0)), (.int (Int32.ofNat i)), (.ref nb51)])) rfl (by rw [hml]; rfl) (argsL := [(.ref nb51), (.int (Int32.ofNat i)), (.int (cs.getD i 0))]) (rest := []) (lenOf pd19 rfl) rfl (by show 2 * 0 + _ ≤ _; exact Nat.le_of_eq rfl) (hb hby dj52m14_20) (fun _ _ => ⟨rfl, ej, (by decide : 1 + 0 ≤ _), (by decide : 300 + 0 ≤ _)⟩)
   dsimp only [Pt.U, Pt.locs, Pt.cells, Pt.slots] at X54 l54 y54 z54 st54 hQ54
   subst l54 y54 z54
   obtain ⟨rfl, Nq54, Kp54, V54⟩ := hQ54
   have N54 := Fr.app Nj Nq54
   have O54 := Old.keep Oj Kp54 (allS ge51 all0)
   have Z54 : n0 ≤ T54.heap.size := Nat.le_trans Zj Kp54.1
   have K54 : Keep h0 T54.heap [] := Keep.trans Kj Kp54 (allS (Or.inr s0nb51) all0)
   have V54' : Arv Z T54.heap nb51 kn51 .byte (Int32.ofNat (2 * cs.length)) (own_A (2 * cs.length) (own_fW (cs.take (i + 1)))) (.int (0 : Int32)) := by have q := V54; rw [own_A_len, own_setW (by omega)] at q; exact q
   refine own_cs [] 23 st54 ?_
   refine own_li #[.val (.ref a1), .val (.int ((Int32.ofNat i) + (1 : Int32))), .val (.int (Int32.ofNat cs.length)), .val (.ref nb51), .val (.int (Int32.ofNat i))] 26 (fun _ q => XS.iinc X54.here hx rfl (hb hby dj52m14_23) rfl (l' := #[.val (.ref a1), .val (.int ((Int32.ofNat i) + (1 : Int32))), .val (.int (Int32.ofNat cs.length)), .val (.ref nb51), .val (.int (Int32.ofNat i))]) rfl q) ?_
   refine own_li #[.val (.ref a1), .val (.int ((Int32.ofNat i) + (1 : Int32))), .val (.int (Int32.ofNat cs.length)), .val (.ref nb51), .val (.int ((Int32.ofNat i) + (1 : Int32)))] 29 (fun _ q => XS.iinc X54.here hx rfl (hb hby dj52m14_26) rfl (l' := #[.val (.ref a1), .val (.int ((Int32.ofNat i) + (1 : Int32))), .val (.int (Int32.ofNat cs.length)), .val (.ref nb51), .val (.int ((Int32.ofNat i) + (1 : Int32)))]) rfl q) ?_
   refine own_d0 8 (fun _ q => XS.goto X54.here hx rfl (pc0 := 29) (pc' := 8) rfl (hb hby dj52m14_29) (by decide) (by decide) q) ?_
   rw [own_succ]
   exact ih (i + 1) T54 _ T54.heap (by omega) X54 N54 rfl K54 Z54 O54 V54'
 exact loop cs.length 0 T51 _ T51.heap (by omega) X51 N51 rfl K51 Z51 O51 V51_

def Q306 (Z : State) (cs : List Int32) (h0 : Heap) (n0 : Nat) (v : Option Value) (h : Heap) (L : List Loc) : Prop := ∃ (b : Addr) (k : ClassId), v = some (.ref b) ∧ Fr n0 L ∧ Keep h0 h [] ∧ n0 ≤ b ∧ h0.size ≤ b ∧ (((∀ c ∈ cs, ¬ (255 : Int32) < c) ∧ Arv Z h b k .byte (Int32.ofNat cs.length) (own_lows cs) (.int (0 : Int32))) ∨ ((∃ c ∈ cs, (255 : Int32) < c) ∧ Arv Z h b k .byte (Int32.ofNat (2 * cs.length)) (own_wide cs) (.int (0 : Int32))))

theorem rm306 (l : Launch) (Z : State) (a0 : Array Value) (hw : own_HW a0 Z) (ws : List Jvm.Cond) (a1 : Addr) (k1 : ClassId) (cs : List Int32) (h0 : Heap) (n0 : Nat) (hp0 : 0 < cs.length) (hl : cs.length ≤ 96) (hch : ∀ c ∈ cs, 0 ≤ c.toInt ∧ c.toInt ≤ 65535) (Z0 : n0 ≤ h0.size) (V1 : Arv Z h0 a1 k1 .char (Int32.ofNat cs.length) (cs.map Value.int) (.int (0 : Int32))) (G1 : Int32) (US : own_US Z G1) (O0 : Old Z n0 h0) :
  own_Met l own_M55 jdk_52_method_16_code 6 (some (.array .byte)) ws own_R_3_2_400_42 Z #[(.ref a1), (.int (0 : Int32)), (.int (Int32.ofNat cs.length))] h0 (Q306 Z cs h0 n0) := by
 refine own_enter #[.val (.ref a1), .val (.int (0 : Int32)), .val (.int (Int32.ofNat cs.length)), .unset, .unset, .unset] (plainFor_of_name pn_java_lang_StringUTF16) (fun m => ef_RII_6 m a1 (0 : Int32) (Int32.ofNat cs.length)) ?_
 intro p e s m below meth c s₁ hx hby hml hown hnm hZ hrt hlk X0 e0
 have w := @own_w _ _ hw
 have N0 := Fr.nil n0
 refine own_tp (.int (Int32.ofNat cs.length)) 1 (fun _ q => XS.iloadN X0.here hx rfl (hb hby dj52m16_0) rfl q) ?_
 obtain ⟨T51, h51, k51, X51, e51, E51, A51, st51⟩ := newP X0 hx hZ (w 17 rfl) e0 (g := (mkF m 1 #[.val (.ref a1), .val (.int (0 : Int32)), .val (.int (Int32.ofNat cs.length)), .unset, .unset, .unset] [(.int (Int32.ofNat cs.length))])) rfl (hb hby dj52m16_1) rfl (own_ofn (by omega)).1 (cap := 96) (by rw [(own_ofn (by omega)).2]; omega) (by decide) (by decide) (by decide)
 obtain ⟨b51, g51⟩ : ∃ z, z = h0.size := ⟨_, rfl⟩
 rw [← g51] at A51 st51
 have V51 : Arv Z h51 b51 k51 .byte (Int32.ofNat cs.length) (List.replicate cs.length (.int (0 : Int32))) (.int (0 : Int32)) := (Arv.new A51 (own_ofn (by omega)).1).pad (pad_rep [] (.int (0 : Int32)) cs.length)
 have ge51 : n0 ≤ b51 := Nat.le_trans Z0 (Nat.le_of_eq g51.symm)
 have sz51 : h0.size ≤ b51 := Nat.le_trans (Keep.refl h0 []).1 (Nat.le_of_eq g51.symm)
 have ne52 : a1 ≠ b51 := Nat.ne_of_lt (Nat.lt_of_lt_of_le V1.lt (Nat.le_of_eq g51.symm))
 have O51 := Old.ext O0 E51
 have K51 : Keep h0 h51 [] := (Keep.refl h0 []).ext E51
 have Z51 : n0 ≤ h51.size := Nat.le_trans Z0 E51.1
 refine own_t1 (.ref b51) 3 st51 ?_
 refine own_ls #[.val (.ref a1), .val (.int (0 : Int32)), .val (.int (Int32.ofNat cs.length)), .val (.ref b51), .unset, .unset] 4 (fun _ q => XS.astoreN X51.here hx rfl (hb hby dj52m16_3) rfl rfl (l' := #[.val (.ref a1), .val (.int (0 : Int32)), .val (.int (Int32.ofNat cs.length)), .val (.ref b51), .unset, .unset]) rfl q) ?_
 refine own_tp (.ref a1) 5 (fun _ q => XS.aloadN X51.here hx rfl (hb hby dj52m16_4) rfl rfl q) ?_
 refine own_tp (.int (0 : Int32)) 6 (fun _ q => XS.iloadN X51.here hx rfl (hb hby dj52m16_5) rfl q) ?_
 refine own_tp (.ref b51) 7 (fun _ q => XS.aloadN X51.here hx rfl (hb hby dj52m16_6) rfl rfl q) ?_
 refine own_tp (.int (0 : Int32)) 8 (fun _ q => XS.iconst X51.here hx rfl (hb hby dj52m16_7) q) ?_
 refine own_tp (.int (Int32.ofNat cs.length)) 9 (fun _ q => XS.iloadN X51.here hx rfl (hb hby dj52m16_8) rfl q) ?_
 have f53 := (V1.ext E51)
 obtain ⟨_, _, ⟨T54, L54, k54, n54⟩, -, X54, ⟨Lc54, hQ54, l54, y54, z54⟩, st54⟩ := Jvm.LawKit.callS X51 hx (y := own_M53) hown (mvT hZ (w 30 rfl)) (mvT hZ (w 31 rfl)) (mvT hZ (w 28 rfl)) (mvT hZ (w 32 rfl)) (by decide) (backOf (W := 0) (rm304 l Z a0 hw [] a1 b51 k1 k51 cs h51 n0 hp0 hl Z51 ge51 ne52 f53 V51) hZ (w 32 rfl) (w 28 rfl) (by decide) (by decide)) (g := (mkF m 9 #[.val (.ref a1), .val (.int (0 : Int32)), .val (.int (Int32.ofNat cs.length)), .val (.ref b51), .unset, .unset] [(.int (Int32.ofNat cs.length)), (.int (0 : Int32)), (.ref b51), (.int (0 : Int32)), (.ref a1)])) rfl (by rw [hml]; rfl) (argsL := [(.ref a1), (.int (0 : Int32)), (.ref b51), (.int (0 : Int32)), (.int (Int32.ofNat cs.length))]) (rest := []) (lenOf pd33 rfl) rfl (by show 2 * 0 + _ ≤ _; exact Nat.le_of_eq rfl) (hb hby dj52m16_9) (fun _ _ => ⟨rfl, e51, (by decide : 1 + 0 ≤ _), (by decide : 96 + 0 ≤ _)⟩)
 dsimp only [Pt.U, Pt.locs, Pt.cells, Pt.slots] at X54 l54 y54 z54 st54 hQ54
 subst l54 y54 z54
 obtain ⟨Nq54, Kp54, hD54⟩ := hQ54
 have N54 := Fr.app N0 Nq54
 have O54 := Old.keep O51 Kp54 (allS ge51 all0)
 have Z54 : n0 ≤ T54.heap.size := Nat.le_trans Z51 Kp54.1
 have K54 : Keep h0 T54.heap [] := Keep.trans K51 Kp54 (allS (Or.inr sz51) all0)
 rcases hD54 with ⟨i, hi, rfl, hxw⟩ | ⟨rfl, hxw, VL⟩
 ·
  refine own_cs [(.int (Int32.ofNat i))] 12 st54 ?_
  refine own_ls #[.val (.ref a1), .val (.int (0 : Int32)), .val (.int (Int32.ofNat cs.length)), .val (.ref b51), .val (.int (Int32.ofNat i)), .unset] 14 (fun _ q => XS.istore X54.here hx rfl (hb hby dj52m16_12) rfl (l' := #[.val (.ref a1), .val (.int (0 : Int32)), .val (.int (Int32.ofNat cs.length)), .val (.ref b51), .val (.int (Int32.ofNat i)), .unset]) rfl q) ?_
  refine own_tp (.int (Int32.ofNat i)) 16 (fun _ q => XS.iload X54.here hx rfl (hb hby dj52m16_14) rfl q) ?_
  refine own_tp (.int (Int32.ofNat cs.length)) 17 (fun _ q => XS.iloadN X54.here hx rfl (hb hby dj52m16_16) rfl q) ?_
  refine own_d2 20 (fun _ q => XS.icmpNo X54.here hx rfl (hb hby dj52m16_17) rfl (feq (own_nei hl hi)).1 q) ?_
  refine own_tp (.ref a1) 21 (fun _ q => XS.aloadN X54.here hx rfl (hb hby dj52m16_20) rfl rfl q) ?_
  refine own_tp (.int (0 : Int32)) 22 (fun _ q => XS.iloadN X54.here hx rfl (hb hby dj52m16_21) rfl q) ?_
  refine own_tp (.int (Int32.ofNat cs.length)) 23 (fun _ q => XS.iloadN X54.here hx rfl (hb hby dj52m16_22) rfl q) ?_
  have f55 := (f53.keep Kp54 (ninS ne52 nin0))
  obtain ⟨_, _, ⟨T56, L56, k56, n56⟩, -, X56, ⟨Lc56, hQ56, l56, y56, z56⟩, st56⟩ := Jvm.LawKit.callS X54 hx (y := own_M54) hown (mvT hZ (w 204 rfl)) (mvT hZ (w 205 rfl)) (mvT hZ (w 28 rfl)) (mvT hZ (w 206 rfl)) (by decide) (backOf (W := 0) (rm305 l Z a0 hw [] a1 k1 cs T54.heap n0 hp0 hl Z54 f55 G1 US O54) hZ (w 206 rfl) (w 28 rfl) (by decide) (by decide)) (g := (mkF m 23 #[.val (.ref a1), .val (.int (0 : Int32)), .val (.int (Int32.ofNat cs.length)), .val (.ref b51), .val (.int (Int32.ofNat i)), .unset] [(.int (Int32.ofNat cs.length)), (.int (0 : Int32)), (.ref a1)])) rfl (by rw [hml]; rfl) (argsL := [(.ref a1), (.int (0 : Int32)), (.int (Int32.ofNat cs.length))]) (rest := []) (lenOf pd34 rfl) rfl (by show 2 * 0 + _ ≤ _; exact Nat.le_of_eq rfl) (hb hby dj52m16_23) (fun _ _ => ⟨rfl, rfl, (by decide : 1 + 1 ≤ _), (by decide : 96 + 300 ≤ _)⟩)
  dsimp only [Pt.U, Pt.locs, Pt.cells, Pt.slots] at X56 l56 y56 z56 st56 hQ56
  subst l56 y56 z56
  obtain ⟨ub56, ku56, rfl, Nq56, Kp56, ge56, sz56, V56⟩ := hQ56
  have ne57 : a1 ≠ ub56 := Nat.ne_of_lt (Nat.lt_of_lt_of_le f55.lt sz56)
  have s0ub56 : h0.size ≤ ub56 := Nat.le_trans K54.1 sz56
  have N56 := Fr.app N54 Nq56
  have O56 := Old.keep O54 Kp56 all0
  have Z56 : n0 ≤ T56.heap.size := Nat.le_trans Z54 Kp56.1
  have K56 : Keep h0 T56.heap [] := Keep.trans K54 Kp56 all0
  refine own_cs [(.ref ub56)] 26 st56 ?_
  refine own_ls #[.val (.ref a1), .val (.int (0 : Int32)), .val (.int (Int32.ofNat cs.length)), .val (.ref b51), .val (.int (Int32.ofNat i)), .val (.ref ub56)] 28 (fun _ q => XS.astore X56.here hx rfl (hb hby dj52m16_26) rfl rfl (l' := #[.val (.ref a1), .val (.int (0 : Int32)), .val (.int (Int32.ofNat cs.length)), .val (.ref b51), .val (.int (Int32.ofNat i)), .val (.ref ub56)]) rfl q) ?_
  refine own_tp (.ref ub56) 30 (fun _ q => XS.aload X56.here hx rfl (hb hby dj52m16_28) rfl rfl q) ?_
  refine own_tp (.int (Int32.ofNat i)) 32 (fun _ q => XS.iload X56.here hx rfl (hb hby dj52m16_30) rfl q) ?_
  obtain ⟨_, _, ⟨T58, L58, k58, n58⟩, -, X58, ⟨Lc58, hQ58, l58, y58, z58⟩, st58⟩ := Jvm.LawKit.callS X56 hx (y := own_M0) hown (mvT hZ (w 220 rfl)) (mvT hZ (w 221 rfl)) (mvT hZ (w 28 rfl)) (mvT hZ (w 222 rfl)) (by decide) (backOf (W := 0) (rm300 l Z a0 hw [] ub56 ku56 i cs T56.heap n0 (by omega) (by omega) (hch _ (own_mem cs i (by omega))) V56 G1 US O56) hZ (w 222 rfl) (w 28 rfl) (by decide) (by decide)) (g := (mkF m 32 #[.val (.ref a1), .val (.int (0 : Int32)), .val (.int (Int32.ofNat cs.length)), .val (.ref b51), .val (.int (Int32.ofNat i)), .val (.ref ub56)] [(.int (Int32.ofNat i)), (.ref ub56)])) rfl (by rw [hml]; rfl) (argsL := [(.ref ub56), (.int (Int32.ofNat i))]) (rest := []) (lenOf pd4 rfl) rfl (by show 2 * 0 + _ ≤ _; exact Nat.le_of_eq rfl) (hb hby dj52m16_32) (fun _ _ => ⟨rfl, rfl, (by decide : 2 + 0 ≤ _), (by decide : 396 + 0 ≤ _)⟩)
  dsimp only [Pt.U, Pt.locs, Pt.cells, Pt.slots] at X58 l58 y58 z58 st58 hQ58
  subst l58 y58 z58
  obtain ⟨rfl, Nq58, eq58⟩ := hQ58
  have N58 := Fr.app N56 Nq58
  refine own_t2 (.int (cs.getD i 0)) 35 st58 ?_
  refine own_tp (.int (255 : Int32)) 38 (fun _ q => XS.sipush X58.here hx rfl (hb hby dj52m16_35) q) ?_
  refine own_d2 54 (fun _ q => XS.icmpYes X58.here hx rfl (pc0 := 38) (pc' := 54) rfl (hb hby dj52m16_38) rfl (tlt hxw).2.2.1 (by decide) (by decide) q) ?_
  refine own_tp (.ref ub56) 56 (fun _ q => XS.aload X58.here hx rfl (hb hby dj52m16_54) rfl rfl q) ?_
  exact own_retR X58 hx hrt (hb hby dj52m16_56) rfl rfl hlk (by decide) (by decide) eq58 (⟨ub56, _, rfl, N58, K56, ge56, s0ub56, Or.inr ⟨⟨cs.getD i 0, own_mem cs i (by omega), hxw⟩, V56⟩⟩)
 ·
  refine own_cs [(.int (Int32.ofNat cs.length))] 12 st54 ?_
  refine own_ls #[.val (.ref a1), .val (.int (0 : Int32)), .val (.int (Int32.ofNat cs.length)), .val (.ref b51), .val (.int (Int32.ofNat cs.length)), .unset] 14 (fun _ q => XS.istore X54.here hx rfl (hb hby dj52m16_12) rfl (l' := #[.val (.ref a1), .val (.int (0 : Int32)), .val (.int (Int32.ofNat cs.length)), .val (.ref b51), .val (.int (Int32.ofNat cs.length)), .unset]) rfl q) ?_
  refine own_tp (.int (Int32.ofNat cs.length)) 16 (fun _ q => XS.iload X54.here hx rfl (hb hby dj52m16_14) rfl q) ?_
  refine own_tp (.int (Int32.ofNat cs.length)) 17 (fun _ q => XS.iloadN X54.here hx rfl (hb hby dj52m16_16) rfl q) ?_
  refine own_d2 57 (fun _ q => XS.icmpYes X54.here hx rfl (pc0 := 17) (pc' := 57) rfl (hb hby dj52m16_17) rfl (teq rfl).1 (by decide) (by decide) q) ?_
  refine own_tp (.ref b51) 58 (fun _ q => XS.aloadN X54.here hx rfl (hb hby dj52m16_57) rfl rfl q) ?_
  exact own_retR X54 hx hrt (hb hby dj52m16_58) rfl rfl hlk (by decide) (by decide) rfl (⟨b51, _, rfl, N54, K54, ge51, sz51, Or.inl ⟨hxw, VL⟩⟩)

def Q307  (h0 : Heap) (n0 : Nat) (v : Option Value) (h : Heap) (L : List Loc) : Prop := v = some (.int (0 : Int32)) ∧ Fr n0 L ∧ h = h0

theorem rm307 (l : Launch) (Z : State) (a0 : Array Value) (hw : own_HW a0 Z) (ws : List Jvm.Cond) (b1 : Addr) (k1 : ClassId) (vs1 : List Value) (cs : List Int32) (h0 : Heap) (n0 : Nat) (hp0 : 0 < cs.length) (hl : cs.length ≤ 96) (V1 : Arv Z h0 b1 k1 .byte (Int32.ofNat cs.length) vs1 (.int (0 : Int32))) :
  own_Met l own_M56 jdk_52_method_15_code 2 (some .byte) ws own_R_0_0_0_0 Z #[(.ref b1), (.int (Int32.ofNat cs.length))] h0 (Q307 h0 n0) := by
 refine own_enter #[.val (.ref b1), .val (.int (Int32.ofNat cs.length))] (plainFor_of_name pn_java_lang_StringUTF16) (fun m => ef_RI_2 m b1 (Int32.ofNat cs.length)) ?_
 intro p e s m below meth c s₁ hx hby hml hown hnm hZ hrt hlk X0 e0
 have w := @own_w _ _ hw
 have N0 := Fr.nil n0
 refine own_tp (.int (Int32.ofNat cs.length)) 1 (fun _ q => XS.iloadN X0.here hx rfl (hb hby dj52m15_0) rfl q) ?_
 refine own_tp (.ref b1) 2 (fun _ q => XS.aloadN X0.here hx rfl (hb hby dj52m15_1) rfl rfl q) ?_
 obtain ⟨cl51, Ar51, -, Sz51, Nn51, -, -⟩ := (id V1)
 refine own_t1 (.int (Int32.ofNat cs.length)) 3 (fun t q => X0.arraylength hx (by rw [e0]; exact Ar51.1) (State.isArrayOf_alike hZ.alike Ar51.2.1) (g := (mkF m 2 #[.val (.ref b1), .val (.int (Int32.ofNat cs.length))] [(.ref b1), (.int (Int32.ofNat cs.length))])) rfl rfl (hb hby dj52m15_2) _ (by rw [len_of Sz51 Nn51]; exact q)) ?_
 refine own_t2 (.int ((Int32.ofNat cs.length) - (Int32.ofNat cs.length))) 4 (fun _ q => XS.isub X0.here hx rfl (hb hby dj52m15_3) rfl q) ?_
 refine own_tp (.int (31 : Int32)) 6 (fun _ q => XS.bipush X0.here hx rfl (hb hby dj52m15_4) q) ?_
 refine own_t2 (.int ((((Int32.ofNat cs.length) - (Int32.ofNat cs.length)).toUInt32 >>> ((31 : Int32) &&& 31).toUInt32).toInt32)) 7 (fun _ q => XS.iushr X0.here hx rfl (hb hby dj52m15_6) rfl q) ?_
 refine own_t1 (.int (((((Int32.ofNat cs.length) - (Int32.ofNat cs.length)).toUInt32 >>> ((31 : Int32) &&& 31).toUInt32).toInt32).toInt8.toInt32)) 8 (fun _ q => XS.i2b X0.here hx rfl (hb hby dj52m15_7) rfl q) ?_
 exact own_retN (t := .byte) X0 hx hrt (hb hby dj52m15_8) (by simp) hlk (by decide) (by decide) e0 (⟨by rw [own_cl0 _ (by omega)]; rfl, N0, rfl⟩)

def Q308  (h0 : Heap) (n0 : Nat) (v : Option Value) (h : Heap) (L : List Loc) : Prop := v = some (.int (1 : Int32)) ∧ Fr n0 L ∧ h = h0

theorem rm308 (l : Launch) (Z : State) (a0 : Array Value) (hw : own_HW a0 Z) (ws : List Jvm.Cond) (b1 : Addr) (k1 : ClassId) (vs1 : List Value) (cs : List Int32) (h0 : Heap) (n0 : Nat) (hp0 : 0 < cs.length) (hl : cs.length ≤ 96) (V1 : Arv Z h0 b1 k1 .byte (Int32.ofNat (2 * cs.length)) vs1 (.int (0 : Int32))) :
  own_Met l own_M56 jdk_52_method_15_code 2 (some .byte) ws own_R_0_0_0_0 Z #[(.ref b1), (.int (Int32.ofNat cs.length))] h0 (Q308 h0 n0) := by
 refine own_enter #[.val (.ref b1), .val (.int (Int32.ofNat cs.length))] (plainFor_of_name pn_java_lang_StringUTF16) (fun m => ef_RI_2 m b1 (Int32.ofNat cs.length)) ?_
 intro p e s m below meth c s₁ hx hby hml hown hnm hZ hrt hlk X0 e0
 have w := @own_w _ _ hw
 have N0 := Fr.nil n0
 refine own_tp (.int (Int32.ofNat cs.length)) 1 (fun _ q => XS.iloadN X0.here hx rfl (hb hby dj52m15_0) rfl q) ?_
 refine own_tp (.ref b1) 2 (fun _ q => XS.aloadN X0.here hx rfl (hb hby dj52m15_1) rfl rfl q) ?_
 obtain ⟨cl51, Ar51, -, Sz51, Nn51, -, -⟩ := (id V1)
 refine own_t1 (.int (Int32.ofNat (2 * cs.length))) 3 (fun t q => X0.arraylength hx (by rw [e0]; exact Ar51.1) (State.isArrayOf_alike hZ.alike Ar51.2.1) (g := (mkF m 2 #[.val (.ref b1), .val (.int (Int32.ofNat cs.length))] [(.ref b1), (.int (Int32.ofNat cs.length))])) rfl rfl (hb hby dj52m15_2) _ (by rw [len_of Sz51 Nn51]; exact q)) ?_
 refine own_t2 (.int ((Int32.ofNat cs.length) - (Int32.ofNat (2 * cs.length)))) 4 (fun _ q => XS.isub X0.here hx rfl (hb hby dj52m15_3) rfl q) ?_
 refine own_tp (.int (31 : Int32)) 6 (fun _ q => XS.bipush X0.here hx rfl (hb hby dj52m15_4) q) ?_
 refine own_t2 (.int ((((Int32.ofNat cs.length) - (Int32.ofNat (2 * cs.length))).toUInt32 >>> ((31 : Int32) &&& 31).toUInt32).toInt32)) 7 (fun _ q => XS.iushr X0.here hx rfl (hb hby dj52m15_6) rfl q) ?_
 refine own_t1 (.int (((((Int32.ofNat cs.length) - (Int32.ofNat (2 * cs.length))).toUInt32 >>> ((31 : Int32) &&& 31).toUInt32).toInt32).toInt8.toInt32)) 8 (fun _ q => XS.i2b X0.here hx rfl (hb hby dj52m15_7) rfl q) ?_
 exact own_retN (t := .byte) X0 hx hrt (hb hby dj52m15_8) (by simp) hlk (by decide) (by decide) e0 (⟨by rw [own_cl1 _ (by omega) hp0]; rfl, N0, rfl⟩)

def Q309 (Z : State) (x1 : Addr) (cs : List Int32) (h0 : Heap) (n0 : Nat) (v : Option Value) (h : Heap) (L : List Loc) : Prop := v = none ∧ Fr n0 L ∧ Keep h0 h [x1] ∧ ∃ (t : Addr) (kb : ClassId) (cd N : Int32) (vs : List Value), n0 ≤ t ∧ h0.size ≤ t ∧ Exa Z h x1 "java/lang/String" ∧ Fld Z h x1 "java/lang/String" "value" "[B" (.ref t) ∧ Fld Z h x1 "java/lang/String" "coder" "B" (.int cd) ∧ Arv Z h t kb .byte N vs (.int (0 : Int32)) ∧ own_Cod cs cd N vs

theorem rm309 (l : Launch) (Z : State) (a0 : Array Value) (hw : own_HW a0 Z) (ws : List Jvm.Cond) (x1 a1 : Addr) (k1 : ClassId) (cs : List Int32) (u1 u2 : Value) (h0 : Heap) (n0 : Nat) (hp0 : 0 < cs.length) (hl : cs.length ≤ 96) (hch : ∀ c ∈ cs, 0 ≤ c.toInt ∧ c.toInt ≤ 65535) (Z0 : n0 ≤ h0.size) (g1 : n0 ≤ x1) (hxa : x1 ≠ a1) (V1 : Arv Z h0 a1 k1 .char (Int32.ofNat cs.length) (cs.map Value.int) (.int (0 : Int32))) (E1 : Exa Z h0 x1 "java/lang/String") (F1 : Fld Z h0 x1 "java/lang/String" "value" "[B" u1) (F2 : Fld Z h0 x1 "java/lang/String" "coder" "B" u2) (G1 : Int32) (US : own_US Z G1) (O0 : Old Z n0 h0) :
  own_Met l own_M51 jdk_42_method_149_code 6 none ws own_R_4_2_400_61 Z #[(.ref x1), (.ref a1), (.int (0 : Int32)), (.int (Int32.ofNat cs.length)), .null] h0 (Q309 Z x1 cs h0 n0) := by
 refine own_enter #[.val (.ref x1), .val (.ref a1), .val (.int (0 : Int32)), .val (.int (Int32.ofNat cs.length)), .val .null, .unset] (plainFor_of_name pn_java_lang_String) (fun m => ef_RRIIN_6 m x1 a1 (0 : Int32) (Int32.ofNat cs.length)) ?_
 intro p e s m below meth c s₁ hx hby hml hown hnm hZ hrt hlk X0 e0
 have w := @own_w _ _ hw
 have N0 := Fr.nil n0
 refine own_tp (.ref x1) 1 (fun _ q => XS.aloadN X0.here hx rfl (hb hby dj42m149_0) rfl rfl q) ?_
 obtain ⟨T51, X51, e51, st51⟩ := initO X0 hx hZ hown (w 13 rfl) (w 14 rfl) (w 15 rfl) e0 (g := (mkF m 1 #[.val (.ref x1), .val (.ref a1), .val (.int (0 : Int32)), .val (.int (Int32.ofNat cs.length)), .val .null, .unset] [(.ref x1)])) rfl (by rw [hml]; rfl) rfl (hb hby dj42m149_1) (by decide) (W := 0) (by show 2 * 0 + _ ≤ _; exact Nat.le_of_eq rfl) (by decide)
 refine own_d1 4 st51 ?_
 refine own_tp (.int (Int32.ofNat cs.length)) 5 (fun _ q => XS.iloadN X51.here hx rfl (hb hby dj42m149_4) rfl q) ?_
 refine own_d1 27 (fun _ q => XS.ifYes X51.here hx rfl (pc0 := 5) (pc' := 27) rfl (hb hby dj42m149_5) rfl ((if0 _ _).trans (feq (own_nz hl hp0)).2) (by decide) (by decide) q) ?_
 obtain ⟨T52, X52, e52, st52⟩ := getS2 X51 hx hZ hown (host := "") (Or.inl (w 25 rfl)) Via.refl e51 (US.2.1.ext O0.2) (g := (mkF m 27 #[.val (.ref x1), .val (.ref a1), .val (.int (0 : Int32)), .val (.int (Int32.ofNat cs.length)), .val .null, .unset] [])) rfl (hb hby dj42m149_27)
 refine own_tp (.int G1) 30 st52 ?_
 refine own_d1 33 (fun _ q => XS.ifNo X52.here hx rfl (hb hby dj42m149_30) rfl ((if0 _ _).trans (feq US.1).1) q) ?_
 refine own_tp (.ref a1) 34 (fun _ q => XS.aloadN X52.here hx rfl (hb hby dj42m149_33) rfl rfl q) ?_
 refine own_tp (.int (0 : Int32)) 35 (fun _ q => XS.iloadN X52.here hx rfl (hb hby dj42m149_34) rfl q) ?_
 refine own_tp (.int (Int32.ofNat cs.length)) 36 (fun _ q => XS.iloadN X52.here hx rfl (hb hby dj42m149_35) rfl q) ?_
 obtain ⟨_, _, ⟨T53, L53, k53, n53⟩, -, X53, ⟨Lc53, hQ53, l53, y53, z53⟩, st53⟩ := Jvm.LawKit.callS X52 hx (y := own_M55) hown (mvT hZ (w 26 rfl)) (mvT hZ (w 27 rfl)) (mvT hZ (w 28 rfl)) (mvT hZ (w 29 rfl)) (by decide) (backOf (W := 0) (rm306 l Z a0 hw [] a1 k1 cs h0 n0 hp0 hl hch Z0 V1 G1 US O0) hZ (w 29 rfl) (w 28 rfl) (by decide) (by decide)) (g := (mkF m 36 #[.val (.ref x1), .val (.ref a1), .val (.int (0 : Int32)), .val (.int (Int32.ofNat cs.length)), .val .null, .unset] [(.int (Int32.ofNat cs.length)), (.int (0 : Int32)), (.ref a1)])) rfl (by rw [hml]; rfl) (argsL := [(.ref a1), (.int (0 : Int32)), (.int (Int32.ofNat cs.length))]) (rest := []) (lenOf pd34 rfl) rfl (by show 2 * 0 + _ ≤ _; exact Nat.le_of_eq rfl) (hb hby dj42m149_36) (fun _ _ => ⟨rfl, e52, (by decide : 0 + 2 ≤ _), (by decide : 0 + 400 ≤ _)⟩)
 dsimp only [Pt.U, Pt.locs, Pt.cells, Pt.slots] at X53 l53 y53 z53 st53 hQ53
 subst l53 y53 z53
 obtain ⟨vb53, kv53, rfl, Nq53, Kp53, ge53, sz53, hD53⟩ := hQ53
 have ne54 : x1 ≠ vb53 := Nat.ne_of_lt (Nat.lt_of_lt_of_le E1.lt sz53)
 have ne55 : a1 ≠ vb53 := Nat.ne_of_lt (Nat.lt_of_lt_of_le V1.lt sz53)
 have s0vb53 : h0.size ≤ vb53 := Nat.le_trans (Keep.refl h0 [x1]).1 sz53
 have N53 := Fr.app N0 Nq53
 have O53 := Old.keep O0 Kp53 all0
 have Z53 : n0 ≤ T53.heap.size := Nat.le_trans Z0 Kp53.1
 have K53 : Keep h0 T53.heap [x1] := Keep.trans (Keep.refl h0 [x1]) Kp53 all0
 refine own_cs [(.ref vb53)] 39 st53 ?_
 rcases hD53 with ⟨hxw, VL⟩ | ⟨hxw, VL⟩
 ·
  refine own_ls #[.val (.ref x1), .val (.ref a1), .val (.int (0 : Int32)), .val (.int (Int32.ofNat cs.length)), .val .null, .val (.ref vb53)] 41 (fun _ q => XS.astore X53.here hx rfl (hb hby dj42m149_39) rfl rfl (l' := #[.val (.ref x1), .val (.ref a1), .val (.int (0 : Int32)), .val (.int (Int32.ofNat cs.length)), .val .null, .val (.ref vb53)]) rfl q) ?_
  refine own_tp (.ref x1) 42 (fun _ q => XS.aloadN X53.here hx rfl (hb hby dj42m149_41) rfl rfl q) ?_
  refine own_tp (.ref vb53) 44 (fun _ q => XS.aload X53.here hx rfl (hb hby dj42m149_42) rfl rfl q) ?_
  refine own_tp (.int (Int32.ofNat cs.length)) 45 (fun _ q => XS.iloadN X53.here hx rfl (hb hby dj42m149_44) rfl q) ?_
  obtain ⟨_, _, ⟨T56, L56, k56, n56⟩, -, X56, ⟨Lc56, hQ56, l56, y56, z56⟩, st56⟩ := Jvm.LawKit.callS X53 hx (y := own_M56) hown (mvT hZ (w 33 rfl)) (mvT hZ (w 34 rfl)) (mvT hZ (w 28 rfl)) (mvT hZ (w 35 rfl)) (by decide) (backOf (W := 1) (rm307 l Z a0 hw [] vb53 _ _ cs T53.heap n0 hp0 hl VL) hZ (w 35 rfl) (w 28 rfl) (by decide) (by decide)) (g := (mkF m 45 #[.val (.ref x1), .val (.ref a1), .val (.int (0 : Int32)), .val (.int (Int32.ofNat cs.length)), .val .null, .val (.ref vb53)] [(.int (Int32.ofNat cs.length)), (.ref vb53), (.ref x1)])) rfl (by rw [hml]; rfl) (argsL := [(.ref vb53), (.int (Int32.ofNat cs.length))]) (rest := [(.ref x1)]) (lenOf pd35 rfl) rfl (by show 2 * 0 + _ ≤ _; exact Nat.le_of_eq rfl) (hb hby dj42m149_45) (fun _ _ => ⟨rfl, rfl, (by decide : 2 + 0 ≤ _), (by decide : 400 + 0 ≤ _)⟩)
  dsimp only [Pt.U, Pt.locs, Pt.cells, Pt.slots] at X56 l56 y56 z56 st56 hQ56
  subst l56 y56 z56
  obtain ⟨rfl, Nq56, eq56⟩ := hQ56
  have N56 := Fr.app N53 Nq56
  refine own_t2 (.int (0 : Int32)) 48 st56 ?_
  have f57 := (F2.keep Kp53 nin0)
  have f58 := (E1.keep Kp53)
  obtain ⟨T59, h59, X59, e59, W59, st59⟩ := putFN X56 hx hZ hown (w 23 rfl) Via.refl eq56 f57 f58 (Or.inr ⟨(w 19 rfl), rfl, hnm⟩) (w 4 rfl) (ty := .byte) (v' := (.int (0 : Int32))) (by decide) rfl rfl (g := (mkF m 48 #[.val (.ref x1), .val (.ref a1), .val (.int (0 : Int32)), .val (.int (Int32.ofNat cs.length)), .val .null, .val (.ref vb53)] [(.int (0 : Int32)), (.ref x1)])) rfl rfl (hb hby dj42m149_48)
  have Fw59 := f57.same W59
  have N59 := Fr.snoc X59 N56 g1
  have O59 := Old.wr O53 W59 g1
  have K59 : Keep h0 h59 [x1] := K53.wr W59 (Or.inl (List.mem_of_getElem? (i := 0) rfl))
  have Z59 : n0 ≤ h59.size := Nat.le_trans Z53 (Nat.le_of_eq W59.size.symm)
  refine own_d2 51 st59 ?_
  refine own_tp (.ref x1) 52 (fun _ q => XS.aloadN X59.here hx rfl (hb hby dj42m149_51) rfl rfl q) ?_
  refine own_tp (.ref vb53) 54 (fun _ q => XS.aload X59.here hx rfl (hb hby dj42m149_52) rfl rfl q) ?_
  have f60 := ((F1.keep Kp53 nin0).other W59 (Or.inr (slot_ne (Or.inr (w 18 rfl)) (Or.inr (w 19 rfl)) (by decide) (t := (.array .byte)) (t' := .byte) (by decide) (by decide))))
  have f61 := (f58.wr W59)
  obtain ⟨T62, h62, X62, e62, W62, st62⟩ := putF X59 hx hZ hown (host := "") (Or.inl (w 22 rfl)) Via.refl e59 f60 f61 (Or.inr ⟨(w 18 rfl), rfl, hnm⟩) (w 4 rfl) (ty := (.array .byte)) (by decide) rfl rfl (g := (mkF m 54 #[.val (.ref x1), .val (.ref a1), .val (.int (0 : Int32)), .val (.int (Int32.ofNat cs.length)), .val .null, .val (.ref vb53)] [(.ref vb53), (.ref x1)])) rfl rfl (hb hby dj42m149_54)
  have Fw62 := f60.same W62
  have N62 := Fr.snoc X62 N59 g1
  have O62 := Old.wr O59 W62 g1
  have K62 : Keep h0 h62 [x1] := K59.wr W62 (Or.inl (List.mem_of_getElem? (i := 0) rfl))
  have Z62 : n0 ≤ h62.size := Nat.le_trans Z59 (Nat.le_of_eq W62.size.symm)
  refine own_d2 57 st62 ?_
  have f63 := (f61.wr W62)
  have f64 := (Fw59.other W62 (Or.inr (slot_ne (Or.inr (w 19 rfl)) (Or.inr (w 18 rfl)) (by decide) (t := .byte) (t' := (.array .byte)) (by decide) (by decide))))
  have f65 := ((VL.other W59 (Ne.symm ne54)).other W62 (Ne.symm ne54))
  exact own_retV X62 hx hrt (hb hby dj42m149_57) hlk (by decide) (by decide) e62 (⟨rfl, N62, K62, vb53, _, _, _, _, ge53, s0vb53, f63, Fw62, f64, f65, Or.inl ⟨rfl, rfl, rfl, hxw⟩⟩)
 ·
  refine own_ls #[.val (.ref x1), .val (.ref a1), .val (.int (0 : Int32)), .val (.int (Int32.ofNat cs.length)), .val .null, .val (.ref vb53)] 41 (fun _ q => XS.astore X53.here hx rfl (hb hby dj42m149_39) rfl rfl (l' := #[.val (.ref x1), .val (.ref a1), .val (.int (0 : Int32)), .val (.int (Int32.ofNat cs.length)), .val .null, .val (.ref vb53)]) rfl q) ?_
  refine own_tp (.ref x1) 42 (fun _ q => XS.aloadN X53.here hx rfl (hb hby dj42m149_41) rfl rfl q) ?_
  refine own_tp (.ref vb53) 44 (fun _ q => XS.aload X53.here hx rfl (hb hby dj42m149_42) rfl rfl q) ?_
  refine own_tp (.int (Int32.ofNat cs.length)) 45 (fun _ q => XS.iloadN X53.here hx rfl (hb hby dj42m149_44) rfl q) ?_
  obtain ⟨_, _, ⟨T66, L66, k66, n66⟩, -, X66, ⟨Lc66, hQ66, l66, y66, z66⟩, st66⟩ := Jvm.LawKit.callS X53 hx (y := own_M56) hown (mvT hZ (w 33 rfl)) (mvT hZ (w 34 rfl)) (mvT hZ (w 28 rfl)) (mvT hZ (w 35 rfl)) (by decide) (backOf (W := 1) (rm308 l Z a0 hw [] vb53 _ _ cs T53.heap n0 hp0 hl VL) hZ (w 35 rfl) (w 28 rfl) (by decide) (by decide)) (g := (mkF m 45 #[.val (.ref x1), .val (.ref a1), .val (.int (0 : Int32)), .val (.int (Int32.ofNat cs.length)), .val .null, .val (.ref vb53)] [(.int (Int32.ofNat cs.length)), (.ref vb53), (.ref x1)])) rfl (by rw [hml]; rfl) (argsL := [(.ref vb53), (.int (Int32.ofNat cs.length))]) (rest := [(.ref x1)]) (lenOf pd35 rfl) rfl (by show 2 * 0 + _ ≤ _; exact Nat.le_of_eq rfl) (hb hby dj42m149_45) (fun _ _ => ⟨rfl, rfl, (by decide : 2 + 0 ≤ _), (by decide : 400 + 0 ≤ _)⟩)
  dsimp only [Pt.U, Pt.locs, Pt.cells, Pt.slots] at X66 l66 y66 z66 st66 hQ66
  subst l66 y66 z66
  obtain ⟨rfl, Nq66, eq66⟩ := hQ66
  have N66 := Fr.app N53 Nq66
  refine own_t2 (.int (1 : Int32)) 48 st66 ?_
  have f67 := (F2.keep Kp53 nin0)
  have f68 := (E1.keep Kp53)
  obtain ⟨T69, h69, X69, e69, W69, st69⟩ := putFN X66 hx hZ hown (w 23 rfl) Via.refl eq66 f67 f68 (Or.inr ⟨(w 19 rfl), rfl, hnm⟩) (w 4 rfl) (ty := .byte) (v' := (.int (1 : Int32))) (by decide) rfl rfl (g := (mkF m 48 #[.val (.ref x1), .val (.ref a1), .val (.int (0 : Int32)), .val (.int (Int32.ofNat cs.length)), .val .null, .val (.ref vb53)] [(.int (1 : Int32)), (.ref x1)])) rfl rfl (hb hby dj42m149_48)
  have Fw69 := f67.same W69
  have N69 := Fr.snoc X69 N66 g1
  have O69 := Old.wr O53 W69 g1
  have K69 : Keep h0 h69 [x1] := K53.wr W69 (Or.inl (List.mem_of_getElem? (i := 0) rfl))
  have Z69 : n0 ≤ h69.size := Nat.le_trans Z53 (Nat.le_of_eq W69.size.symm)
  refine own_d2 51 st69 ?_
  refine own_tp (.ref x1) 52 (fun _ q => XS.aloadN X69.here hx rfl (hb hby dj42m149_51) rfl rfl q) ?_
  refine own_tp (.ref vb53) 54 (fun _ q => XS.aload X69.here hx rfl (hb hby dj42m149_52) rfl rfl q) ?_
  have f70 := ((F1.keep Kp53 nin0).other W69 (Or.inr (slot_ne (Or.inr (w 18 rfl)) (Or.inr (w 19 rfl)) (by decide) (t := (.array .byte)) (t' := .byte) (by decide) (by decide))))
  have f71 := (f68.wr W69)
  obtain ⟨T72, h72, X72, e72, W72, st72⟩ := putF X69 hx hZ hown (host := "") (Or.inl (w 22 rfl)) Via.refl e69 f70 f71 (Or.inr ⟨(w 18 rfl), rfl, hnm⟩) (w 4 rfl) (ty := (.array .byte)) (by decide) rfl rfl (g := (mkF m 54 #[.val (.ref x1), .val (.ref a1), .val (.int (0 : Int32)), .val (.int (Int32.ofNat cs.length)), .val .null, .val (.ref vb53)] [(.ref vb53), (.ref x1)])) rfl rfl (hb hby dj42m149_54)
  have Fw72 := f70.same W72
  have N72 := Fr.snoc X72 N69 g1
  have O72 := Old.wr O69 W72 g1
  have K72 : Keep h0 h72 [x1] := K69.wr W72 (Or.inl (List.mem_of_getElem? (i := 0) rfl))
  have Z72 : n0 ≤ h72.size := Nat.le_trans Z69 (Nat.le_of_eq W72.size.symm)
  refine own_d2 57 st72 ?_
  have f73 := (f71.wr W72)
  have f74 := (Fw69.other W72 (Or.inr (slot_ne (Or.inr (w 19 rfl)) (Or.inr (w 18 rfl)) (by decide) (t := .byte) (t' := (.array .byte)) (by decide) (by decide))))
  have f75 := ((VL.other W69 (Ne.symm ne54)).other W72 (Ne.symm ne54))
  exact own_retV X72 hx hrt (hb hby dj42m149_57) hlk (by decide) (by decide) e72 (⟨rfl, N72, K72, vb53, _, _, _, _, ge53, s0vb53, f73, Fw72, f74, f75, Or.inr ⟨rfl, rfl, rfl, hxw⟩⟩)

def Q310 (Z : State) (x1 : Addr) (cs : List Int32) (h0 : Heap) (n0 : Nat) (v : Option Value) (h : Heap) (L : List Loc) : Prop := v = none ∧ Fr n0 L ∧ Keep h0 h [x1] ∧ ∃ (t : Addr) (kb : ClassId) (cd N : Int32) (vs : List Value), n0 ≤ t ∧ h0.size ≤ t ∧ Exa Z h x1 "java/lang/String" ∧ Fld Z h x1 "java/lang/String" "value" "[B" (.ref t) ∧ Fld Z h x1 "java/lang/String" "coder" "B" (.int cd) ∧ Arv Z h t kb .byte N vs (.int (0 : Int32)) ∧ own_Cod cs cd N vs

theorem rm310 (l : Launch) (Z : State) (a0 : Array Value) (hw : own_HW a0 Z) (ws : List Jvm.Cond) (x1 a1 : Addr) (k1 : ClassId) (cs : List Int32) (u1 u2 : Value) (h0 : Heap) (n0 : Nat) (hp0 : 0 < cs.length) (hl : cs.length ≤ 96) (hch : ∀ c ∈ cs, 0 ≤ c.toInt ∧ c.toInt ≤ 65535) (Z0 : n0 ≤ h0.size) (g1 : n0 ≤ x1) (hxa : x1 ≠ a1) (V1 : Arv Z h0 a1 k1 .char (Int32.ofNat cs.length) (cs.map Value.int) (.int (0 : Int32))) (E1 : Exa Z h0 x1 "java/lang/String") (F1 : Fld Z h0 x1 "java/lang/String" "value" "[B" u1) (F2 : Fld Z h0 x1 "java/lang/String" "coder" "B" u2) (G1 : Int32) (US : own_US Z G1) (O0 : Old Z n0 h0) :
  own_Met l own_M52 jdk_42_method_3_code 2 none ws own_R_5_2_400_78 Z #[(.ref x1), (.ref a1)] h0 (Q310 Z x1 cs h0 n0) := by
 refine own_enter #[.val (.ref x1), .val (.ref a1)] (plainFor_of_name pn_java_lang_String) (fun m => ef_RR_2 m x1 a1) ?_
 intro p e s m below meth c s₁ hx hby hml hown hnm hZ hrt hlk X0 e0
 have w := @own_w _ _ hw
 have N0 := Fr.nil n0
 refine own_tp (.ref x1) 1 (fun _ q => XS.aloadN X0.here hx rfl (hb hby dj42m3_0) rfl rfl q) ?_
 refine own_tp (.ref a1) 2 (fun _ q => XS.aloadN X0.here hx rfl (hb hby dj42m3_1) rfl rfl q) ?_
 refine own_tp (.int (0 : Int32)) 3 (fun _ q => XS.iconst X0.here hx rfl (hb hby dj42m3_2) q) ?_
 refine own_tp (.ref a1) 4 (fun _ q => XS.aloadN X0.here hx rfl (hb hby dj42m3_3) rfl rfl q) ?_
 obtain ⟨cl51, Ar51, -, Sz51, Nn51, -, -⟩ := (id V1)
 refine own_t1 (.int (Int32.ofNat cs.length)) 5 (fun t q => X0.arraylength hx (by rw [e0]; exact Ar51.1) (State.isArrayOf_alike hZ.alike Ar51.2.1) (g := (mkF m 4 #[.val (.ref x1), .val (.ref a1)] [(.ref a1), (.int (0 : Int32)), (.ref a1), (.ref x1)])) rfl rfl (hb hby dj42m3_4) _ (by rw [len_of Sz51 Nn51]; exact q)) ?_
 refine own_tp .null 6 (fun _ q => XS.aconstNull X0.here hx rfl (hb hby dj42m3_5) q) ?_
 obtain ⟨_, _, ⟨T52, L52, k52, n52⟩, -, X52, ⟨Lc52, hQ52, l52, y52, z52⟩, st52⟩ := X0.specialBack hx (y := own_M51) rfl hown (mvT hZ (w 9 rfl)) (mvT hZ (w 10 rfl)) (mvT hZ (w 12 rfl)) (by decide) (backOf (W := 0) (rm309 l Z a0 hw [] x1 a1 k1 cs _ _ h0 n0 hp0 hl hch Z0 g1 hxa V1 E1 F1 F2 G1 US O0) hZ (w 12 rfl) (w 5 rfl) (by decide) (by decide)) (g := (mkF m 6 #[.val (.ref x1), .val (.ref a1)] [.null, (.int (Int32.ofNat cs.length)), (.int (0 : Int32)), (.ref a1), (.ref x1)])) rfl (by rw [hml]; rfl) (Steps.refl _) (a := x1) (argsL := [(.ref a1), (.int (0 : Int32)), (.int (Int32.ofNat cs.length)), .null]) (rest := []) (lenOf pd32 rfl) rfl (by show 2 * 0 + _ ≤ _; exact Nat.le_of_eq rfl) (hb hby dj42m3_6) (fun _ _ => ⟨rfl, e0, (by decide : 0 + 2 ≤ _), (by decide : 0 + 400 ≤ _)⟩)
 dsimp only [Pt.U, Pt.locs, Pt.cells, Pt.slots] at X52 l52 y52 z52 st52 hQ52
 subst l52 y52 z52
 obtain ⟨rfl, Nq52, Kp52, rest52⟩ := hQ52
 refine own_csR [] 9 st52 ?_
 exact own_retV X52 hx hrt (hb hby dj42m3_9) hlk (by decide) (by decide) rfl (⟨rfl, Fr.app N0 Nq52, Kp52, rest52⟩)

theorem own_chs1 {c0 : Int32} (hc0 : 0 ≤ c0.toInt ∧ c0.toInt ≤ 65535) : ∀ c ∈ ([c0] : List Int32), 0 ≤ c.toInt ∧ c.toInt ≤ 65535 := by
  intro c hc
  simp only [List.mem_cons, List.not_mem_nil, or_false] at hc
  rcases hc with rfl
  · exact hc0

theorem own_chs2 {c0 c1 : Int32} (hc0 : 0 ≤ c0.toInt ∧ c0.toInt ≤ 65535) (hc1 : 0 ≤ c1.toInt ∧ c1.toInt ≤ 65535) : ∀ c ∈ ([c0, c1] : List Int32), 0 ≤ c.toInt ∧ c.toInt ≤ 65535 := by
  intro c hc
  simp only [List.mem_cons, List.not_mem_nil, or_false] at hc
  rcases hc with rfl | rfl
  · exact hc0
  · exact hc1

theorem own_chs3 {c0 c1 c2 : Int32} (hc0 : 0 ≤ c0.toInt ∧ c0.toInt ≤ 65535) (hc1 : 0 ≤ c1.toInt ∧ c1.toInt ≤ 65535) (hc2 : 0 ≤ c2.toInt ∧ c2.toInt ≤ 65535) : ∀ c ∈ ([c0, c1, c2] : List Int32), 0 ≤ c.toInt ∧ c.toInt ≤ 65535 := by
  intro c hc
  simp only [List.mem_cons, List.not_mem_nil, or_false] at hc
  rcases hc with rfl | rfl | rfl
  · exact hc0
  · exact hc1
  · exact hc2

theorem own_tkl (n c0 c1 c2 : Int32) : (own_tk n c0 c1 c2).length ≤ 1000 := by
  unfold own_tk
  split
  · simp
  · split
    · simp
    · split <;> simp
theorem own_tkB {n c0 c1 c2 : Int32} (h0 : 0 ≤ c0.toInt ∧ c0.toInt ≤ 65535) (h1 : 0 ≤ c1.toInt ∧ c1.toInt ≤ 65535) (h2 : 0 ≤ c2.toInt ∧ c2.toInt ≤ 65535) : ∀ c ∈ own_tk n c0 c1 c2, 0 ≤ c.toInt ∧ c.toInt ≤ 65535 := by
  intro c hc
  unfold own_tk at hc
  have k : c = c0 ∨ c = c1 ∨ c = c2 := by
    split at hc
    · cases hc
    · split at hc
      · simp only [List.mem_cons, List.not_mem_nil, or_false] at hc; exact Or.inl hc
      · split at hc
        · simp only [List.mem_cons, List.not_mem_nil, or_false] at hc; exact hc.imp_right Or.inl
        · simpa only [List.mem_cons, List.not_mem_nil, or_false] using hc
  rcases k with rfl | rfl | rfl
  · exact h0
  · exact h1
  · exact h2
theorem own_3 (x : Int32) : ((x.toUInt32 >>> ((3 : Int32) &&& 31).toUInt32).toInt32) &&& (3 : Int32) = 0 ∨ ((x.toUInt32 >>> ((3 : Int32) &&& 31).toUInt32).toInt32) &&& (3 : Int32) = 1 ∨ ((x.toUInt32 >>> ((3 : Int32) &&& 31).toUInt32).toInt32) &&& (3 : Int32) = 2 ∨ ((x.toUInt32 >>> ((3 : Int32) &&& 31).toUInt32).toInt32) &&& (3 : Int32) = 3 := by
  have h := c_and ((x.toUInt32 >>> ((3 : Int32) &&& 31).toUInt32).toInt32) 3 (by decide)
  have l0 : (0 : Int32).toInt = 0 := rfl
  have l1 : (1 : Int32).toInt = 1 := rfl
  have l2 : (2 : Int32).toInt = 2 := rfl
  have l3 : (3 : Int32).toInt = 3 := rfl
  simp only [← Int32.toInt_inj, l0, l1, l2, l3]
  omega

def own_u3 (n c2 : Int32) : Int32 := if n < 3 then 0 else if c2 = 65533 then 1 else 0
def own_u2 (n c1 c2 : Int32) : Int32 := if n < 2 then own_u3 n c2 else if c1 = 65533 then 1 else own_u3 n c2
def own_u1 (n c0 c1 c2 : Int32) : Int32 := if n < 1 then own_u2 n c1 c2 else if c0 = 65533 then 1 else own_u2 n c1 c2
theorem own_u_ok {n c0 c1 c2 : Int32} (hn : n = 0 ∨ n = 1 ∨ n = 2 ∨ n = 3) : own_u1 n c0 c1 c2 = own_ud (own_tk n c0 c1 c2) := by
  rcases hn with rfl | rfl | rfl | rfl
  · rfl
  · have e1 : own_tk 1 c0 c1 c2 = [c0] := rfl
    have e2 : own_u1 1 c0 c1 c2 = if c0 = 65533 then 1 else 0 := rfl
    rw [e1, e2]
    unfold own_ud
    simp only [List.mem_cons, List.not_mem_nil, or_false]
    by_cases h : c0 = 65533
    · rw [if_pos h, if_pos h.symm]
    · rw [if_neg h, if_neg (fun q => h q.symm)]
  · have e1 : own_tk 2 c0 c1 c2 = [c0, c1] := rfl
    have e2 : own_u1 2 c0 c1 c2 = if c0 = 65533 then 1 else if c1 = 65533 then 1 else 0 := rfl
    rw [e1, e2]
    unfold own_ud
    simp only [List.mem_cons, List.not_mem_nil, or_false]
    by_cases h : c0 = 65533
    · rw [if_pos h, if_pos (Or.inl h.symm)]
    · rw [if_neg h]
      by_cases h' : c1 = 65533
      · rw [if_pos h', if_pos (Or.inr h'.symm)]
      · rw [if_neg h', if_neg (fun q => q.elim (fun k => h k.symm) (fun k => h' k.symm))]
  · have e1 : own_tk 3 c0 c1 c2 = [c0, c1, c2] := rfl
    have e2 : own_u1 3 c0 c1 c2 = if c0 = 65533 then 1 else if c1 = 65533 then 1 else if c2 = 65533 then 1 else 0 := rfl
    rw [e1, e2]
    unfold own_ud
    simp only [List.mem_cons, List.not_mem_nil, or_false]
    by_cases h : c0 = 65533
    · rw [if_pos h, if_pos (Or.inl h.symm)]
    · rw [if_neg h]
      by_cases h' : c1 = 65533
      · rw [if_pos h', if_pos (Or.inr (Or.inl h'.symm))]
      · rw [if_neg h']
        by_cases h2 : c2 = 65533
        · rw [if_pos h2, if_pos (Or.inr (Or.inr h2.symm))]
        · rw [if_neg h2, if_neg (fun q => q.elim (fun k => h k.symm) (fun q => q.elim (fun k => h' k.symm) (fun k => h2 k.symm)))]

theorem own_TXl {u w0 w1 : Int32} : (own_TX u w0 w1).length ≤ 1000 := by
  unfold own_TX
  split
  · exact (show (own_T19 w0 w1).length ≤ 1000 from by show 19 ≤ 1000; decide)
  · exact (show (own_T96 w0 w1).length ≤ 1000 from by show 96 ≤ 1000; decide)

theorem rm0 (l : Launch) (Z : State) (a0 : Array Value) (hw : own_HW a0 Z) (ws : List Jvm.Cond) (q0 : Int64) (p1 p2 : Int32) (h0 : Heap) (n0 : Nat) (hE : EW Z a0 own_EL) (Z0 : n0 ≤ h0.size) (G1 : Int32) (US : own_US Z G1) (O0 : Old Z n0 h0) (G3 : Value) (rG3 : G3.isRef = true) (Sf : own_SF Z G3) :
  own_MetW own_EL l x code maxLocals ret ws room_1 Z #[(.long q0), (.int p1), (.int p2)] h0 (Q0 h0 n0) := by
 refine own_enterW #[.val (.long q0), .second, .val (.int p1), .val (.int p2), .unset, .unset, .unset, .unset, .unset, .unset, .unset, .unset, .unset, .unset, .unset, .unset] (plainFor_of_name pn_com_example_kalends_kalends_FileNamesWhyNotFoundPinLaw) (fun m => ef_JII_maxLocals m q0 p1 p2) hE ?_
 intro p e s m below meth c s₁ hx hby hml hown hnm hZ hrt hlk X0 e0 Wd0
 have w := @own_w _ _ hw
 have N0 := Fr.nil n0
 have wS := own_wS hw
 have kj51 : ∀ (Tj51 : State) (lj51 : List Loc) (z51 : Int32), Stand p l e room_1 (s.setVm s.vm) m #[(.long q0), (.int p1), (.int p2)] below meth c Tj51 lj51 0 0 → Fr n0 lj51 → Tj51.heap = h0 → (0 ≤ z51.toInt ∧ z51.toInt ≤ 65535) → own_Goes p e below (own_FW Z own_EL s h0 (Q0 h0 n0) room_1.cells room_1.slots) (Tj51.setTop (mkF m 18 #[.val (.long q0), .second, .val (.int p1), .val (.int p2), .unset, .unset, .unset, .unset, .unset, .unset, .unset, .unset, .unset, .unset, .unset, .unset] [(.int z51)])) := by
  intro Tj51 lj51 z51 Xj51 Nj51 ej51 hz51
  let L_52 : Array Slot := #[.val (.long q0), .second, .val (.int p1), .val (.int p2), .val (.int z51), .unset, .unset, .unset, .unset, .unset, .unset, .unset, .unset, .unset, .unset, .unset]
  refine own_ls L_52 20 (fun _ q => XS.istore Xj51.here hx rfl (hb hby at_18) rfl (l' := L_52) rfl q) ?_
  have kj53 : ∀ (Tj53 : State) (lj53 : List Loc) (z53 : Int32), Stand p l e room_1 (s.setVm s.vm) m #[(.long q0), (.int p1), (.int p2)] below meth c Tj53 lj53 0 0 → Fr n0 lj53 → Tj53.heap = h0 → (0 ≤ z53.toInt ∧ z53.toInt ≤ 65535) → own_Goes p e below (own_FW Z own_EL s h0 (Q0 h0 n0) room_1.cells room_1.slots) (Tj53.setTop (mkF m 41 #[.val (.long q0), .second, .val (.int p1), .val (.int p2), .val (.int z51), .unset, .unset, .unset, .unset, .unset, .unset, .unset, .unset, .unset, .unset, .unset] [(.int z53)])) := by
   intro Tj53 lj53 z53 Xj53 Nj53 ej53 hz53
   let L_54 : Array Slot := #[.val (.long q0), .second, .val (.int p1), .val (.int p2), .val (.int z51), .val (.int z53), .unset, .unset, .unset, .unset, .unset, .unset, .unset, .unset, .unset, .unset]
   refine own_ls L_54 43 (fun _ q => XS.istore Xj53.here hx rfl (hb hby at_41) rfl (l' := L_54) rfl q) ?_
   have kj55 : ∀ (Tj55 : State) (lj55 : List Loc) (z55 : Int32), Stand p l e room_1 (s.setVm s.vm) m #[(.long q0), (.int p1), (.int p2)] below meth c Tj55 lj55 0 0 → Fr n0 lj55 → Tj55.heap = h0 → (0 ≤ z55.toInt ∧ z55.toInt ≤ 65535) → own_Goes p e below (own_FW Z own_EL s h0 (Q0 h0 n0) room_1.cells room_1.slots) (Tj55.setTop (mkF m 64 #[.val (.long q0), .second, .val (.int p1), .val (.int p2), .val (.int z51), .val (.int z53), .unset, .unset, .unset, .unset, .unset, .unset, .unset, .unset, .unset, .unset] [(.int z55)])) := by
    intro Tj55 lj55 z55 Xj55 Nj55 ej55 hz55
    let L_56 : Array Slot := #[.val (.long q0), .second, .val (.int p1), .val (.int p2), .val (.int z51), .val (.int z53), .val (.int z55), .unset, .unset, .unset, .unset, .unset, .unset, .unset, .unset, .unset]
    refine own_ls L_56 66 (fun _ q => XS.istore Xj55.here hx rfl (hb hby at_64) rfl (l' := L_56) rfl q) ?_
    refine own_tp (.int p1) 67 (fun _ q => XS.iloadN Xj55.here hx rfl (hb hby at_66) rfl q) ?_
    refine own_tp (.int (3 : Int32)) 68 (fun _ q => XS.iconst Xj55.here hx rfl (hb hby at_67) q) ?_
    refine own_t2 (.int ((p1.toUInt32 >>> ((3 : Int32) &&& 31).toUInt32).toInt32)) 69 (fun _ q => XS.iushr Xj55.here hx rfl (hb hby at_68) rfl q) ?_
    refine own_tp (.int (3 : Int32)) 70 (fun _ q => XS.iconst Xj55.here hx rfl (hb hby at_69) q) ?_
    refine own_t2 (.int (((p1.toUInt32 >>> ((3 : Int32) &&& 31).toUInt32).toInt32) &&& (3 : Int32))) 71 (fun _ q => XS.iand Xj55.here hx rfl (hb hby at_70) rfl q) ?_
    obtain ⟨ln, eln, hln⟩ : ∃ z : Int32, (((p1.toUInt32 >>> ((3 : Int32) &&& 31).toUInt32).toInt32) &&& (3 : Int32)) = z ∧ (z = 0 ∨ z = 1 ∨ z = 2 ∨ z = 3) := ⟨_, rfl, own_3 p1⟩
    rw [eln]
    let L_57 : Array Slot := #[.val (.long q0), .second, .val (.int p1), .val (.int p2), .val (.int z51), .val (.int z53), .val (.int z55), .val (.int ln), .unset, .unset, .unset, .unset, .unset, .unset, .unset, .unset]
    refine own_ls L_57 73 (fun _ q => XS.istore Xj55.here hx rfl (hb hby at_71) rfl (l' := L_57) rfl q) ?_
    have kj58 : ∀ (Tj58 : State) (lj58 : List Loc) (vj58 : Vm) (hj58 : Heap) (nmv58 : Value) (sl8_58 : Slot), One sl8_58 → Stand p l e room_1 (s.setVm vj58) m #[(.long q0), (.int p1), (.int p2)] below meth c Tj58 lj58 6 500 → Fr n0 lj58 → Tj58.heap = hj58 → own_Wd Z a0 own_EL s h0 vj58 hj58 → vj58.findClass "com/example/kalends/kalends/FileNamesWhyNotFoundPinLaw" = some m.cls → Old Z n0 hj58 → n0 ≤ hj58.size → nmv58.isRef = true → (∃ a : Addr, nmv58 = .ref a ∧ own_S Z hj58 a (own_tk ln z51 z53 z55)) → own_Goes p e below (own_FW Z own_EL s h0 (Q0 h0 n0) room_1.cells room_1.slots) (Tj58.setTop (mkF m 160 #[.val (.long q0), .second, .val (.int p1), .val (.int p2), .val (.int z51), .val (.int z53), .val (.int z55), .val (.int ln), sl8_58, .val nmv58, .unset, .unset, .unset, .unset, .unset, .unset] [])) := by
     intro Tj58 lj58 vj58 hj58 nmv58 sl8_58 hsl8_58 Xj58 Nj58 ej58 Wj58 oj58 Oj58 Zj58 rv58 pj58
     have hZ58 : Z.Warmed39 (s.setVm vj58).vm := Wj58.hZ
     have hown58 : (s.setVm vj58).vm.findClass "com/example/kalends/kalends/FileNamesWhyNotFoundPinLaw" = some m.cls := oj58
     obtain ⟨nm, rfl, SN⟩ := pj58
     refine own_tp (.int p2) 161 (fun _ q => XS.iloadN Xj58.here hx rfl (hb hby at_160) rfl q) ?_
     let L_59 : Array Slot := #[.val (.long q0), .second, .val (.int p1), .val (.int p2), .val (.int z51), .val (.int z53), .val (.int z55), .val (.int ln), sl8_58, .val (.ref nm), .unset, .unset, .unset, .unset, .unset, .unset]
     refine own_tp (.int (65535 : Int32)) 163 (fun _ q => Xj58.ldcInt hx hown58 (mvT hZ58 (w 24 rfl)) (g := (mkF m 161 L_59 [(.int p2)])) rfl (hb hby at_161) _ q) ?_
     refine own_t2 (.int (p2 &&& (65535 : Int32))) 164 (fun _ q => XS.iand Xj58.here hx rfl (hb hby at_163) rfl q) ?_
     refine own_t1 (.int ((p2 &&& (65535 : Int32)).toUInt32.toUInt16.toUInt32.toInt32)) 165 (fun _ q => XS.i2c Xj58.here hx rfl (hb hby at_164) rfl q) ?_
     obtain ⟨w0, ew0, hw0⟩ : ∃ z : Int32, ((p2 &&& (65535 : Int32)).toUInt32.toUInt16.toUInt32.toInt32) = z ∧ (0 ≤ z.toInt ∧ z.toInt ≤ 65535) := ⟨_, rfl, own_c16 _⟩
     rw [ew0]
     let L_60 : Array Slot := #[.val (.long q0), .second, .val (.int p1), .val (.int p2), .val (.int z51), .val (.int z53), .val (.int z55), .val (.int ln), sl8_58, .val (.ref nm), .val (.int w0), .unset, .unset, .unset, .unset, .unset]
     refine own_ls L_60 167 (fun _ q => XS.istore Xj58.here hx rfl (hb hby at_165) rfl (l' := L_60) rfl q) ?_
     refine own_tp (.int p2) 168 (fun _ q => XS.iloadN Xj58.here hx rfl (hb hby at_167) rfl q) ?_
     refine own_tp (.int (16 : Int32)) 170 (fun _ q => XS.bipush Xj58.here hx rfl (hb hby at_168) q) ?_
     refine own_t2 (.int ((p2.toUInt32 >>> ((16 : Int32) &&& 31).toUInt32).toInt32)) 171 (fun _ q => XS.iushr Xj58.here hx rfl (hb hby at_170) rfl q) ?_
     refine own_tp (.int (65535 : Int32)) 173 (fun _ q => Xj58.ldcInt hx hown58 (mvT hZ58 (w 24 rfl)) (g := (mkF m 171 L_60 [(.int ((p2.toUInt32 >>> ((16 : Int32) &&& 31).toUInt32).toInt32))])) rfl (hb hby at_171) _ q) ?_
     refine own_t2 (.int (((p2.toUInt32 >>> ((16 : Int32) &&& 31).toUInt32).toInt32) &&& (65535 : Int32))) 174 (fun _ q => XS.iand Xj58.here hx rfl (hb hby at_173) rfl q) ?_
     refine own_t1 (.int ((((p2.toUInt32 >>> ((16 : Int32) &&& 31).toUInt32).toInt32) &&& (65535 : Int32)).toUInt32.toUInt16.toUInt32.toInt32)) 175 (fun _ q => XS.i2c Xj58.here hx rfl (hb hby at_174) rfl q) ?_
     obtain ⟨w1, ew1, hw1⟩ : ∃ z : Int32, ((((p2.toUInt32 >>> ((16 : Int32) &&& 31).toUInt32).toInt32) &&& (65535 : Int32)).toUInt32.toUInt16.toUInt32.toInt32) = z ∧ (0 ≤ z.toInt ∧ z.toInt ≤ 65535) := ⟨_, rfl, own_c16 _⟩
     rw [ew1]
     let L_61 : Array Slot := #[.val (.long q0), .second, .val (.int p1), .val (.int p2), .val (.int z51), .val (.int z53), .val (.int z55), .val (.int ln), sl8_58, .val (.ref nm), .val (.int w0), .val (.int w1), .unset, .unset, .unset, .unset]
     refine own_ls L_61 177 (fun _ q => XS.istore Xj58.here hx rfl (hb hby at_175) rfl (l' := L_61) rfl q) ?_
     obtain ⟨T62, h62, X62, e62, E62, A62, D62, -, st62⟩ := newO Xj58 hx hZ58 hown58 (w 3 rfl) (w 4 rfl) (w 5 rfl) ej58 (g := (mkF m 177 L_61 [])) rfl (hb hby at_177) (by decide) (by decide)
     obtain ⟨b62, g62⟩ : ∃ z, z = hj58.size := ⟨_, rfl⟩
     rw [← g62] at A62 D62 st62
     have ge62 : n0 ≤ b62 := Nat.le_trans Zj58 (Nat.le_of_eq g62.symm)
     have sz62 : hj58.size ≤ b62 := Nat.le_trans (Keep.refl hj58 []).1 (Nat.le_of_eq g62.symm)
     have O62 := Old.ext Oj58 E62
     have K62 : Keep hj58 h62 [] := (Keep.refl hj58 []).ext E62
     have Z62 : n0 ≤ h62.size := Nat.le_trans Zj58 E62.1
     have Wd62 := Wj58.ext E62
     have G62 : Safe Z own_EL vj58 h62 b62 := Safe.ext E62 Wj58.chv (Safe.new (Nat.le_of_eq g62.symm))
     have Fvalue_62 : Fld Z h62 b62 "java/lang/String" "value" "[B" .null := D62 (Or.inr (w 18 rfl)) (ty := (.array .byte)) (by decide)
     have Fcoder_62 : Fld Z h62 b62 "java/lang/String" "coder" "B" (.int (0 : Int32)) := D62 (Or.inr (w 19 rfl)) (ty := .byte) (by decide)
     refine own_tp (.ref b62) 180 st62 ?_
     refine own_tp (.ref b62) 181 (fun _ q => XS.dup X62.here hx rfl (hb hby at_180) rfl rfl q) ?_
     refine own_tp (.int (2 : Int32)) 182 (fun _ q => XS.iconst X62.here hx rfl (hb hby at_181) q) ?_
     obtain ⟨T63, h63, k63, X63, e63, E63, A63, st63⟩ := newP X62 hx hZ58 (w 2 rfl) e62 (g := (mkF m 182 L_61 [(.int (2 : Int32)), (.ref b62), (.ref b62)])) rfl (hb hby at_182) rfl (by decide) (cap := 2) (by decide) (by decide) (by decide) (by decide)
     obtain ⟨b63, g63⟩ : ∃ z, z = h62.size := ⟨_, rfl⟩
     rw [← g63] at A63 st63
     have V63 : Arv Z h63 b63 k63 .char (2 : Int32) [(.int (0 : Int32)), (.int (0 : Int32))] (.int (0 : Int32)) := (Arv.new A63 (by decide)).pad (pad_rep [] (.int (0 : Int32)) 2)
     have ge63 : n0 ≤ b63 := Nat.le_trans Z62 (Nat.le_of_eq g63.symm)
     have sz63 : hj58.size ≤ b63 := Nat.le_trans K62.1 (Nat.le_of_eq g63.symm)
     have ne64 : b62 ≠ b63 := Nat.ne_of_lt (Nat.lt_of_lt_of_le A62.lt (Nat.le_of_eq g63.symm))
     have O63 := Old.ext O62 E63
     have K63 : Keep hj58 h63 [] := K62.ext E63
     have Z63 : n0 ≤ h63.size := Nat.le_trans Z62 E63.1
     have Wd63 := Wd62.ext E63
     refine own_t1 (.ref b63) 184 st63 ?_
     refine own_tp (.ref b63) 185 (fun _ q => XS.dup X63.here hx rfl (hb hby at_184) rfl rfl q) ?_
     refine own_tp (.int (0 : Int32)) 186 (fun _ q => XS.iconst X63.here hx rfl (hb hby at_185) q) ?_
     refine own_tp (.int w0) 188 (fun _ q => XS.iload X63.here hx rfl (hb hby at_186) rfl q) ?_
     obtain ⟨cl65, Ar65, q65, S65, Nn65, H65, G65⟩ := (id V63)
     have hin65 : ¬ ((0 : Int32) < 0 ∨ cl65.slots.size ≤ ((0 : Int32)).toNatClampNeg) := inb_of S65 ⟨by decide, by decide⟩
     obtain ⟨T66, h66, X66, e66, W66, st66⟩ := stC X63 hx hZ58 e63 Ar65 (j := (0 : Int32)) hin65 (g := (mkF m 188 L_61 [(.int w0), (.int (0 : Int32)), (.ref b63), (.ref b63), (.ref b62), (.ref b62)])) rfl rfl (hb hby at_188)
     have V66 := Arv.set Ar65 q65 S65 Nn65 H65 G65 (fits_nar_char _) W66 0 rfl (Nat.le_of_ble_eq_true rfl)
     have N66 := Fr.snoc X66 Nj58 ge63
     have O66 := Old.wr O63 W66 ge63
     have K66 : Keep hj58 h66 [] := K63.wr W66 (Or.inr sz63)
     have Z66 : n0 ≤ h66.size := Nat.le_trans Z63 (Nat.le_of_eq W66.size.symm)
     have Wd66 := Wd63.wr W66 (own_safeV hZ58.alike V63 (by simp))
     have V66' : Arv Z h66 b63 k63 .char (2 : Int32) [(.int w0), (.int (0 : Int32))] (.int (0 : Int32)) := by have q := V66; first | (rw [own_narc hw0] at q; exact q) | (rw [own_i2c hw0] at q; exact q)
     refine own_cs [(.ref b63), (.ref b62), (.ref b62)] 189 st66 ?_
     refine own_tp (.ref b63) 190 (fun _ q => XS.dup X66.here hx rfl (hb hby at_189) rfl rfl q) ?_
     refine own_tp (.int (1 : Int32)) 191 (fun _ q => XS.iconst X66.here hx rfl (hb hby at_190) q) ?_
     refine own_tp (.int w1) 193 (fun _ q => XS.iload X66.here hx rfl (hb hby at_191) rfl q) ?_
     obtain ⟨cl67, Ar67, q67, S67, Nn67, H67, G67⟩ := (id V66')
     have hin67 : ¬ ((1 : Int32) < 0 ∨ cl67.slots.size ≤ ((1 : Int32)).toNatClampNeg) := inb_of S67 ⟨by decide, by decide⟩
     obtain ⟨T68, h68, X68, e68, W68, st68⟩ := stC X66 hx hZ58 e66 Ar67 (j := (1 : Int32)) hin67 (g := (mkF m 193 L_61 [(.int w1), (.int (1 : Int32)), (.ref b63), (.ref b63), (.ref b62), (.ref b62)])) rfl rfl (hb hby at_193)
     have V68 := Arv.set Ar67 q67 S67 Nn67 H67 G67 (fits_nar_char _) W68 1 rfl (Nat.le_of_ble_eq_true rfl)
     have N68 := Fr.snoc X68 N66 ge63
     have O68 := Old.wr O66 W68 ge63
     have K68 : Keep hj58 h68 [] := K66.wr W68 (Or.inr sz63)
     have Z68 : n0 ≤ h68.size := Nat.le_trans Z66 (Nat.le_of_eq W68.size.symm)
     have Wd68 := Wd66.wr W68 (own_safeV hZ58.alike V66' (by simp))
     have V68' : Arv Z h68 b63 k63 .char (2 : Int32) [(.int w0), (.int w1)] (.int (0 : Int32)) := by have q := V68; first | (rw [own_narc hw1] at q; exact q) | (rw [own_i2c hw1] at q; exact q)
     refine own_cs [(.ref b63), (.ref b62), (.ref b62)] 194 st68 ?_
     have f69 := (Safe.wr W68 (own_safeV hZ58.alike V66' (by simp)) Wd66.chv (Safe.wr W66 (own_safeV hZ58.alike V63 (by simp)) Wd63.chv (Safe.ext E63 Wd62.chv G62)))
     have f70 := (((A62.ext E63).wr W66).wr W68)
     have f71 := (((Fvalue_62.ext E63).other W66 (Or.inl ne64)).other W68 (Or.inl ne64))
     have f72 := (((Fcoder_62.ext E63).other W66 (Or.inl ne64)).other W68 (Or.inl ne64))
     obtain ⟨_, _, ⟨T73, L73, k73, n73⟩, -, X73, ⟨Lc73, hQ73, l73, y73, z73⟩, st73⟩ := X68.specialBack hx (y := own_M52) rfl hown58 (mvT hZ58 (w 6 rfl)) (mvT hZ58 (w 7 rfl)) (mvT hZ58 (w 8 rfl)) (by decide) (backOf (W := 1) (rm310 l Z a0 hw [] b62 b63 k63 [w0, w1] _ _ h68 n0 (by simp) (by simp) (own_chs2 hw0 hw1) Z68 ge62 ne64 V68' f70 f71 f72 G1 US O68) hZ58 (w 8 rfl) (w 5 rfl) (by decide) (by decide)) (g := (mkF m 194 L_61 [(.ref b63), (.ref b62), (.ref b62)])) rfl (by rw [hml]; rfl) (Steps.refl _) (a := b62) (argsL := [(.ref b63)]) (rest := [(.ref b62)]) (lenOf pd36 rfl) rfl (by show 2 * 0 + _ ≤ _; exact Nat.le_of_eq rfl) (hb hby at_194) (fun _ _ => ⟨rfl, e68, (by decide : 8 + 2 ≤ _), (by decide : 506 + 400 ≤ _)⟩)
     dsimp only [Pt.U, Pt.locs, Pt.cells, Pt.slots] at X73 l73 y73 z73 st73 hQ73
     subst l73 y73 z73
     obtain ⟨rfl, Nq73, Kp73, t73, kb73, cd73, Nn73, vs73, gt73, st_73, A73, Vl73, Cd73, V73, Co73⟩ := hQ73
     have N73 := Fr.app N68 Nq73
     have O73 := Old.keep O68 Kp73 (allS ge62 all0)
     have Z73 : n0 ≤ T73.heap.size := Nat.le_trans Z68 Kp73.1
     have K73 : Keep hj58 T73.heap [] := Keep.trans K68 Kp73 (allS (Or.inr sz62) all0)
     have Wd73 := Wd68.keep Kp73 (allS f69 all0)
     have SS73 : own_S Z T73.heap b62 [w0, w1] := ⟨t73, kb73, cd73, Nn73, vs73, A73, Vl73, Cd73, V73, Co73⟩
     refine own_csR [(.ref b62)] 197 st73 ?_
     let L_74 : Array Slot := #[.val (.long q0), .second, .val (.int p1), .val (.int p2), .val (.int z51), .val (.int z53), .val (.int z55), .val (.int ln), sl8_58, .val (.ref nm), .val (.int w0), .val (.int w1), .val (.ref b62), .unset, .unset, .unset]
     refine own_ls L_74 199 (fun _ q => XS.astore X73.here hx rfl (hb hby at_197) rfl rfl (l' := L_74) rfl q) ?_
     have SN75 := own_S.keep0 SN K73
     have kj76 : ∀ (Tj76 : State) (lj76 : List Loc) (z76 : Int32), Stand p l e room_1 (s.setVm vj58) m #[(.long q0), (.int p1), (.int p2)] below meth c Tj76 lj76 10 906 → Fr n0 lj76 → Tj76.heap = T73.heap → z76 = own_ud (own_tk ln z51 z53 z55) → own_Goes p e below (own_FW Z own_EL s h0 (Q0 h0 n0) room_1.cells room_1.slots) (Tj76.setTop (mkF m 243 #[.val (.long q0), .second, .val (.int p1), .val (.int p2), .val (.int z51), .val (.int z53), .val (.int z55), .val (.int ln), sl8_58, .val (.ref nm), .val (.int w0), .val (.int w1), .val (.ref b62), .unset, .unset, .unset] [(.int z76)])) := by
      intro Tj76 lj76 z76 Xj76 Nj76 ej76 hz76
      let L_77 : Array Slot := #[.val (.long q0), .second, .val (.int p1), .val (.int p2), .val (.int z51), .val (.int z53), .val (.int z55), .val (.int ln), sl8_58, .val (.ref nm), .val (.int w0), .val (.int w1), .val (.ref b62), .val (.int z76), .unset, .unset]
      refine own_ls L_77 245 (fun _ q => XS.istore Xj76.here hx rfl (hb hby at_243) rfl (l' := L_77) rfl q) ?_
      have kj78 : ∀ (Tj78 : State) (lj78 : List Loc) (vj78 : Vm) (hj78 : Heap) (exv78 : Value), Stand p l e room_1 (s.setVm vj78) m #[(.long q0), (.int p1), (.int p2)] below meth c Tj78 lj78 14 1700 → Fr n0 lj78 → Tj78.heap = hj78 → own_Wd Z a0 own_EL s h0 vj78 hj78 → vj78.findClass "com/example/kalends/kalends/FileNamesWhyNotFoundPinLaw" = some m.cls → Old Z n0 hj78 → n0 ≤ hj78.size → exv78.isRef = true → (∃ a : Addr, exv78 = .ref a ∧ own_S Z hj78 a (own_TX z76 w0 w1) ∧ own_S Z hj78 nm (own_tk ln z51 z53 z55) ∧ own_S Z hj78 b62 [w0, w1]) → own_Goes p e below (own_FW Z own_EL s h0 (Q0 h0 n0) room_1.cells room_1.slots) (Tj78.setTop (mkF m 957 #[.val (.long q0), .second, .val (.int p1), .val (.int p2), .val (.int z51), .val (.int z53), .val (.int z55), .val (.int ln), sl8_58, .val (.ref nm), .val (.int w0), .val (.int w1), .val (.ref b62), .val (.int z76), .val exv78, .unset] [])) := by
       intro Tj78 lj78 vj78 hj78 exv78 Xj78 Nj78 ej78 Wj78 oj78 Oj78 Zj78 rv78 pj78
       have hZ78 : Z.Warmed39 (s.setVm vj78).vm := Wj78.hZ
       have hown78 : (s.setVm vj78).vm.findClass "com/example/kalends/kalends/FileNamesWhyNotFoundPinLaw" = some m.cls := oj78
       obtain ⟨ex, rfl, SE, SN', SW'⟩ := pj78
       have Eex := own_S.exa SE
       refine own_tp (.ref nm) 959 (fun _ q => XS.aload Xj78.here hx rfl (hb hby at_957) rfl rfl q) ?_
       refine own_tp (.ref b62) 961 (fun _ q => XS.aload Xj78.here hx rfl (hb hby at_959) rfl rfl q) ?_
       let L_79 : Array Slot := #[.val (.long q0), .second, .val (.int p1), .val (.int p2), .val (.int z51), .val (.int z53), .val (.int z55), .val (.int ln), sl8_58, .val (.ref nm), .val (.int w0), .val (.int w1), .val (.ref b62), .val (.int z76), .val (.ref ex), .unset]
       obtain ⟨_, _, ⟨T80, L80, k80, n80⟩, -, X80, hS80, -, ⟨Lc80, hQ80, l80, y80, z80, Ch80⟩, st80⟩ := callSS Xj78 hx (y := own_M48) hown78 (mvT hZ78 (w 36 rfl)) (mvT hZ78 (w 37 rfl)) (mvT hZ78 (w 38 rfl)) (mvT hZ78 (w 39 rfl)) (by decide) (backOfSH (W := 0) (rm85 l Z a0 hw [] nm b62 (own_tk ln z51 z53 z55) w0 w1 hj78 n0 hE Zj78 (own_tkl _ _ _ _) (own_tkB hz51 hz53 hz55) SN' SW' G1 US Oj78 G3 rG3 Sf) hZ78 (w 39 rfl) (w 38 rfl) (by decide) (by decide) Wj78.hE Wj78.chv) (g := (mkF m 961 L_79 [(.ref b62), (.ref nm)])) rfl (by rw [hml]; rfl) (argsL := [(.ref nm), (.ref b62)]) (rest := []) (lenOf pd37 rfl) rfl (by show 2 * 0 + _ ≤ _; exact Nat.le_of_eq rfl) (hb hby at_961) (fun _ _ => ⟨rfl, ej78, (by decide : 14 + 40 ≤ _), (by decide : 1700 + 4000 ≤ _)⟩)
       dsimp only [Pt.U, Pt.locs, Pt.cells, Pt.slots] at X80 l80 y80 z80 st80 hQ80 hS80 Ch80
       subst l80 y80 z80
       have Wd80 := own_Wd.call Wj78 hS80 Ch80
       have hZ80 : Z.Warmed39 (s.setVm T80.vm).vm := Wd80.hZ
       have hown80 : (s.setVm T80.vm).vm.findClass "com/example/kalends/kalends/FileNamesWhyNotFoundPinLaw" = some m.cls := own_since_own hS80 hown78
       have Y80 : Stand p l e room_1 (s.setVm T80.vm) m #[(.long q0), (.int p1), (.int p2)] below meth c T80 _ _ _ := X80
       obtain ⟨rw80, rfl, Nq80, Kp80, SR80⟩ := hQ80
       have N80 := Fr.app Nj78 Nq80
       have O80 := Old.keep Oj78 Kp80 all0
       have Z80 : n0 ≤ T80.heap.size := Nat.le_trans Zj78 Kp80.1
       refine own_csR [(.ref rw80)] 964 st80 ?_
       let L_81 : Array Slot := #[.val (.long q0), .second, .val (.int p1), .val (.int p2), .val (.int z51), .val (.int z53), .val (.int z55), .val (.int ln), sl8_58, .val (.ref nm), .val (.int w0), .val (.int w1), .val (.ref b62), .val (.int z76), .val (.ref ex), .val (.ref rw80)]
       refine own_ls L_81 966 (fun _ q => XS.astore Y80.here hx rfl (hb hby at_964) rfl rfl (l' := L_81) rfl q) ?_
       refine own_tp (.ref ex) 968 (fun _ q => XS.aload Y80.here hx rfl (hb hby at_966) rfl rfl q) ?_
       refine own_tp (.ref rw80) 970 (fun _ q => XS.aload Y80.here hx rfl (hb hby at_968) rfl rfl q) ?_
       have f83 := (own_S.keep0 SE Kp80)
       have f85 := (Eex.keep Kp80)
       obtain ⟨cq84, kq84, q84a, q84b, q84c⟩ := isOf hZ80 rfl f85
       obtain ⟨_, _, ⟨T84, L84, k84, n84⟩, -, X84, ⟨Lc84, hQ84, l84, y84, z84⟩, st84⟩ := Y80.virtualBack hx (y := own_M50) (z := own_M50) hown80 (mvT hZ80 (w 195 rfl)) (mvT hZ80 (w 196 rfl)) (notFace_of_selects (args := #[]) (mvT hZ80 (w 198 rfl))) (mvT hZ80 (w 198 rfl)) (mvT hZ80 (w 197 rfl)) (by decide) (backOf (W := 0) (rm88 l Z a0 hw [] ex rw80 (own_TX z76 w0 w1) T80.heap n0 own_TXl f83 (by rw [hz76]; exact SR80) G1 US O80) hZ80 (w 199 rfl) (w 5 rfl) (by decide) (by decide)) q84a q84c (g := (mkF m 970 L_81 [(.ref rw80), (.ref ex)])) rfl (by rw [hml]; rfl) (Steps.refl _) (argsL := [(.ref rw80)]) (rest := []) (lenOf pd38 rfl) rfl (by show 2 * 0 + _ ≤ _; exact Nat.le_of_eq rfl) (hb hby at_970) (fun _ _ => ⟨rfl, rfl, (by decide : 54 + 0 ≤ _), (by decide : 5700 + 0 ≤ _)⟩)
       dsimp only [Pt.U, Pt.locs, Pt.cells, Pt.slots] at X84 l84 y84 z84 st84 hQ84
       subst l84 y84 z84
       obtain ⟨rfl, Nq84, eq84⟩ := hQ84
       have N84 := Fr.app N80 Nq84
       refine own_csR [(.int (1 : Int32))] 973 st84 ?_
       exact own_retNW (t := .boolean) X84 hx hrt (hb hby at_973) (by simp) hlk (by decide) (by decide) eq84 Wd80 (⟨rfl, N84⟩)
      refine own_tp (.int z76) 247 (fun _ q => XS.iload Xj76.here hx rfl (hb hby at_245) rfl q) ?_
      by_cases c86 : z76 = (0 : Int32)
      ·
       refine own_d1 836 (fun _ q => XS.ifYes Xj76.here hx rfl (pc0 := 247) (pc' := 836) rfl (hb hby at_247) rfl ((if0 _ _).trans (teq c86).1) (by decide) (by decide) q) ?_
       obtain ⟨T87, h87, X87, e87, E87, A87, D87, -, st87⟩ := newO Xj76 hx hZ58 hown58 (w 3 rfl) (w 4 rfl) (w 5 rfl) ej76 (g := (mkF m 836 L_77 [])) rfl (hb hby at_836) (by decide) (by decide)
       obtain ⟨b87, g87⟩ : ∃ z, z = T73.heap.size := ⟨_, rfl⟩
       rw [← g87] at A87 D87 st87
       have ge87 : n0 ≤ b87 := Nat.le_trans Z73 (Nat.le_of_eq g87.symm)
       have sz87 : T73.heap.size ≤ b87 := Nat.le_trans (Keep.refl T73.heap []).1 (Nat.le_of_eq g87.symm)
       have O87 := Old.ext O73 E87
       have K87 : Keep T73.heap h87 [] := (Keep.refl T73.heap []).ext E87
       have Z87 : n0 ≤ h87.size := Nat.le_trans Z73 E87.1
       have Wd87 := Wd73.ext E87
       have G87 : Safe Z own_EL vj58 h87 b87 := Safe.ext E87 Wd73.chv (Safe.new (Nat.le_of_eq g87.symm))
       have Fvalue_87 : Fld Z h87 b87 "java/lang/String" "value" "[B" .null := D87 (Or.inr (w 18 rfl)) (ty := (.array .byte)) (by decide)
       have Fcoder_87 : Fld Z h87 b87 "java/lang/String" "coder" "B" (.int (0 : Int32)) := D87 (Or.inr (w 19 rfl)) (ty := .byte) (by decide)
       refine own_tp (.ref b87) 839 st87 ?_
       refine own_tp (.ref b87) 840 (fun _ q => XS.dup X87.here hx rfl (hb hby at_839) rfl rfl q) ?_
       refine own_tp (.int (19 : Int32)) 842 (fun _ q => XS.bipush X87.here hx rfl (hb hby at_840) q) ?_
       obtain ⟨T88, h88, k88, X88, e88, E88, A88, st88⟩ := newP X87 hx hZ58 (w 2 rfl) e87 (g := (mkF m 842 L_77 [(.int (19 : Int32)), (.ref b87), (.ref b87)])) rfl (hb hby at_842) rfl (by decide) (cap := 19) (by decide) (by decide) (by decide) (by decide)
       obtain ⟨b88, g88⟩ : ∃ z, z = h87.size := ⟨_, rfl⟩
       rw [← g88] at A88 st88
       have V88 : Arv Z h88 b88 k88 .char (19 : Int32) (List.replicate 19 (.int (0 : Int32))) (.int (0 : Int32)) := (Arv.new A88 (by decide)).pad (pad_rep [] (.int (0 : Int32)) 19)
       have ge88 : n0 ≤ b88 := Nat.le_trans Z87 (Nat.le_of_eq g88.symm)
       have sz88 : T73.heap.size ≤ b88 := Nat.le_trans K87.1 (Nat.le_of_eq g88.symm)
       have ne89 : b87 ≠ b88 := Nat.ne_of_lt (Nat.lt_of_lt_of_le A87.lt (Nat.le_of_eq g88.symm))
       have O88 := Old.ext O87 E88
       have K88 : Keep T73.heap h88 [] := K87.ext E88
       have Z88 : n0 ≤ h88.size := Nat.le_trans Z87 E88.1
       have Wd88 := Wd87.ext E88
       have V88_ : Arv Z h88 b88 k88 .char (19 : Int32) (own_A 19 (own_fC ((own_T19 w0 w1).take 0))) (.int (0 : Int32)) := by have q := V88; rw [own_repC (cs := (own_T19 w0 w1))] at q; exact q
       refine own_t1 (.ref b88) 844 st88 ?_
       refine own_tp (.ref b88) 845 (fun _ q => XS.dup X88.here hx rfl (hb hby at_844) rfl rfl q) ?_
       refine own_tp (.int (0 : Int32)) 846 (fun _ q => XS.iconst X88.here hx rfl (hb hby at_845) q) ?_
       refine own_tp (.int (116 : Int32)) 848 (fun _ q => XS.bipush X88.here hx rfl (hb hby at_846) q) ?_
       obtain ⟨T90, h90, L90, X90, e90, V90, Wd90, N90, O90, Z90, K90, J90, st90⟩ := own_cst X88 hx hZ58 e88 V88_ Wd88 Nj76 O88 Z88 K88 (Keep.refl h88 [b88]) ge88 sz88 (cs := (own_T19 w0 w1)) (n := 19) (i := 0) (x := (116 : Int32)) (by decide) ⟨rfl, by decide, by decide⟩ rfl (by decide) (hb hby at_848)
       refine own_cs [(.ref b88), (.ref b87), (.ref b87)] 849 st90 ?_
       refine own_tp (.ref b88) 850 (fun _ q => XS.dup X90.here hx rfl (hb hby at_849) rfl rfl q) ?_
       refine own_tp (.int (1 : Int32)) 851 (fun _ q => XS.iconst X90.here hx rfl (hb hby at_850) q) ?_
       refine own_tp (.int (104 : Int32)) 853 (fun _ q => XS.bipush X90.here hx rfl (hb hby at_851) q) ?_
       obtain ⟨T91, h91, L91, X91, e91, V91, Wd91, N91, O91, Z91, K91, J91, st91⟩ := own_cst X90 hx hZ58 e90 V90 Wd90 N90 O90 Z90 K90 J90 ge88 sz88 (cs := (own_T19 w0 w1)) (n := 19) (i := 1) (x := (104 : Int32)) (by decide) ⟨rfl, by decide, by decide⟩ rfl (by decide) (hb hby at_853)
       refine own_cs [(.ref b88), (.ref b87), (.ref b87)] 854 st91 ?_
       refine own_tp (.ref b88) 855 (fun _ q => XS.dup X91.here hx rfl (hb hby at_854) rfl rfl q) ?_
       refine own_tp (.int (2 : Int32)) 856 (fun _ q => XS.iconst X91.here hx rfl (hb hby at_855) q) ?_
       refine own_tp (.int (101 : Int32)) 858 (fun _ q => XS.bipush X91.here hx rfl (hb hby at_856) q) ?_
       obtain ⟨T92, h92, L92, X92, e92, V92, Wd92, N92, O92, Z92, K92, J92, st92⟩ := own_cst X91 hx hZ58 e91 V91 Wd91 N91 O91 Z91 K91 J91 ge88 sz88 (cs := (own_T19 w0 w1)) (n := 19) (i := 2) (x := (101 : Int32)) (by decide) ⟨rfl, by decide, by decide⟩ rfl (by decide) (hb hby at_858)
       refine own_cs [(.ref b88), (.ref b87), (.ref b87)] 859 st92 ?_
       refine own_tp (.ref b88) 860 (fun _ q => XS.dup X92.here hx rfl (hb hby at_859) rfl rfl q) ?_
       refine own_tp (.int (3 : Int32)) 861 (fun _ q => XS.iconst X92.here hx rfl (hb hby at_860) q) ?_
       refine own_tp (.int (114 : Int32)) 863 (fun _ q => XS.bipush X92.here hx rfl (hb hby at_861) q) ?_
       obtain ⟨T93, h93, L93, X93, e93, V93, Wd93, N93, O93, Z93, K93, J93, st93⟩ := own_cst X92 hx hZ58 e92 V92 Wd92 N92 O92 Z92 K92 J92 ge88 sz88 (cs := (own_T19 w0 w1)) (n := 19) (i := 3) (x := (114 : Int32)) (by decide) ⟨rfl, by decide, by decide⟩ rfl (by decide) (hb hby at_863)
       refine own_cs [(.ref b88), (.ref b87), (.ref b87)] 864 st93 ?_
       refine own_tp (.ref b88) 865 (fun _ q => XS.dup X93.here hx rfl (hb hby at_864) rfl rfl q) ?_
       refine own_tp (.int (4 : Int32)) 866 (fun _ q => XS.iconst X93.here hx rfl (hb hby at_865) q) ?_
       refine own_tp (.int (101 : Int32)) 868 (fun _ q => XS.bipush X93.here hx rfl (hb hby at_866) q) ?_
       obtain ⟨T94, h94, L94, X94, e94, V94, Wd94, N94, O94, Z94, K94, J94, st94⟩ := own_cst X93 hx hZ58 e93 V93 Wd93 N93 O93 Z93 K93 J93 ge88 sz88 (cs := (own_T19 w0 w1)) (n := 19) (i := 4) (x := (101 : Int32)) (by decide) ⟨rfl, by decide, by decide⟩ rfl (by decide) (hb hby at_868)
       refine own_cs [(.ref b88), (.ref b87), (.ref b87)] 869 st94 ?_
       refine own_tp (.ref b88) 870 (fun _ q => XS.dup X94.here hx rfl (hb hby at_869) rfl rfl q) ?_
       refine own_tp (.int (5 : Int32)) 871 (fun _ q => XS.iconst X94.here hx rfl (hb hby at_870) q) ?_
       refine own_tp (.int (32 : Int32)) 873 (fun _ q => XS.bipush X94.here hx rfl (hb hby at_871) q) ?_
       obtain ⟨T95, h95, L95, X95, e95, V95, Wd95, N95, O95, Z95, K95, J95, st95⟩ := own_cst X94 hx hZ58 e94 V94 Wd94 N94 O94 Z94 K94 J94 ge88 sz88 (cs := (own_T19 w0 w1)) (n := 19) (i := 5) (x := (32 : Int32)) (by decide) ⟨rfl, by decide, by decide⟩ rfl (by decide) (hb hby at_873)
       refine own_cs [(.ref b88), (.ref b87), (.ref b87)] 874 st95 ?_
       refine own_tp (.ref b88) 875 (fun _ q => XS.dup X95.here hx rfl (hb hby at_874) rfl rfl q) ?_
       refine own_tp (.int (6 : Int32)) 877 (fun _ q => XS.bipush X95.here hx rfl (hb hby at_875) q) ?_
       refine own_tp (.int (105 : Int32)) 879 (fun _ q => XS.bipush X95.here hx rfl (hb hby at_877) q) ?_
       obtain ⟨T96, h96, L96, X96, e96, V96, Wd96, N96, O96, Z96, K96, J96, st96⟩ := own_cst X95 hx hZ58 e95 V95 Wd95 N95 O95 Z95 K95 J95 ge88 sz88 (cs := (own_T19 w0 w1)) (n := 19) (i := 6) (x := (105 : Int32)) (by decide) ⟨rfl, by decide, by decide⟩ rfl (by decide) (hb hby at_879)
       refine own_cs [(.ref b88), (.ref b87), (.ref b87)] 880 st96 ?_
       refine own_tp (.ref b88) 881 (fun _ q => XS.dup X96.here hx rfl (hb hby at_880) rfl rfl q) ?_
       refine own_tp (.int (7 : Int32)) 883 (fun _ q => XS.bipush X96.here hx rfl (hb hby at_881) q) ?_
       refine own_tp (.int (115 : Int32)) 885 (fun _ q => XS.bipush X96.here hx rfl (hb hby at_883) q) ?_
       obtain ⟨T97, h97, L97, X97, e97, V97, Wd97, N97, O97, Z97, K97, J97, st97⟩ := own_cst X96 hx hZ58 e96 V96 Wd96 N96 O96 Z96 K96 J96 ge88 sz88 (cs := (own_T19 w0 w1)) (n := 19) (i := 7) (x := (115 : Int32)) (by decide) ⟨rfl, by decide, by decide⟩ rfl (by decide) (hb hby at_885)
       refine own_cs [(.ref b88), (.ref b87), (.ref b87)] 886 st97 ?_
       refine own_tp (.ref b88) 887 (fun _ q => XS.dup X97.here hx rfl (hb hby at_886) rfl rfl q) ?_
       refine own_tp (.int (8 : Int32)) 889 (fun _ q => XS.bipush X97.here hx rfl (hb hby at_887) q) ?_
       refine own_tp (.int (32 : Int32)) 891 (fun _ q => XS.bipush X97.here hx rfl (hb hby at_889) q) ?_
       obtain ⟨T98, h98, L98, X98, e98, V98, Wd98, N98, O98, Z98, K98, J98, st98⟩ := own_cst X97 hx hZ58 e97 V97 Wd97 N97 O97 Z97 K97 J97 ge88 sz88 (cs := (own_T19 w0 w1)) (n := 19) (i := 8) (x := (32 : Int32)) (by decide) ⟨rfl, by decide, by decide⟩ rfl (by decide) (hb hby at_891)
       refine own_cs [(.ref b88), (.ref b87), (.ref b87)] 892 st98 ?_
       refine own_tp (.ref b88) 893 (fun _ q => XS.dup X98.here hx rfl (hb hby at_892) rfl rfl q) ?_
       refine own_tp (.int (9 : Int32)) 895 (fun _ q => XS.bipush X98.here hx rfl (hb hby at_893) q) ?_
       refine own_tp (.int (110 : Int32)) 897 (fun _ q => XS.bipush X98.here hx rfl (hb hby at_895) q) ?_
       obtain ⟨T99, h99, L99, X99, e99, V99, Wd99, N99, O99, Z99, K99, J99, st99⟩ := own_cst X98 hx hZ58 e98 V98 Wd98 N98 O98 Z98 K98 J98 ge88 sz88 (cs := (own_T19 w0 w1)) (n := 19) (i := 9) (x := (110 : Int32)) (by decide) ⟨rfl, by decide, by decide⟩ rfl (by decide) (hb hby at_897)
       refine own_cs [(.ref b88), (.ref b87), (.ref b87)] 898 st99 ?_
       refine own_tp (.ref b88) 899 (fun _ q => XS.dup X99.here hx rfl (hb hby at_898) rfl rfl q) ?_
       refine own_tp (.int (10 : Int32)) 901 (fun _ q => XS.bipush X99.here hx rfl (hb hby at_899) q) ?_
       refine own_tp (.int (111 : Int32)) 903 (fun _ q => XS.bipush X99.here hx rfl (hb hby at_901) q) ?_
       obtain ⟨T100, h100, L100, X100, e100, V100, Wd100, N100, O100, Z100, K100, J100, st100⟩ := own_cst X99 hx hZ58 e99 V99 Wd99 N99 O99 Z99 K99 J99 ge88 sz88 (cs := (own_T19 w0 w1)) (n := 19) (i := 10) (x := (111 : Int32)) (by decide) ⟨rfl, by decide, by decide⟩ rfl (by decide) (hb hby at_903)
       refine own_cs [(.ref b88), (.ref b87), (.ref b87)] 904 st100 ?_
       refine own_tp (.ref b88) 905 (fun _ q => XS.dup X100.here hx rfl (hb hby at_904) rfl rfl q) ?_
       refine own_tp (.int (11 : Int32)) 907 (fun _ q => XS.bipush X100.here hx rfl (hb hby at_905) q) ?_
       refine own_tp (.int (32 : Int32)) 909 (fun _ q => XS.bipush X100.here hx rfl (hb hby at_907) q) ?_
       obtain ⟨T101, h101, L101, X101, e101, V101, Wd101, N101, O101, Z101, K101, J101, st101⟩ := own_cst X100 hx hZ58 e100 V100 Wd100 N100 O100 Z100 K100 J100 ge88 sz88 (cs := (own_T19 w0 w1)) (n := 19) (i := 11) (x := (32 : Int32)) (by decide) ⟨rfl, by decide, by decide⟩ rfl (by decide) (hb hby at_909)
       refine own_cs [(.ref b88), (.ref b87), (.ref b87)] 910 st101 ?_
       refine own_tp (.ref b88) 911 (fun _ q => XS.dup X101.here hx rfl (hb hby at_910) rfl rfl q) ?_
       refine own_tp (.int (12 : Int32)) 913 (fun _ q => XS.bipush X101.here hx rfl (hb hby at_911) q) ?_
       refine own_tp (.int (115 : Int32)) 915 (fun _ q => XS.bipush X101.here hx rfl (hb hby at_913) q) ?_
       obtain ⟨T102, h102, L102, X102, e102, V102, Wd102, N102, O102, Z102, K102, J102, st102⟩ := own_cst X101 hx hZ58 e101 V101 Wd101 N101 O101 Z101 K101 J101 ge88 sz88 (cs := (own_T19 w0 w1)) (n := 19) (i := 12) (x := (115 : Int32)) (by decide) ⟨rfl, by decide, by decide⟩ rfl (by decide) (hb hby at_915)
       refine own_cs [(.ref b88), (.ref b87), (.ref b87)] 916 st102 ?_
       refine own_tp (.ref b88) 917 (fun _ q => XS.dup X102.here hx rfl (hb hby at_916) rfl rfl q) ?_
       refine own_tp (.int (13 : Int32)) 919 (fun _ q => XS.bipush X102.here hx rfl (hb hby at_917) q) ?_
       refine own_tp (.int (117 : Int32)) 921 (fun _ q => XS.bipush X102.here hx rfl (hb hby at_919) q) ?_
       obtain ⟨T103, h103, L103, X103, e103, V103, Wd103, N103, O103, Z103, K103, J103, st103⟩ := own_cst X102 hx hZ58 e102 V102 Wd102 N102 O102 Z102 K102 J102 ge88 sz88 (cs := (own_T19 w0 w1)) (n := 19) (i := 13) (x := (117 : Int32)) (by decide) ⟨rfl, by decide, by decide⟩ rfl (by decide) (hb hby at_921)
       refine own_cs [(.ref b88), (.ref b87), (.ref b87)] 922 st103 ?_
       refine own_tp (.ref b88) 923 (fun _ q => XS.dup X103.here hx rfl (hb hby at_922) rfl rfl q) ?_
       refine own_tp (.int (14 : Int32)) 925 (fun _ q => XS.bipush X103.here hx rfl (hb hby at_923) q) ?_
       refine own_tp (.int (99 : Int32)) 927 (fun _ q => XS.bipush X103.here hx rfl (hb hby at_925) q) ?_
       obtain ⟨T104, h104, L104, X104, e104, V104, Wd104, N104, O104, Z104, K104, J104, st104⟩ := own_cst X103 hx hZ58 e103 V103 Wd103 N103 O103 Z103 K103 J103 ge88 sz88 (cs := (own_T19 w0 w1)) (n := 19) (i := 14) (x := (99 : Int32)) (by decide) ⟨rfl, by decide, by decide⟩ rfl (by decide) (hb hby at_927)
       refine own_cs [(.ref b88), (.ref b87), (.ref b87)] 928 st104 ?_
       refine own_tp (.ref b88) 929 (fun _ q => XS.dup X104.here hx rfl (hb hby at_928) rfl rfl q) ?_
       refine own_tp (.int (15 : Int32)) 931 (fun _ q => XS.bipush X104.here hx rfl (hb hby at_929) q) ?_
       refine own_tp (.int (104 : Int32)) 933 (fun _ q => XS.bipush X104.here hx rfl (hb hby at_931) q) ?_
       obtain ⟨T105, h105, L105, X105, e105, V105, Wd105, N105, O105, Z105, K105, J105, st105⟩ := own_cst X104 hx hZ58 e104 V104 Wd104 N104 O104 Z104 K104 J104 ge88 sz88 (cs := (own_T19 w0 w1)) (n := 19) (i := 15) (x := (104 : Int32)) (by decide) ⟨rfl, by decide, by decide⟩ rfl (by decide) (hb hby at_933)
       refine own_cs [(.ref b88), (.ref b87), (.ref b87)] 934 st105 ?_
       refine own_tp (.ref b88) 935 (fun _ q => XS.dup X105.here hx rfl (hb hby at_934) rfl rfl q) ?_
       refine own_tp (.int (16 : Int32)) 937 (fun _ q => XS.bipush X105.here hx rfl (hb hby at_935) q) ?_
       refine own_tp (.int (32 : Int32)) 939 (fun _ q => XS.bipush X105.here hx rfl (hb hby at_937) q) ?_
       obtain ⟨T106, h106, L106, X106, e106, V106, Wd106, N106, O106, Z106, K106, J106, st106⟩ := own_cst X105 hx hZ58 e105 V105 Wd105 N105 O105 Z105 K105 J105 ge88 sz88 (cs := (own_T19 w0 w1)) (n := 19) (i := 16) (x := (32 : Int32)) (by decide) ⟨rfl, by decide, by decide⟩ rfl (by decide) (hb hby at_939)
       refine own_cs [(.ref b88), (.ref b87), (.ref b87)] 940 st106 ?_
       refine own_tp (.ref b88) 941 (fun _ q => XS.dup X106.here hx rfl (hb hby at_940) rfl rfl q) ?_
       refine own_tp (.int (17 : Int32)) 943 (fun _ q => XS.bipush X106.here hx rfl (hb hby at_941) q) ?_
       refine own_tp (.int w0) 945 (fun _ q => XS.iload X106.here hx rfl (hb hby at_943) rfl q) ?_
       obtain ⟨T107, h107, L107, X107, e107, V107, Wd107, N107, O107, Z107, K107, J107, st107⟩ := own_cst X106 hx hZ58 e106 V106 Wd106 N106 O106 Z106 K106 J106 ge88 sz88 (cs := (own_T19 w0 w1)) (n := 19) (i := 17) (x := w0) (by decide) ⟨rfl, by decide, by decide⟩ rfl hw0 (hb hby at_945)
       refine own_cs [(.ref b88), (.ref b87), (.ref b87)] 946 st107 ?_
       refine own_tp (.ref b88) 947 (fun _ q => XS.dup X107.here hx rfl (hb hby at_946) rfl rfl q) ?_
       refine own_tp (.int (18 : Int32)) 949 (fun _ q => XS.bipush X107.here hx rfl (hb hby at_947) q) ?_
       refine own_tp (.int w1) 951 (fun _ q => XS.iload X107.here hx rfl (hb hby at_949) rfl q) ?_
       obtain ⟨T108, h108, L108, X108, e108, V108, Wd108, N108, O108, Z108, K108, J108, st108⟩ := own_cst X107 hx hZ58 e107 V107 Wd107 N107 O107 Z107 K107 J107 ge88 sz88 (cs := (own_T19 w0 w1)) (n := 19) (i := 18) (x := w1) (by decide) ⟨rfl, by decide, by decide⟩ rfl hw1 (hb hby at_951)
       refine own_cs [(.ref b88), (.ref b87), (.ref b87)] 952 st108 ?_
       have f109 := (Safe.keep J108 (allS (own_safeV hZ58.alike V88_ (by simp)) all0) Wd88.chv (Safe.ext E88 Wd87.chv G87))
       have f110 := ((A87.ext E88).keep J108)
       have f111 := ((Fvalue_87.ext E88).keep J108 (ninS ne89 nin0))
       have f112 := ((Fcoder_87.ext E88).keep J108 (ninS ne89 nin0))
       obtain ⟨_, _, ⟨T113, L113, k113, n113⟩, -, X113, ⟨Lc113, hQ113, l113, y113, z113⟩, st113⟩ := X108.specialBack hx (y := own_M52) rfl hown58 (mvT hZ58 (w 6 rfl)) (mvT hZ58 (w 7 rfl)) (mvT hZ58 (w 8 rfl)) (by decide) (backOf (W := 1) (rm310 l Z a0 hw [] b87 b88 k88 (own_T19 w0 w1) _ _ h108 n0 (show 0 < (own_T19 w0 w1).length from Nat.zero_lt_succ _) (show (own_T19 w0 w1).length ≤ 96 from (by decide : (19 : Nat) ≤ 96)) (own_T19c hw0 hw1) Z108 ge87 ne89 (by have q : Arv Z h108 b88 k88 .char (19 : Int32) (own_A 19 (own_fC ((own_T19 w0 w1).take 19))) (.int (0 : Int32)) := V108; rw [own_fullC (n := 19) rfl] at q; exact q) f110 f111 f112 G1 US O108) hZ58 (w 8 rfl) (w 5 rfl) (by decide) (by decide)) (g := (mkF m 952 L_77 [(.ref b88), (.ref b87), (.ref b87)])) rfl (by rw [hml]; rfl) (Steps.refl _) (a := b87) (argsL := [(.ref b88)]) (rest := [(.ref b87)]) (lenOf pd36 rfl) rfl (by show 2 * 0 + _ ≤ _; exact Nat.le_of_eq rfl) (hb hby at_952) (fun _ _ => ⟨rfl, e108, (by decide : 12 + 2 ≤ _), (by decide : 929 + 400 ≤ _)⟩)
       dsimp only [Pt.U, Pt.locs, Pt.cells, Pt.slots] at X113 l113 y113 z113 st113 hQ113
       subst l113 y113 z113
       obtain ⟨rfl, Nq113, Kp113, t113, kb113, cd113, Nn113, vs113, gt113, st_113, A113, Vl113, Cd113, V113, Co113⟩ := hQ113
       have N113 := Fr.app N108 Nq113
       have O113 := Old.keep O108 Kp113 (allS ge87 all0)
       have Z113 : n0 ≤ T113.heap.size := Nat.le_trans Z108 Kp113.1
       have K113 : Keep T73.heap T113.heap [] := Keep.trans K108 Kp113 (allS (Or.inr sz87) all0)
       have Wd113 := Wd108.keep Kp113 (allS f109 all0)
       have SS113 : own_S Z T113.heap b87 (own_T19 w0 w1) := ⟨t113, kb113, cd113, Nn113, vs113, A113, Vl113, Cd113, V113, Co113⟩
       refine own_csR [(.ref b87)] 955 st113 ?_
       let L_114 : Array Slot := #[.val (.long q0), .second, .val (.int p1), .val (.int p2), .val (.int z51), .val (.int z53), .val (.int z55), .val (.int ln), sl8_58, .val (.ref nm), .val (.int w0), .val (.int w1), .val (.ref b62), .val (.int z76), .val (.ref b87), .unset]
       refine own_ls L_114 957 (fun _ q => XS.astore X113.here hx rfl (hb hby at_955) rfl rfl (l' := L_114) rfl q) ?_
       exact kj78 T113 _ vj58 T113.heap (.ref b87) (X113.more (by decide) (by decide)) N113 rfl Wd113 hown58 O113 Z113 rfl ⟨b87, rfl, by unfold own_TX; rw [if_pos c86]; exact SS113, own_S.keep0 SN75 K113, own_S.keep0 SS73 K113⟩
      ·
       refine own_d1 250 (fun _ q => XS.ifNo Xj76.here hx rfl (hb hby at_247) rfl ((if0 _ _).trans (feq c86).1) q) ?_
       obtain ⟨T115, h115, X115, e115, E115, A115, D115, -, st115⟩ := newO Xj76 hx hZ58 hown58 (w 3 rfl) (w 4 rfl) (w 5 rfl) ej76 (g := (mkF m 250 L_77 [])) rfl (hb hby at_250) (by decide) (by decide)
       obtain ⟨b115, g115⟩ : ∃ z, z = T73.heap.size := ⟨_, rfl⟩
       rw [← g115] at A115 D115 st115
       have ge115 : n0 ≤ b115 := Nat.le_trans Z73 (Nat.le_of_eq g115.symm)
       have sz115 : T73.heap.size ≤ b115 := Nat.le_trans (Keep.refl T73.heap []).1 (Nat.le_of_eq g115.symm)
       have O115 := Old.ext O73 E115
       have K115 : Keep T73.heap h115 [] := (Keep.refl T73.heap []).ext E115
       have Z115 : n0 ≤ h115.size := Nat.le_trans Z73 E115.1
       have Wd115 := Wd73.ext E115
       have G115 : Safe Z own_EL vj58 h115 b115 := Safe.ext E115 Wd73.chv (Safe.new (Nat.le_of_eq g115.symm))
       have Fvalue_115 : Fld Z h115 b115 "java/lang/String" "value" "[B" .null := D115 (Or.inr (w 18 rfl)) (ty := (.array .byte)) (by decide)
       have Fcoder_115 : Fld Z h115 b115 "java/lang/String" "coder" "B" (.int (0 : Int32)) := D115 (Or.inr (w 19 rfl)) (ty := .byte) (by decide)
       refine own_tp (.ref b115) 253 st115 ?_
       refine own_tp (.ref b115) 254 (fun _ q => XS.dup X115.here hx rfl (hb hby at_253) rfl rfl q) ?_
       refine own_tp (.int (96 : Int32)) 256 (fun _ q => XS.bipush X115.here hx rfl (hb hby at_254) q) ?_
       obtain ⟨T116, h116, k116, X116, e116, E116, A116, st116⟩ := newP X115 hx hZ58 (w 2 rfl) e115 (g := (mkF m 256 L_77 [(.int (96 : Int32)), (.ref b115), (.ref b115)])) rfl (hb hby at_256) rfl (by decide) (cap := 96) (by decide) (by decide) (by decide) (by decide)
       obtain ⟨b116, g116⟩ : ∃ z, z = h115.size := ⟨_, rfl⟩
       rw [← g116] at A116 st116
       have V116 : Arv Z h116 b116 k116 .char (96 : Int32) (List.replicate 96 (.int (0 : Int32))) (.int (0 : Int32)) := (Arv.new A116 (by decide)).pad (pad_rep [] (.int (0 : Int32)) 96)
       have ge116 : n0 ≤ b116 := Nat.le_trans Z115 (Nat.le_of_eq g116.symm)
       have sz116 : T73.heap.size ≤ b116 := Nat.le_trans K115.1 (Nat.le_of_eq g116.symm)
       have ne117 : b115 ≠ b116 := Nat.ne_of_lt (Nat.lt_of_lt_of_le A115.lt (Nat.le_of_eq g116.symm))
       have O116 := Old.ext O115 E116
       have K116 : Keep T73.heap h116 [] := K115.ext E116
       have Z116 : n0 ≤ h116.size := Nat.le_trans Z115 E116.1
       have Wd116 := Wd115.ext E116
       have V116_ : Arv Z h116 b116 k116 .char (96 : Int32) (own_A 96 (own_fC ((own_T96 w0 w1).take 0))) (.int (0 : Int32)) := by have q := V116; rw [own_repC (cs := (own_T96 w0 w1))] at q; exact q
       refine own_t1 (.ref b116) 258 st116 ?_
       refine own_tp (.ref b116) 259 (fun _ q => XS.dup X116.here hx rfl (hb hby at_258) rfl rfl q) ?_
       refine own_tp (.int (0 : Int32)) 260 (fun _ q => XS.iconst X116.here hx rfl (hb hby at_259) q) ?_
       refine own_tp (.int (105 : Int32)) 262 (fun _ q => XS.bipush X116.here hx rfl (hb hby at_260) q) ?_
       obtain ⟨T118, h118, L118, X118, e118, V118, Wd118, N118, O118, Z118, K118, J118, st118⟩ := own_cst X116 hx hZ58 e116 V116_ Wd116 Nj76 O116 Z116 K116 (Keep.refl h116 [b116]) ge116 sz116 (cs := (own_T96 w0 w1)) (n := 96) (i := 0) (x := (105 : Int32)) (by decide) ⟨rfl, by decide, by decide⟩ rfl (by decide) (hb hby at_262)
       refine own_cs [(.ref b116), (.ref b115), (.ref b115)] 263 st118 ?_
       refine own_tp (.ref b116) 264 (fun _ q => XS.dup X118.here hx rfl (hb hby at_263) rfl rfl q) ?_
       refine own_tp (.int (1 : Int32)) 265 (fun _ q => XS.iconst X118.here hx rfl (hb hby at_264) q) ?_
       refine own_tp (.int (116 : Int32)) 267 (fun _ q => XS.bipush X118.here hx rfl (hb hby at_265) q) ?_
       obtain ⟨T119, h119, L119, X119, e119, V119, Wd119, N119, O119, Z119, K119, J119, st119⟩ := own_cst X118 hx hZ58 e118 V118 Wd118 N118 O118 Z118 K118 J118 ge116 sz116 (cs := (own_T96 w0 w1)) (n := 96) (i := 1) (x := (116 : Int32)) (by decide) ⟨rfl, by decide, by decide⟩ rfl (by decide) (hb hby at_267)
       refine own_cs [(.ref b116), (.ref b115), (.ref b115)] 268 st119 ?_
       refine own_tp (.ref b116) 269 (fun _ q => XS.dup X119.here hx rfl (hb hby at_268) rfl rfl q) ?_
       refine own_tp (.int (2 : Int32)) 270 (fun _ q => XS.iconst X119.here hx rfl (hb hby at_269) q) ?_
       refine own_tp (.int (115 : Int32)) 272 (fun _ q => XS.bipush X119.here hx rfl (hb hby at_270) q) ?_
       obtain ⟨T120, h120, L120, X120, e120, V120, Wd120, N120, O120, Z120, K120, J120, st120⟩ := own_cst X119 hx hZ58 e119 V119 Wd119 N119 O119 Z119 K119 J119 ge116 sz116 (cs := (own_T96 w0 w1)) (n := 96) (i := 2) (x := (115 : Int32)) (by decide) ⟨rfl, by decide, by decide⟩ rfl (by decide) (hb hby at_272)
       refine own_cs [(.ref b116), (.ref b115), (.ref b115)] 273 st120 ?_
       refine own_tp (.ref b116) 274 (fun _ q => XS.dup X120.here hx rfl (hb hby at_273) rfl rfl q) ?_
       refine own_tp (.int (3 : Int32)) 275 (fun _ q => XS.iconst X120.here hx rfl (hb hby at_274) q) ?_
       refine own_tp (.int (32 : Int32)) 277 (fun _ q => XS.bipush X120.here hx rfl (hb hby at_275) q) ?_
       obtain ⟨T121, h121, L121, X121, e121, V121, Wd121, N121, O121, Z121, K121, J121, st121⟩ := own_cst X120 hx hZ58 e120 V120 Wd120 N120 O120 Z120 K120 J120 ge116 sz116 (cs := (own_T96 w0 w1)) (n := 96) (i := 3) (x := (32 : Int32)) (by decide) ⟨rfl, by decide, by decide⟩ rfl (by decide) (hb hby at_277)
       refine own_cs [(.ref b116), (.ref b115), (.ref b115)] 278 st121 ?_
       refine own_tp (.ref b116) 279 (fun _ q => XS.dup X121.here hx rfl (hb hby at_278) rfl rfl q) ?_
       refine own_tp (.int (4 : Int32)) 280 (fun _ q => XS.iconst X121.here hx rfl (hb hby at_279) q) ?_
       refine own_tp (.int (110 : Int32)) 282 (fun _ q => XS.bipush X121.here hx rfl (hb hby at_280) q) ?_
       obtain ⟨T122, h122, L122, X122, e122, V122, Wd122, N122, O122, Z122, K122, J122, st122⟩ := own_cst X121 hx hZ58 e121 V121 Wd121 N121 O121 Z121 K121 J121 ge116 sz116 (cs := (own_T96 w0 w1)) (n := 96) (i := 4) (x := (110 : Int32)) (by decide) ⟨rfl, by decide, by decide⟩ rfl (by decide) (hb hby at_282)
       refine own_cs [(.ref b116), (.ref b115), (.ref b115)] 283 st122 ?_
       refine own_tp (.ref b116) 284 (fun _ q => XS.dup X122.here hx rfl (hb hby at_283) rfl rfl q) ?_
       refine own_tp (.int (5 : Int32)) 285 (fun _ q => XS.iconst X122.here hx rfl (hb hby at_284) q) ?_
       refine own_tp (.int (97 : Int32)) 287 (fun _ q => XS.bipush X122.here hx rfl (hb hby at_285) q) ?_
       obtain ⟨T123, h123, L123, X123, e123, V123, Wd123, N123, O123, Z123, K123, J123, st123⟩ := own_cst X122 hx hZ58 e122 V122 Wd122 N122 O122 Z122 K122 J122 ge116 sz116 (cs := (own_T96 w0 w1)) (n := 96) (i := 5) (x := (97 : Int32)) (by decide) ⟨rfl, by decide, by decide⟩ rfl (by decide) (hb hby at_287)
       refine own_cs [(.ref b116), (.ref b115), (.ref b115)] 288 st123 ?_
       refine own_tp (.ref b116) 289 (fun _ q => XS.dup X123.here hx rfl (hb hby at_288) rfl rfl q) ?_
       refine own_tp (.int (6 : Int32)) 291 (fun _ q => XS.bipush X123.here hx rfl (hb hby at_289) q) ?_
       refine own_tp (.int (109 : Int32)) 293 (fun _ q => XS.bipush X123.here hx rfl (hb hby at_291) q) ?_
       obtain ⟨T124, h124, L124, X124, e124, V124, Wd124, N124, O124, Z124, K124, J124, st124⟩ := own_cst X123 hx hZ58 e123 V123 Wd123 N123 O123 Z123 K123 J123 ge116 sz116 (cs := (own_T96 w0 w1)) (n := 96) (i := 6) (x := (109 : Int32)) (by decide) ⟨rfl, by decide, by decide⟩ rfl (by decide) (hb hby at_293)
       refine own_cs [(.ref b116), (.ref b115), (.ref b115)] 294 st124 ?_
       refine own_tp (.ref b116) 295 (fun _ q => XS.dup X124.here hx rfl (hb hby at_294) rfl rfl q) ?_
       refine own_tp (.int (7 : Int32)) 297 (fun _ q => XS.bipush X124.here hx rfl (hb hby at_295) q) ?_
       refine own_tp (.int (101 : Int32)) 299 (fun _ q => XS.bipush X124.here hx rfl (hb hby at_297) q) ?_
       obtain ⟨T125, h125, L125, X125, e125, V125, Wd125, N125, O125, Z125, K125, J125, st125⟩ := own_cst X124 hx hZ58 e124 V124 Wd124 N124 O124 Z124 K124 J124 ge116 sz116 (cs := (own_T96 w0 w1)) (n := 96) (i := 7) (x := (101 : Int32)) (by decide) ⟨rfl, by decide, by decide⟩ rfl (by decide) (hb hby at_299)
       refine own_cs [(.ref b116), (.ref b115), (.ref b115)] 300 st125 ?_
       refine own_tp (.ref b116) 301 (fun _ q => XS.dup X125.here hx rfl (hb hby at_300) rfl rfl q) ?_
       refine own_tp (.int (8 : Int32)) 303 (fun _ q => XS.bipush X125.here hx rfl (hb hby at_301) q) ?_
       refine own_tp (.int (32 : Int32)) 305 (fun _ q => XS.bipush X125.here hx rfl (hb hby at_303) q) ?_
       obtain ⟨T126, h126, L126, X126, e126, V126, Wd126, N126, O126, Z126, K126, J126, st126⟩ := own_cst X125 hx hZ58 e125 V125 Wd125 N125 O125 Z125 K125 J125 ge116 sz116 (cs := (own_T96 w0 w1)) (n := 96) (i := 8) (x := (32 : Int32)) (by decide) ⟨rfl, by decide, by decide⟩ rfl (by decide) (hb hby at_305)
       refine own_cs [(.ref b116), (.ref b115), (.ref b115)] 306 st126 ?_
       refine own_tp (.ref b116) 307 (fun _ q => XS.dup X126.here hx rfl (hb hby at_306) rfl rfl q) ?_
       refine own_tp (.int (9 : Int32)) 309 (fun _ q => XS.bipush X126.here hx rfl (hb hby at_307) q) ?_
       refine own_tp (.int (104 : Int32)) 311 (fun _ q => XS.bipush X126.here hx rfl (hb hby at_309) q) ?_
       obtain ⟨T127, h127, L127, X127, e127, V127, Wd127, N127, O127, Z127, K127, J127, st127⟩ := own_cst X126 hx hZ58 e126 V126 Wd126 N126 O126 Z126 K126 J126 ge116 sz116 (cs := (own_T96 w0 w1)) (n := 96) (i := 9) (x := (104 : Int32)) (by decide) ⟨rfl, by decide, by decide⟩ rfl (by decide) (hb hby at_311)
       refine own_cs [(.ref b116), (.ref b115), (.ref b115)] 312 st127 ?_
       refine own_tp (.ref b116) 313 (fun _ q => XS.dup X127.here hx rfl (hb hby at_312) rfl rfl q) ?_
       refine own_tp (.int (10 : Int32)) 315 (fun _ q => XS.bipush X127.here hx rfl (hb hby at_313) q) ?_
       refine own_tp (.int (111 : Int32)) 317 (fun _ q => XS.bipush X127.here hx rfl (hb hby at_315) q) ?_
       obtain ⟨T128, h128, L128, X128, e128, V128, Wd128, N128, O128, Z128, K128, J128, st128⟩ := own_cst X127 hx hZ58 e127 V127 Wd127 N127 O127 Z127 K127 J127 ge116 sz116 (cs := (own_T96 w0 w1)) (n := 96) (i := 10) (x := (111 : Int32)) (by decide) ⟨rfl, by decide, by decide⟩ rfl (by decide) (hb hby at_317)
       refine own_cs [(.ref b116), (.ref b115), (.ref b115)] 318 st128 ?_
       refine own_tp (.ref b116) 319 (fun _ q => XS.dup X128.here hx rfl (hb hby at_318) rfl rfl q) ?_
       refine own_tp (.int (11 : Int32)) 321 (fun _ q => XS.bipush X128.here hx rfl (hb hby at_319) q) ?_
       refine own_tp (.int (108 : Int32)) 323 (fun _ q => XS.bipush X128.here hx rfl (hb hby at_321) q) ?_
       obtain ⟨T129, h129, L129, X129, e129, V129, Wd129, N129, O129, Z129, K129, J129, st129⟩ := own_cst X128 hx hZ58 e128 V128 Wd128 N128 O128 Z128 K128 J128 ge116 sz116 (cs := (own_T96 w0 w1)) (n := 96) (i := 11) (x := (108 : Int32)) (by decide) ⟨rfl, by decide, by decide⟩ rfl (by decide) (hb hby at_323)
       refine own_cs [(.ref b116), (.ref b115), (.ref b115)] 324 st129 ?_
       refine own_tp (.ref b116) 325 (fun _ q => XS.dup X129.here hx rfl (hb hby at_324) rfl rfl q) ?_
       refine own_tp (.int (12 : Int32)) 327 (fun _ q => XS.bipush X129.here hx rfl (hb hby at_325) q) ?_
       refine own_tp (.int (100 : Int32)) 329 (fun _ q => XS.bipush X129.here hx rfl (hb hby at_327) q) ?_
       obtain ⟨T130, h130, L130, X130, e130, V130, Wd130, N130, O130, Z130, K130, J130, st130⟩ := own_cst X129 hx hZ58 e129 V129 Wd129 N129 O129 Z129 K129 J129 ge116 sz116 (cs := (own_T96 w0 w1)) (n := 96) (i := 12) (x := (100 : Int32)) (by decide) ⟨rfl, by decide, by decide⟩ rfl (by decide) (hb hby at_329)
       refine own_cs [(.ref b116), (.ref b115), (.ref b115)] 330 st130 ?_
       refine own_tp (.ref b116) 331 (fun _ q => XS.dup X130.here hx rfl (hb hby at_330) rfl rfl q) ?_
       refine own_tp (.int (13 : Int32)) 333 (fun _ q => XS.bipush X130.here hx rfl (hb hby at_331) q) ?_
       refine own_tp (.int (115 : Int32)) 335 (fun _ q => XS.bipush X130.here hx rfl (hb hby at_333) q) ?_
       obtain ⟨T131, h131, L131, X131, e131, V131, Wd131, N131, O131, Z131, K131, J131, st131⟩ := own_cst X130 hx hZ58 e130 V130 Wd130 N130 O130 Z130 K130 J130 ge116 sz116 (cs := (own_T96 w0 w1)) (n := 96) (i := 13) (x := (115 : Int32)) (by decide) ⟨rfl, by decide, by decide⟩ rfl (by decide) (hb hby at_335)
       refine own_cs [(.ref b116), (.ref b115), (.ref b115)] 336 st131 ?_
       refine own_tp (.ref b116) 337 (fun _ q => XS.dup X131.here hx rfl (hb hby at_336) rfl rfl q) ?_
       refine own_tp (.int (14 : Int32)) 339 (fun _ q => XS.bipush X131.here hx rfl (hb hby at_337) q) ?_
       refine own_tp (.int (32 : Int32)) 341 (fun _ q => XS.bipush X131.here hx rfl (hb hby at_339) q) ?_
       obtain ⟨T132, h132, L132, X132, e132, V132, Wd132, N132, O132, Z132, K132, J132, st132⟩ := own_cst X131 hx hZ58 e131 V131 Wd131 N131 O131 Z131 K131 J131 ge116 sz116 (cs := (own_T96 w0 w1)) (n := 96) (i := 14) (x := (32 : Int32)) (by decide) ⟨rfl, by decide, by decide⟩ rfl (by decide) (hb hby at_341)
       refine own_cs [(.ref b116), (.ref b115), (.ref b115)] 342 st132 ?_
       refine own_tp (.ref b116) 343 (fun _ q => XS.dup X132.here hx rfl (hb hby at_342) rfl rfl q) ?_
       refine own_tp (.int (15 : Int32)) 345 (fun _ q => XS.bipush X132.here hx rfl (hb hby at_343) q) ?_
       refine own_tp (.int (98 : Int32)) 347 (fun _ q => XS.bipush X132.here hx rfl (hb hby at_345) q) ?_
       obtain ⟨T133, h133, L133, X133, e133, V133, Wd133, N133, O133, Z133, K133, J133, st133⟩ := own_cst X132 hx hZ58 e132 V132 Wd132 N132 O132 Z132 K132 J132 ge116 sz116 (cs := (own_T96 w0 w1)) (n := 96) (i := 15) (x := (98 : Int32)) (by decide) ⟨rfl, by decide, by decide⟩ rfl (by decide) (hb hby at_347)
       refine own_cs [(.ref b116), (.ref b115), (.ref b115)] 348 st133 ?_
       refine own_tp (.ref b116) 349 (fun _ q => XS.dup X133.here hx rfl (hb hby at_348) rfl rfl q) ?_
       refine own_tp (.int (16 : Int32)) 351 (fun _ q => XS.bipush X133.here hx rfl (hb hby at_349) q) ?_
       refine own_tp (.int (121 : Int32)) 353 (fun _ q => XS.bipush X133.here hx rfl (hb hby at_351) q) ?_
       obtain ⟨T134, h134, L134, X134, e134, V134, Wd134, N134, O134, Z134, K134, J134, st134⟩ := own_cst X133 hx hZ58 e133 V133 Wd133 N133 O133 Z133 K133 J133 ge116 sz116 (cs := (own_T96 w0 w1)) (n := 96) (i := 16) (x := (121 : Int32)) (by decide) ⟨rfl, by decide, by decide⟩ rfl (by decide) (hb hby at_353)
       refine own_cs [(.ref b116), (.ref b115), (.ref b115)] 354 st134 ?_
       refine own_tp (.ref b116) 355 (fun _ q => XS.dup X134.here hx rfl (hb hby at_354) rfl rfl q) ?_
       refine own_tp (.int (17 : Int32)) 357 (fun _ q => XS.bipush X134.here hx rfl (hb hby at_355) q) ?_
       refine own_tp (.int (116 : Int32)) 359 (fun _ q => XS.bipush X134.here hx rfl (hb hby at_357) q) ?_
       obtain ⟨T135, h135, L135, X135, e135, V135, Wd135, N135, O135, Z135, K135, J135, st135⟩ := own_cst X134 hx hZ58 e134 V134 Wd134 N134 O134 Z134 K134 J134 ge116 sz116 (cs := (own_T96 w0 w1)) (n := 96) (i := 17) (x := (116 : Int32)) (by decide) ⟨rfl, by decide, by decide⟩ rfl (by decide) (hb hby at_359)
       refine own_cs [(.ref b116), (.ref b115), (.ref b115)] 360 st135 ?_
       refine own_tp (.ref b116) 361 (fun _ q => XS.dup X135.here hx rfl (hb hby at_360) rfl rfl q) ?_
       refine own_tp (.int (18 : Int32)) 363 (fun _ q => XS.bipush X135.here hx rfl (hb hby at_361) q) ?_
       refine own_tp (.int (101 : Int32)) 365 (fun _ q => XS.bipush X135.here hx rfl (hb hby at_363) q) ?_
       obtain ⟨T136, h136, L136, X136, e136, V136, Wd136, N136, O136, Z136, K136, J136, st136⟩ := own_cst X135 hx hZ58 e135 V135 Wd135 N135 O135 Z135 K135 J135 ge116 sz116 (cs := (own_T96 w0 w1)) (n := 96) (i := 18) (x := (101 : Int32)) (by decide) ⟨rfl, by decide, by decide⟩ rfl (by decide) (hb hby at_365)
       refine own_cs [(.ref b116), (.ref b115), (.ref b115)] 366 st136 ?_
       refine own_tp (.ref b116) 367 (fun _ q => XS.dup X136.here hx rfl (hb hby at_366) rfl rfl q) ?_
       refine own_tp (.int (19 : Int32)) 369 (fun _ q => XS.bipush X136.here hx rfl (hb hby at_367) q) ?_
       refine own_tp (.int (115 : Int32)) 371 (fun _ q => XS.bipush X136.here hx rfl (hb hby at_369) q) ?_
       obtain ⟨T137, h137, L137, X137, e137, V137, Wd137, N137, O137, Z137, K137, J137, st137⟩ := own_cst X136 hx hZ58 e136 V136 Wd136 N136 O136 Z136 K136 J136 ge116 sz116 (cs := (own_T96 w0 w1)) (n := 96) (i := 19) (x := (115 : Int32)) (by decide) ⟨rfl, by decide, by decide⟩ rfl (by decide) (hb hby at_371)
       refine own_cs [(.ref b116), (.ref b115), (.ref b115)] 372 st137 ?_
       refine own_tp (.ref b116) 373 (fun _ q => XS.dup X137.here hx rfl (hb hby at_372) rfl rfl q) ?_
       refine own_tp (.int (20 : Int32)) 375 (fun _ q => XS.bipush X137.here hx rfl (hb hby at_373) q) ?_
       refine own_tp (.int (32 : Int32)) 377 (fun _ q => XS.bipush X137.here hx rfl (hb hby at_375) q) ?_
       obtain ⟨T138, h138, L138, X138, e138, V138, Wd138, N138, O138, Z138, K138, J138, st138⟩ := own_cst X137 hx hZ58 e137 V137 Wd137 N137 O137 Z137 K137 J137 ge116 sz116 (cs := (own_T96 w0 w1)) (n := 96) (i := 20) (x := (32 : Int32)) (by decide) ⟨rfl, by decide, by decide⟩ rfl (by decide) (hb hby at_377)
       refine own_cs [(.ref b116), (.ref b115), (.ref b115)] 378 st138 ?_
       refine own_tp (.ref b116) 379 (fun _ q => XS.dup X138.here hx rfl (hb hby at_378) rfl rfl q) ?_
       refine own_tp (.int (21 : Int32)) 381 (fun _ q => XS.bipush X138.here hx rfl (hb hby at_379) q) ?_
       refine own_tp (.int (116 : Int32)) 383 (fun _ q => XS.bipush X138.here hx rfl (hb hby at_381) q) ?_
       obtain ⟨T139, h139, L139, X139, e139, V139, Wd139, N139, O139, Z139, K139, J139, st139⟩ := own_cst X138 hx hZ58 e138 V138 Wd138 N138 O138 Z138 K138 J138 ge116 sz116 (cs := (own_T96 w0 w1)) (n := 96) (i := 21) (x := (116 : Int32)) (by decide) ⟨rfl, by decide, by decide⟩ rfl (by decide) (hb hby at_383)
       refine own_cs [(.ref b116), (.ref b115), (.ref b115)] 384 st139 ?_
       refine own_tp (.ref b116) 385 (fun _ q => XS.dup X139.here hx rfl (hb hby at_384) rfl rfl q) ?_
       refine own_tp (.int (22 : Int32)) 387 (fun _ q => XS.bipush X139.here hx rfl (hb hby at_385) q) ?_
       refine own_tp (.int (104 : Int32)) 389 (fun _ q => XS.bipush X139.here hx rfl (hb hby at_387) q) ?_
       obtain ⟨T140, h140, L140, X140, e140, V140, Wd140, N140, O140, Z140, K140, J140, st140⟩ := own_cst X139 hx hZ58 e139 V139 Wd139 N139 O139 Z139 K139 J139 ge116 sz116 (cs := (own_T96 w0 w1)) (n := 96) (i := 22) (x := (104 : Int32)) (by decide) ⟨rfl, by decide, by decide⟩ rfl (by decide) (hb hby at_389)
       refine own_cs [(.ref b116), (.ref b115), (.ref b115)] 390 st140 ?_
       refine own_tp (.ref b116) 391 (fun _ q => XS.dup X140.here hx rfl (hb hby at_390) rfl rfl q) ?_
       refine own_tp (.int (23 : Int32)) 393 (fun _ q => XS.bipush X140.here hx rfl (hb hby at_391) q) ?_
       refine own_tp (.int (97 : Int32)) 395 (fun _ q => XS.bipush X140.here hx rfl (hb hby at_393) q) ?_
       obtain ⟨T141, h141, L141, X141, e141, V141, Wd141, N141, O141, Z141, K141, J141, st141⟩ := own_cst X140 hx hZ58 e140 V140 Wd140 N140 O140 Z140 K140 J140 ge116 sz116 (cs := (own_T96 w0 w1)) (n := 96) (i := 23) (x := (97 : Int32)) (by decide) ⟨rfl, by decide, by decide⟩ rfl (by decide) (hb hby at_395)
       refine own_cs [(.ref b116), (.ref b115), (.ref b115)] 396 st141 ?_
       refine own_tp (.ref b116) 397 (fun _ q => XS.dup X141.here hx rfl (hb hby at_396) rfl rfl q) ?_
       refine own_tp (.int (24 : Int32)) 399 (fun _ q => XS.bipush X141.here hx rfl (hb hby at_397) q) ?_
       refine own_tp (.int (116 : Int32)) 401 (fun _ q => XS.bipush X141.here hx rfl (hb hby at_399) q) ?_
       obtain ⟨T142, h142, L142, X142, e142, V142, Wd142, N142, O142, Z142, K142, J142, st142⟩ := own_cst X141 hx hZ58 e141 V141 Wd141 N141 O141 Z141 K141 J141 ge116 sz116 (cs := (own_T96 w0 w1)) (n := 96) (i := 24) (x := (116 : Int32)) (by decide) ⟨rfl, by decide, by decide⟩ rfl (by decide) (hb hby at_401)
       refine own_cs [(.ref b116), (.ref b115), (.ref b115)] 402 st142 ?_
       refine own_tp (.ref b116) 403 (fun _ q => XS.dup X142.here hx rfl (hb hby at_402) rfl rfl q) ?_
       refine own_tp (.int (25 : Int32)) 405 (fun _ q => XS.bipush X142.here hx rfl (hb hby at_403) q) ?_
       refine own_tp (.int (32 : Int32)) 407 (fun _ q => XS.bipush X142.here hx rfl (hb hby at_405) q) ?_
       obtain ⟨T143, h143, L143, X143, e143, V143, Wd143, N143, O143, Z143, K143, J143, st143⟩ := own_cst X142 hx hZ58 e142 V142 Wd142 N142 O142 Z142 K142 J142 ge116 sz116 (cs := (own_T96 w0 w1)) (n := 96) (i := 25) (x := (32 : Int32)) (by decide) ⟨rfl, by decide, by decide⟩ rfl (by decide) (hb hby at_407)
       refine own_cs [(.ref b116), (.ref b115), (.ref b115)] 408 st143 ?_
       refine own_tp (.ref b116) 409 (fun _ q => XS.dup X143.here hx rfl (hb hby at_408) rfl rfl q) ?_
       refine own_tp (.int (26 : Int32)) 411 (fun _ q => XS.bipush X143.here hx rfl (hb hby at_409) q) ?_
       refine own_tp (.int (116 : Int32)) 413 (fun _ q => XS.bipush X143.here hx rfl (hb hby at_411) q) ?_
       obtain ⟨T144, h144, L144, X144, e144, V144, Wd144, N144, O144, Z144, K144, J144, st144⟩ := own_cst X143 hx hZ58 e143 V143 Wd143 N143 O143 Z143 K143 J143 ge116 sz116 (cs := (own_T96 w0 w1)) (n := 96) (i := 26) (x := (116 : Int32)) (by decide) ⟨rfl, by decide, by decide⟩ rfl (by decide) (hb hby at_413)
       refine own_cs [(.ref b116), (.ref b115), (.ref b115)] 414 st144 ?_
       refine own_tp (.ref b116) 415 (fun _ q => XS.dup X144.here hx rfl (hb hby at_414) rfl rfl q) ?_
       refine own_tp (.int (27 : Int32)) 417 (fun _ q => XS.bipush X144.here hx rfl (hb hby at_415) q) ?_
       refine own_tp (.int (104 : Int32)) 419 (fun _ q => XS.bipush X144.here hx rfl (hb hby at_417) q) ?_
       obtain ⟨T145, h145, L145, X145, e145, V145, Wd145, N145, O145, Z145, K145, J145, st145⟩ := own_cst X144 hx hZ58 e144 V144 Wd144 N144 O144 Z144 K144 J144 ge116 sz116 (cs := (own_T96 w0 w1)) (n := 96) (i := 27) (x := (104 : Int32)) (by decide) ⟨rfl, by decide, by decide⟩ rfl (by decide) (hb hby at_419)
       refine own_cs [(.ref b116), (.ref b115), (.ref b115)] 420 st145 ?_
       refine own_tp (.ref b116) 421 (fun _ q => XS.dup X145.here hx rfl (hb hby at_420) rfl rfl q) ?_
       refine own_tp (.int (28 : Int32)) 423 (fun _ q => XS.bipush X145.here hx rfl (hb hby at_421) q) ?_
       refine own_tp (.int (101 : Int32)) 425 (fun _ q => XS.bipush X145.here hx rfl (hb hby at_423) q) ?_
       obtain ⟨T146, h146, L146, X146, e146, V146, Wd146, N146, O146, Z146, K146, J146, st146⟩ := own_cst X145 hx hZ58 e145 V145 Wd145 N145 O145 Z145 K145 J145 ge116 sz116 (cs := (own_T96 w0 w1)) (n := 96) (i := 28) (x := (101 : Int32)) (by decide) ⟨rfl, by decide, by decide⟩ rfl (by decide) (hb hby at_425)
       refine own_cs [(.ref b116), (.ref b115), (.ref b115)] 426 st146 ?_
       refine own_tp (.ref b116) 427 (fun _ q => XS.dup X146.here hx rfl (hb hby at_426) rfl rfl q) ?_
       refine own_tp (.int (29 : Int32)) 429 (fun _ q => XS.bipush X146.here hx rfl (hb hby at_427) q) ?_
       refine own_tp (.int (32 : Int32)) 431 (fun _ q => XS.bipush X146.here hx rfl (hb hby at_429) q) ?_
       obtain ⟨T147, h147, L147, X147, e147, V147, Wd147, N147, O147, Z147, K147, J147, st147⟩ := own_cst X146 hx hZ58 e146 V146 Wd146 N146 O146 Z146 K146 J146 ge116 sz116 (cs := (own_T96 w0 w1)) (n := 96) (i := 29) (x := (32 : Int32)) (by decide) ⟨rfl, by decide, by decide⟩ rfl (by decide) (hb hby at_431)
       refine own_cs [(.ref b116), (.ref b115), (.ref b115)] 432 st147 ?_
       refine own_tp (.ref b116) 433 (fun _ q => XS.dup X147.here hx rfl (hb hby at_432) rfl rfl q) ?_
       refine own_tp (.int (30 : Int32)) 435 (fun _ q => XS.bipush X147.here hx rfl (hb hby at_433) q) ?_
       refine own_tp (.int (108 : Int32)) 437 (fun _ q => XS.bipush X147.here hx rfl (hb hby at_435) q) ?_
       obtain ⟨T148, h148, L148, X148, e148, V148, Wd148, N148, O148, Z148, K148, J148, st148⟩ := own_cst X147 hx hZ58 e147 V147 Wd147 N147 O147 Z147 K147 J147 ge116 sz116 (cs := (own_T96 w0 w1)) (n := 96) (i := 30) (x := (108 : Int32)) (by decide) ⟨rfl, by decide, by decide⟩ rfl (by decide) (hb hby at_437)
       refine own_cs [(.ref b116), (.ref b115), (.ref b115)] 438 st148 ?_
       refine own_tp (.ref b116) 439 (fun _ q => XS.dup X148.here hx rfl (hb hby at_438) rfl rfl q) ?_
       refine own_tp (.int (31 : Int32)) 441 (fun _ q => XS.bipush X148.here hx rfl (hb hby at_439) q) ?_
       refine own_tp (.int (111 : Int32)) 443 (fun _ q => XS.bipush X148.here hx rfl (hb hby at_441) q) ?_
       obtain ⟨T149, h149, L149, X149, e149, V149, Wd149, N149, O149, Z149, K149, J149, st149⟩ := own_cst X148 hx hZ58 e148 V148 Wd148 N148 O148 Z148 K148 J148 ge116 sz116 (cs := (own_T96 w0 w1)) (n := 96) (i := 31) (x := (111 : Int32)) (by decide) ⟨rfl, by decide, by decide⟩ rfl (by decide) (hb hby at_443)
       refine own_cs [(.ref b116), (.ref b115), (.ref b115)] 444 st149 ?_
       refine own_tp (.ref b116) 445 (fun _ q => XS.dup X149.here hx rfl (hb hby at_444) rfl rfl q) ?_
       refine own_tp (.int (32 : Int32)) 447 (fun _ q => XS.bipush X149.here hx rfl (hb hby at_445) q) ?_
       refine own_tp (.int (99 : Int32)) 449 (fun _ q => XS.bipush X149.here hx rfl (hb hby at_447) q) ?_
       obtain ⟨T150, h150, L150, X150, e150, V150, Wd150, N150, O150, Z150, K150, J150, st150⟩ := own_cst X149 hx hZ58 e149 V149 Wd149 N149 O149 Z149 K149 J149 ge116 sz116 (cs := (own_T96 w0 w1)) (n := 96) (i := 32) (x := (99 : Int32)) (by decide) ⟨rfl, by decide, by decide⟩ rfl (by decide) (hb hby at_449)
       refine own_cs [(.ref b116), (.ref b115), (.ref b115)] 450 st150 ?_
       refine own_tp (.ref b116) 451 (fun _ q => XS.dup X150.here hx rfl (hb hby at_450) rfl rfl q) ?_
       refine own_tp (.int (33 : Int32)) 453 (fun _ q => XS.bipush X150.here hx rfl (hb hby at_451) q) ?_
       refine own_tp (.int (97 : Int32)) 455 (fun _ q => XS.bipush X150.here hx rfl (hb hby at_453) q) ?_
       obtain ⟨T151, h151, L151, X151, e151, V151, Wd151, N151, O151, Z151, K151, J151, st151⟩ := own_cst X150 hx hZ58 e150 V150 Wd150 N150 O150 Z150 K150 J150 ge116 sz116 (cs := (own_T96 w0 w1)) (n := 96) (i := 33) (x := (97 : Int32)) (by decide) ⟨rfl, by decide, by decide⟩ rfl (by decide) (hb hby at_455)
       refine own_cs [(.ref b116), (.ref b115), (.ref b115)] 456 st151 ?_
       refine own_tp (.ref b116) 457 (fun _ q => XS.dup X151.here hx rfl (hb hby at_456) rfl rfl q) ?_
       refine own_tp (.int (34 : Int32)) 459 (fun _ q => XS.bipush X151.here hx rfl (hb hby at_457) q) ?_
       refine own_tp (.int (108 : Int32)) 461 (fun _ q => XS.bipush X151.here hx rfl (hb hby at_459) q) ?_
       obtain ⟨T152, h152, L152, X152, e152, V152, Wd152, N152, O152, Z152, K152, J152, st152⟩ := own_cst X151 hx hZ58 e151 V151 Wd151 N151 O151 Z151 K151 J151 ge116 sz116 (cs := (own_T96 w0 w1)) (n := 96) (i := 34) (x := (108 : Int32)) (by decide) ⟨rfl, by decide, by decide⟩ rfl (by decide) (hb hby at_461)
       refine own_cs [(.ref b116), (.ref b115), (.ref b115)] 462 st152 ?_
       refine own_tp (.ref b116) 463 (fun _ q => XS.dup X152.here hx rfl (hb hby at_462) rfl rfl q) ?_
       refine own_tp (.int (35 : Int32)) 465 (fun _ q => XS.bipush X152.here hx rfl (hb hby at_463) q) ?_
       refine own_tp (.int (101 : Int32)) 467 (fun _ q => XS.bipush X152.here hx rfl (hb hby at_465) q) ?_
       obtain ⟨T153, h153, L153, X153, e153, V153, Wd153, N153, O153, Z153, K153, J153, st153⟩ := own_cst X152 hx hZ58 e152 V152 Wd152 N152 O152 Z152 K152 J152 ge116 sz116 (cs := (own_T96 w0 w1)) (n := 96) (i := 35) (x := (101 : Int32)) (by decide) ⟨rfl, by decide, by decide⟩ rfl (by decide) (hb hby at_467)
       refine own_cs [(.ref b116), (.ref b115), (.ref b115)] 468 st153 ?_
       refine own_tp (.ref b116) 469 (fun _ q => XS.dup X153.here hx rfl (hb hby at_468) rfl rfl q) ?_
       refine own_tp (.int (36 : Int32)) 471 (fun _ q => XS.bipush X153.here hx rfl (hb hby at_469) q) ?_
       refine own_tp (.int (39 : Int32)) 473 (fun _ q => XS.bipush X153.here hx rfl (hb hby at_471) q) ?_
       obtain ⟨T154, h154, L154, X154, e154, V154, Wd154, N154, O154, Z154, K154, J154, st154⟩ := own_cst X153 hx hZ58 e153 V153 Wd153 N153 O153 Z153 K153 J153 ge116 sz116 (cs := (own_T96 w0 w1)) (n := 96) (i := 36) (x := (39 : Int32)) (by decide) ⟨rfl, by decide, by decide⟩ rfl (by decide) (hb hby at_473)
       refine own_cs [(.ref b116), (.ref b115), (.ref b115)] 474 st154 ?_
       refine own_tp (.ref b116) 475 (fun _ q => XS.dup X154.here hx rfl (hb hby at_474) rfl rfl q) ?_
       refine own_tp (.int (37 : Int32)) 477 (fun _ q => XS.bipush X154.here hx rfl (hb hby at_475) q) ?_
       refine own_tp (.int (115 : Int32)) 479 (fun _ q => XS.bipush X154.here hx rfl (hb hby at_477) q) ?_
       obtain ⟨T155, h155, L155, X155, e155, V155, Wd155, N155, O155, Z155, K155, J155, st155⟩ := own_cst X154 hx hZ58 e154 V154 Wd154 N154 O154 Z154 K154 J154 ge116 sz116 (cs := (own_T96 w0 w1)) (n := 96) (i := 37) (x := (115 : Int32)) (by decide) ⟨rfl, by decide, by decide⟩ rfl (by decide) (hb hby at_479)
       refine own_cs [(.ref b116), (.ref b115), (.ref b115)] 480 st155 ?_
       refine own_tp (.ref b116) 481 (fun _ q => XS.dup X155.here hx rfl (hb hby at_480) rfl rfl q) ?_
       refine own_tp (.int (38 : Int32)) 483 (fun _ q => XS.bipush X155.here hx rfl (hb hby at_481) q) ?_
       refine own_tp (.int (32 : Int32)) 485 (fun _ q => XS.bipush X155.here hx rfl (hb hby at_483) q) ?_
       obtain ⟨T156, h156, L156, X156, e156, V156, Wd156, N156, O156, Z156, K156, J156, st156⟩ := own_cst X155 hx hZ58 e155 V155 Wd155 N155 O155 Z155 K155 J155 ge116 sz116 (cs := (own_T96 w0 w1)) (n := 96) (i := 38) (x := (32 : Int32)) (by decide) ⟨rfl, by decide, by decide⟩ rfl (by decide) (hb hby at_485)
       refine own_cs [(.ref b116), (.ref b115), (.ref b115)] 486 st156 ?_
       refine own_tp (.ref b116) 487 (fun _ q => XS.dup X156.here hx rfl (hb hby at_486) rfl rfl q) ?_
       refine own_tp (.int (39 : Int32)) 489 (fun _ q => XS.bipush X156.here hx rfl (hb hby at_487) q) ?_
       refine own_tp (.int (99 : Int32)) 491 (fun _ q => XS.bipush X156.here hx rfl (hb hby at_489) q) ?_
       obtain ⟨T157, h157, L157, X157, e157, V157, Wd157, N157, O157, Z157, K157, J157, st157⟩ := own_cst X156 hx hZ58 e156 V156 Wd156 N156 O156 Z156 K156 J156 ge116 sz116 (cs := (own_T96 w0 w1)) (n := 96) (i := 39) (x := (99 : Int32)) (by decide) ⟨rfl, by decide, by decide⟩ rfl (by decide) (hb hby at_491)
       refine own_cs [(.ref b116), (.ref b115), (.ref b115)] 492 st157 ?_
       refine own_tp (.ref b116) 493 (fun _ q => XS.dup X157.here hx rfl (hb hby at_492) rfl rfl q) ?_
       refine own_tp (.int (40 : Int32)) 495 (fun _ q => XS.bipush X157.here hx rfl (hb hby at_493) q) ?_
       refine own_tp (.int (104 : Int32)) 497 (fun _ q => XS.bipush X157.here hx rfl (hb hby at_495) q) ?_
       obtain ⟨T158, h158, L158, X158, e158, V158, Wd158, N158, O158, Z158, K158, J158, st158⟩ := own_cst X157 hx hZ58 e157 V157 Wd157 N157 O157 Z157 K157 J157 ge116 sz116 (cs := (own_T96 w0 w1)) (n := 96) (i := 40) (x := (104 : Int32)) (by decide) ⟨rfl, by decide, by decide⟩ rfl (by decide) (hb hby at_497)
       refine own_cs [(.ref b116), (.ref b115), (.ref b115)] 498 st158 ?_
       refine own_tp (.ref b116) 499 (fun _ q => XS.dup X158.here hx rfl (hb hby at_498) rfl rfl q) ?_
       refine own_tp (.int (41 : Int32)) 501 (fun _ q => XS.bipush X158.here hx rfl (hb hby at_499) q) ?_
       refine own_tp (.int (97 : Int32)) 503 (fun _ q => XS.bipush X158.here hx rfl (hb hby at_501) q) ?_
       obtain ⟨T159, h159, L159, X159, e159, V159, Wd159, N159, O159, Z159, K159, J159, st159⟩ := own_cst X158 hx hZ58 e158 V158 Wd158 N158 O158 Z158 K158 J158 ge116 sz116 (cs := (own_T96 w0 w1)) (n := 96) (i := 41) (x := (97 : Int32)) (by decide) ⟨rfl, by decide, by decide⟩ rfl (by decide) (hb hby at_503)
       refine own_cs [(.ref b116), (.ref b115), (.ref b115)] 504 st159 ?_
       refine own_tp (.ref b116) 505 (fun _ q => XS.dup X159.here hx rfl (hb hby at_504) rfl rfl q) ?_
       refine own_tp (.int (42 : Int32)) 507 (fun _ q => XS.bipush X159.here hx rfl (hb hby at_505) q) ?_
       refine own_tp (.int (114 : Int32)) 509 (fun _ q => XS.bipush X159.here hx rfl (hb hby at_507) q) ?_
       obtain ⟨T160, h160, L160, X160, e160, V160, Wd160, N160, O160, Z160, K160, J160, st160⟩ := own_cst X159 hx hZ58 e159 V159 Wd159 N159 O159 Z159 K159 J159 ge116 sz116 (cs := (own_T96 w0 w1)) (n := 96) (i := 42) (x := (114 : Int32)) (by decide) ⟨rfl, by decide, by decide⟩ rfl (by decide) (hb hby at_509)
       refine own_cs [(.ref b116), (.ref b115), (.ref b115)] 510 st160 ?_
       refine own_tp (.ref b116) 511 (fun _ q => XS.dup X160.here hx rfl (hb hby at_510) rfl rfl q) ?_
       refine own_tp (.int (43 : Int32)) 513 (fun _ q => XS.bipush X160.here hx rfl (hb hby at_511) q) ?_
       refine own_tp (.int (97 : Int32)) 515 (fun _ q => XS.bipush X160.here hx rfl (hb hby at_513) q) ?_
       obtain ⟨T161, h161, L161, X161, e161, V161, Wd161, N161, O161, Z161, K161, J161, st161⟩ := own_cst X160 hx hZ58 e160 V160 Wd160 N160 O160 Z160 K160 J160 ge116 sz116 (cs := (own_T96 w0 w1)) (n := 96) (i := 43) (x := (97 : Int32)) (by decide) ⟨rfl, by decide, by decide⟩ rfl (by decide) (hb hby at_515)
       refine own_cs [(.ref b116), (.ref b115), (.ref b115)] 516 st161 ?_
       refine own_tp (.ref b116) 517 (fun _ q => XS.dup X161.here hx rfl (hb hby at_516) rfl rfl q) ?_
       refine own_tp (.int (44 : Int32)) 519 (fun _ q => XS.bipush X161.here hx rfl (hb hby at_517) q) ?_
       refine own_tp (.int (99 : Int32)) 521 (fun _ q => XS.bipush X161.here hx rfl (hb hby at_519) q) ?_
       obtain ⟨T162, h162, L162, X162, e162, V162, Wd162, N162, O162, Z162, K162, J162, st162⟩ := own_cst X161 hx hZ58 e161 V161 Wd161 N161 O161 Z161 K161 J161 ge116 sz116 (cs := (own_T96 w0 w1)) (n := 96) (i := 44) (x := (99 : Int32)) (by decide) ⟨rfl, by decide, by decide⟩ rfl (by decide) (hb hby at_521)
       refine own_cs [(.ref b116), (.ref b115), (.ref b115)] 522 st162 ?_
       refine own_tp (.ref b116) 523 (fun _ q => XS.dup X162.here hx rfl (hb hby at_522) rfl rfl q) ?_
       refine own_tp (.int (45 : Int32)) 525 (fun _ q => XS.bipush X162.here hx rfl (hb hby at_523) q) ?_
       refine own_tp (.int (116 : Int32)) 527 (fun _ q => XS.bipush X162.here hx rfl (hb hby at_525) q) ?_
       obtain ⟨T163, h163, L163, X163, e163, V163, Wd163, N163, O163, Z163, K163, J163, st163⟩ := own_cst X162 hx hZ58 e162 V162 Wd162 N162 O162 Z162 K162 J162 ge116 sz116 (cs := (own_T96 w0 w1)) (n := 96) (i := 45) (x := (116 : Int32)) (by decide) ⟨rfl, by decide, by decide⟩ rfl (by decide) (hb hby at_527)
       refine own_cs [(.ref b116), (.ref b115), (.ref b115)] 528 st163 ?_
       refine own_tp (.ref b116) 529 (fun _ q => XS.dup X163.here hx rfl (hb hby at_528) rfl rfl q) ?_
       refine own_tp (.int (46 : Int32)) 531 (fun _ q => XS.bipush X163.here hx rfl (hb hby at_529) q) ?_
       refine own_tp (.int (101 : Int32)) 533 (fun _ q => XS.bipush X163.here hx rfl (hb hby at_531) q) ?_
       obtain ⟨T164, h164, L164, X164, e164, V164, Wd164, N164, O164, Z164, K164, J164, st164⟩ := own_cst X163 hx hZ58 e163 V163 Wd163 N163 O163 Z163 K163 J163 ge116 sz116 (cs := (own_T96 w0 w1)) (n := 96) (i := 46) (x := (101 : Int32)) (by decide) ⟨rfl, by decide, by decide⟩ rfl (by decide) (hb hby at_533)
       refine own_cs [(.ref b116), (.ref b115), (.ref b115)] 534 st164 ?_
       refine own_tp (.ref b116) 535 (fun _ q => XS.dup X164.here hx rfl (hb hby at_534) rfl rfl q) ?_
       refine own_tp (.int (47 : Int32)) 537 (fun _ q => XS.bipush X164.here hx rfl (hb hby at_535) q) ?_
       refine own_tp (.int (114 : Int32)) 539 (fun _ q => XS.bipush X164.here hx rfl (hb hby at_537) q) ?_
       obtain ⟨T165, h165, L165, X165, e165, V165, Wd165, N165, O165, Z165, K165, J165, st165⟩ := own_cst X164 hx hZ58 e164 V164 Wd164 N164 O164 Z164 K164 J164 ge116 sz116 (cs := (own_T96 w0 w1)) (n := 96) (i := 47) (x := (114 : Int32)) (by decide) ⟨rfl, by decide, by decide⟩ rfl (by decide) (hb hby at_539)
       refine own_cs [(.ref b116), (.ref b115), (.ref b115)] 540 st165 ?_
       refine own_tp (.ref b116) 541 (fun _ q => XS.dup X165.here hx rfl (hb hby at_540) rfl rfl q) ?_
       refine own_tp (.int (48 : Int32)) 543 (fun _ q => XS.bipush X165.here hx rfl (hb hby at_541) q) ?_
       refine own_tp (.int (32 : Int32)) 545 (fun _ q => XS.bipush X165.here hx rfl (hb hby at_543) q) ?_
       obtain ⟨T166, h166, L166, X166, e166, V166, Wd166, N166, O166, Z166, K166, J166, st166⟩ := own_cst X165 hx hZ58 e165 V165 Wd165 N165 O165 Z165 K165 J165 ge116 sz116 (cs := (own_T96 w0 w1)) (n := 96) (i := 48) (x := (32 : Int32)) (by decide) ⟨rfl, by decide, by decide⟩ rfl (by decide) (hb hby at_545)
       refine own_cs [(.ref b116), (.ref b115), (.ref b115)] 546 st166 ?_
       refine own_tp (.ref b116) 547 (fun _ q => XS.dup X166.here hx rfl (hb hby at_546) rfl rfl q) ?_
       refine own_tp (.int (49 : Int32)) 549 (fun _ q => XS.bipush X166.here hx rfl (hb hby at_547) q) ?_
       refine own_tp (.int (115 : Int32)) 551 (fun _ q => XS.bipush X166.here hx rfl (hb hby at_549) q) ?_
       obtain ⟨T167, h167, L167, X167, e167, V167, Wd167, N167, O167, Z167, K167, J167, st167⟩ := own_cst X166 hx hZ58 e166 V166 Wd166 N166 O166 Z166 K166 J166 ge116 sz116 (cs := (own_T96 w0 w1)) (n := 96) (i := 49) (x := (115 : Int32)) (by decide) ⟨rfl, by decide, by decide⟩ rfl (by decide) (hb hby at_551)
       refine own_cs [(.ref b116), (.ref b115), (.ref b115)] 552 st167 ?_
       refine own_tp (.ref b116) 553 (fun _ q => XS.dup X167.here hx rfl (hb hby at_552) rfl rfl q) ?_
       refine own_tp (.int (50 : Int32)) 555 (fun _ q => XS.bipush X167.here hx rfl (hb hby at_553) q) ?_
       refine own_tp (.int (101 : Int32)) 557 (fun _ q => XS.bipush X167.here hx rfl (hb hby at_555) q) ?_
       obtain ⟨T168, h168, L168, X168, e168, V168, Wd168, N168, O168, Z168, K168, J168, st168⟩ := own_cst X167 hx hZ58 e167 V167 Wd167 N167 O167 Z167 K167 J167 ge116 sz116 (cs := (own_T96 w0 w1)) (n := 96) (i := 50) (x := (101 : Int32)) (by decide) ⟨rfl, by decide, by decide⟩ rfl (by decide) (hb hby at_557)
       refine own_cs [(.ref b116), (.ref b115), (.ref b115)] 558 st168 ?_
       refine own_tp (.ref b116) 559 (fun _ q => XS.dup X168.here hx rfl (hb hby at_558) rfl rfl q) ?_
       refine own_tp (.int (51 : Int32)) 561 (fun _ q => XS.bipush X168.here hx rfl (hb hby at_559) q) ?_
       refine own_tp (.int (116 : Int32)) 563 (fun _ q => XS.bipush X168.here hx rfl (hb hby at_561) q) ?_
       obtain ⟨T169, h169, L169, X169, e169, V169, Wd169, N169, O169, Z169, K169, J169, st169⟩ := own_cst X168 hx hZ58 e168 V168 Wd168 N168 O168 Z168 K168 J168 ge116 sz116 (cs := (own_T96 w0 w1)) (n := 96) (i := 51) (x := (116 : Int32)) (by decide) ⟨rfl, by decide, by decide⟩ rfl (by decide) (hb hby at_563)
       refine own_cs [(.ref b116), (.ref b115), (.ref b115)] 564 st169 ?_
       refine own_tp (.ref b116) 565 (fun _ q => XS.dup X169.here hx rfl (hb hby at_564) rfl rfl q) ?_
       refine own_tp (.int (52 : Int32)) 567 (fun _ q => XS.bipush X169.here hx rfl (hb hby at_565) q) ?_
       refine own_tp (.int (32 : Int32)) 569 (fun _ q => XS.bipush X169.here hx rfl (hb hby at_567) q) ?_
       obtain ⟨T170, h170, L170, X170, e170, V170, Wd170, N170, O170, Z170, K170, J170, st170⟩ := own_cst X169 hx hZ58 e169 V169 Wd169 N169 O169 Z169 K169 J169 ge116 sz116 (cs := (own_T96 w0 w1)) (n := 96) (i := 52) (x := (32 : Int32)) (by decide) ⟨rfl, by decide, by decide⟩ rfl (by decide) (hb hby at_569)
       refine own_cs [(.ref b116), (.ref b115), (.ref b115)] 570 st170 ?_
       refine own_tp (.ref b116) 571 (fun _ q => XS.dup X170.here hx rfl (hb hby at_570) rfl rfl q) ?_
       refine own_tp (.int (53 : Int32)) 573 (fun _ q => XS.bipush X170.here hx rfl (hb hby at_571) q) ?_
       refine own_tp (.int (99 : Int32)) 575 (fun _ q => XS.bipush X170.here hx rfl (hb hby at_573) q) ?_
       obtain ⟨T171, h171, L171, X171, e171, V171, Wd171, N171, O171, Z171, K171, J171, st171⟩ := own_cst X170 hx hZ58 e170 V170 Wd170 N170 O170 Z170 K170 J170 ge116 sz116 (cs := (own_T96 w0 w1)) (n := 96) (i := 53) (x := (99 : Int32)) (by decide) ⟨rfl, by decide, by decide⟩ rfl (by decide) (hb hby at_575)
       refine own_cs [(.ref b116), (.ref b115), (.ref b115)] 576 st171 ?_
       refine own_tp (.ref b116) 577 (fun _ q => XS.dup X171.here hx rfl (hb hby at_576) rfl rfl q) ?_
       refine own_tp (.int (54 : Int32)) 579 (fun _ q => XS.bipush X171.here hx rfl (hb hby at_577) q) ?_
       refine own_tp (.int (97 : Int32)) 581 (fun _ q => XS.bipush X171.here hx rfl (hb hby at_579) q) ?_
       obtain ⟨T172, h172, L172, X172, e172, V172, Wd172, N172, O172, Z172, K172, J172, st172⟩ := own_cst X171 hx hZ58 e171 V171 Wd171 N171 O171 Z171 K171 J171 ge116 sz116 (cs := (own_T96 w0 w1)) (n := 96) (i := 54) (x := (97 : Int32)) (by decide) ⟨rfl, by decide, by decide⟩ rfl (by decide) (hb hby at_581)
       refine own_cs [(.ref b116), (.ref b115), (.ref b115)] 582 st172 ?_
       refine own_tp (.ref b116) 583 (fun _ q => XS.dup X172.here hx rfl (hb hby at_582) rfl rfl q) ?_
       refine own_tp (.int (55 : Int32)) 585 (fun _ q => XS.bipush X172.here hx rfl (hb hby at_583) q) ?_
       refine own_tp (.int (110 : Int32)) 587 (fun _ q => XS.bipush X172.here hx rfl (hb hby at_585) q) ?_
       obtain ⟨T173, h173, L173, X173, e173, V173, Wd173, N173, O173, Z173, K173, J173, st173⟩ := own_cst X172 hx hZ58 e172 V172 Wd172 N172 O172 Z172 K172 J172 ge116 sz116 (cs := (own_T96 w0 w1)) (n := 96) (i := 55) (x := (110 : Int32)) (by decide) ⟨rfl, by decide, by decide⟩ rfl (by decide) (hb hby at_587)
       refine own_cs [(.ref b116), (.ref b115), (.ref b115)] 588 st173 ?_
       refine own_tp (.ref b116) 589 (fun _ q => XS.dup X173.here hx rfl (hb hby at_588) rfl rfl q) ?_
       refine own_tp (.int (56 : Int32)) 591 (fun _ q => XS.bipush X173.here hx rfl (hb hby at_589) q) ?_
       refine own_tp (.int (110 : Int32)) 593 (fun _ q => XS.bipush X173.here hx rfl (hb hby at_591) q) ?_
       obtain ⟨T174, h174, L174, X174, e174, V174, Wd174, N174, O174, Z174, K174, J174, st174⟩ := own_cst X173 hx hZ58 e173 V173 Wd173 N173 O173 Z173 K173 J173 ge116 sz116 (cs := (own_T96 w0 w1)) (n := 96) (i := 56) (x := (110 : Int32)) (by decide) ⟨rfl, by decide, by decide⟩ rfl (by decide) (hb hby at_593)
       refine own_cs [(.ref b116), (.ref b115), (.ref b115)] 594 st174 ?_
       refine own_tp (.ref b116) 595 (fun _ q => XS.dup X174.here hx rfl (hb hby at_594) rfl rfl q) ?_
       refine own_tp (.int (57 : Int32)) 597 (fun _ q => XS.bipush X174.here hx rfl (hb hby at_595) q) ?_
       refine own_tp (.int (111 : Int32)) 599 (fun _ q => XS.bipush X174.here hx rfl (hb hby at_597) q) ?_
       obtain ⟨T175, h175, L175, X175, e175, V175, Wd175, N175, O175, Z175, K175, J175, st175⟩ := own_cst X174 hx hZ58 e174 V174 Wd174 N174 O174 Z174 K174 J174 ge116 sz116 (cs := (own_T96 w0 w1)) (n := 96) (i := 57) (x := (111 : Int32)) (by decide) ⟨rfl, by decide, by decide⟩ rfl (by decide) (hb hby at_599)
       refine own_cs [(.ref b116), (.ref b115), (.ref b115)] 600 st175 ?_
       refine own_tp (.ref b116) 601 (fun _ q => XS.dup X175.here hx rfl (hb hby at_600) rfl rfl q) ?_
       refine own_tp (.int (58 : Int32)) 603 (fun _ q => XS.bipush X175.here hx rfl (hb hby at_601) q) ?_
       refine own_tp (.int (116 : Int32)) 605 (fun _ q => XS.bipush X175.here hx rfl (hb hby at_603) q) ?_
       obtain ⟨T176, h176, L176, X176, e176, V176, Wd176, N176, O176, Z176, K176, J176, st176⟩ := own_cst X175 hx hZ58 e175 V175 Wd175 N175 O175 Z175 K175 J175 ge116 sz116 (cs := (own_T96 w0 w1)) (n := 96) (i := 58) (x := (116 : Int32)) (by decide) ⟨rfl, by decide, by decide⟩ rfl (by decide) (hb hby at_605)
       refine own_cs [(.ref b116), (.ref b115), (.ref b115)] 606 st176 ?_
       refine own_tp (.ref b116) 607 (fun _ q => XS.dup X176.here hx rfl (hb hby at_606) rfl rfl q) ?_
       refine own_tp (.int (59 : Int32)) 609 (fun _ q => XS.bipush X176.here hx rfl (hb hby at_607) q) ?_
       refine own_tp (.int (32 : Int32)) 611 (fun _ q => XS.bipush X176.here hx rfl (hb hby at_609) q) ?_
       obtain ⟨T177, h177, L177, X177, e177, V177, Wd177, N177, O177, Z177, K177, J177, st177⟩ := own_cst X176 hx hZ58 e176 V176 Wd176 N176 O176 Z176 K176 J176 ge116 sz116 (cs := (own_T96 w0 w1)) (n := 96) (i := 59) (x := (32 : Int32)) (by decide) ⟨rfl, by decide, by decide⟩ rfl (by decide) (hb hby at_611)
       refine own_cs [(.ref b116), (.ref b115), (.ref b115)] 612 st177 ?_
       refine own_tp (.ref b116) 613 (fun _ q => XS.dup X177.here hx rfl (hb hby at_612) rfl rfl q) ?_
       refine own_tp (.int (60 : Int32)) 615 (fun _ q => XS.bipush X177.here hx rfl (hb hby at_613) q) ?_
       refine own_tp (.int (100 : Int32)) 617 (fun _ q => XS.bipush X177.here hx rfl (hb hby at_615) q) ?_
       obtain ⟨T178, h178, L178, X178, e178, V178, Wd178, N178, O178, Z178, K178, J178, st178⟩ := own_cst X177 hx hZ58 e177 V177 Wd177 N177 O177 Z177 K177 J177 ge116 sz116 (cs := (own_T96 w0 w1)) (n := 96) (i := 60) (x := (100 : Int32)) (by decide) ⟨rfl, by decide, by decide⟩ rfl (by decide) (hb hby at_617)
       refine own_cs [(.ref b116), (.ref b115), (.ref b115)] 618 st178 ?_
       refine own_tp (.ref b116) 619 (fun _ q => XS.dup X178.here hx rfl (hb hby at_618) rfl rfl q) ?_
       refine own_tp (.int (61 : Int32)) 621 (fun _ q => XS.bipush X178.here hx rfl (hb hby at_619) q) ?_
       refine own_tp (.int (101 : Int32)) 623 (fun _ q => XS.bipush X178.here hx rfl (hb hby at_621) q) ?_
       obtain ⟨T179, h179, L179, X179, e179, V179, Wd179, N179, O179, Z179, K179, J179, st179⟩ := own_cst X178 hx hZ58 e178 V178 Wd178 N178 O178 Z178 K178 J178 ge116 sz116 (cs := (own_T96 w0 w1)) (n := 96) (i := 61) (x := (101 : Int32)) (by decide) ⟨rfl, by decide, by decide⟩ rfl (by decide) (hb hby at_623)
       refine own_cs [(.ref b116), (.ref b115), (.ref b115)] 624 st179 ?_
       refine own_tp (.ref b116) 625 (fun _ q => XS.dup X179.here hx rfl (hb hby at_624) rfl rfl q) ?_
       refine own_tp (.int (62 : Int32)) 627 (fun _ q => XS.bipush X179.here hx rfl (hb hby at_625) q) ?_
       refine own_tp (.int (99 : Int32)) 629 (fun _ q => XS.bipush X179.here hx rfl (hb hby at_627) q) ?_
       obtain ⟨T180, h180, L180, X180, e180, V180, Wd180, N180, O180, Z180, K180, J180, st180⟩ := own_cst X179 hx hZ58 e179 V179 Wd179 N179 O179 Z179 K179 J179 ge116 sz116 (cs := (own_T96 w0 w1)) (n := 96) (i := 62) (x := (99 : Int32)) (by decide) ⟨rfl, by decide, by decide⟩ rfl (by decide) (hb hby at_629)
       refine own_cs [(.ref b116), (.ref b115), (.ref b115)] 630 st180 ?_
       refine own_tp (.ref b116) 631 (fun _ q => XS.dup X180.here hx rfl (hb hby at_630) rfl rfl q) ?_
       refine own_tp (.int (63 : Int32)) 633 (fun _ q => XS.bipush X180.here hx rfl (hb hby at_631) q) ?_
       refine own_tp (.int (111 : Int32)) 635 (fun _ q => XS.bipush X180.here hx rfl (hb hby at_633) q) ?_
       obtain ⟨T181, h181, L181, X181, e181, V181, Wd181, N181, O181, Z181, K181, J181, st181⟩ := own_cst X180 hx hZ58 e180 V180 Wd180 N180 O180 Z180 K180 J180 ge116 sz116 (cs := (own_T96 w0 w1)) (n := 96) (i := 63) (x := (111 : Int32)) (by decide) ⟨rfl, by decide, by decide⟩ rfl (by decide) (hb hby at_635)
       refine own_cs [(.ref b116), (.ref b115), (.ref b115)] 636 st181 ?_
       refine own_tp (.ref b116) 637 (fun _ q => XS.dup X181.here hx rfl (hb hby at_636) rfl rfl q) ?_
       refine own_tp (.int (64 : Int32)) 639 (fun _ q => XS.bipush X181.here hx rfl (hb hby at_637) q) ?_
       refine own_tp (.int (100 : Int32)) 641 (fun _ q => XS.bipush X181.here hx rfl (hb hby at_639) q) ?_
       obtain ⟨T182, h182, L182, X182, e182, V182, Wd182, N182, O182, Z182, K182, J182, st182⟩ := own_cst X181 hx hZ58 e181 V181 Wd181 N181 O181 Z181 K181 J181 ge116 sz116 (cs := (own_T96 w0 w1)) (n := 96) (i := 64) (x := (100 : Int32)) (by decide) ⟨rfl, by decide, by decide⟩ rfl (by decide) (hb hby at_641)
       refine own_cs [(.ref b116), (.ref b115), (.ref b115)] 642 st182 ?_
       refine own_tp (.ref b116) 643 (fun _ q => XS.dup X182.here hx rfl (hb hby at_642) rfl rfl q) ?_
       refine own_tp (.int (65 : Int32)) 645 (fun _ q => XS.bipush X182.here hx rfl (hb hby at_643) q) ?_
       refine own_tp (.int (101 : Int32)) 647 (fun _ q => XS.bipush X182.here hx rfl (hb hby at_645) q) ?_
       obtain ⟨T183, h183, L183, X183, e183, V183, Wd183, N183, O183, Z183, K183, J183, st183⟩ := own_cst X182 hx hZ58 e182 V182 Wd182 N182 O182 Z182 K182 J182 ge116 sz116 (cs := (own_T96 w0 w1)) (n := 96) (i := 65) (x := (101 : Int32)) (by decide) ⟨rfl, by decide, by decide⟩ rfl (by decide) (hb hby at_647)
       refine own_cs [(.ref b116), (.ref b115), (.ref b115)] 648 st183 ?_
       refine own_tp (.ref b116) 649 (fun _ q => XS.dup X183.here hx rfl (hb hby at_648) rfl rfl q) ?_
       refine own_tp (.int (66 : Int32)) 651 (fun _ q => XS.bipush X183.here hx rfl (hb hby at_649) q) ?_
       refine own_tp (.int (44 : Int32)) 653 (fun _ q => XS.bipush X183.here hx rfl (hb hby at_651) q) ?_
       obtain ⟨T184, h184, L184, X184, e184, V184, Wd184, N184, O184, Z184, K184, J184, st184⟩ := own_cst X183 hx hZ58 e183 V183 Wd183 N183 O183 Z183 K183 J183 ge116 sz116 (cs := (own_T96 w0 w1)) (n := 96) (i := 66) (x := (44 : Int32)) (by decide) ⟨rfl, by decide, by decide⟩ rfl (by decide) (hb hby at_653)
       refine own_cs [(.ref b116), (.ref b115), (.ref b115)] 654 st184 ?_
       refine own_tp (.ref b116) 655 (fun _ q => XS.dup X184.here hx rfl (hb hby at_654) rfl rfl q) ?_
       refine own_tp (.int (67 : Int32)) 657 (fun _ q => XS.bipush X184.here hx rfl (hb hby at_655) q) ?_
       refine own_tp (.int (32 : Int32)) 659 (fun _ q => XS.bipush X184.here hx rfl (hb hby at_657) q) ?_
       obtain ⟨T185, h185, L185, X185, e185, V185, Wd185, N185, O185, Z185, K185, J185, st185⟩ := own_cst X184 hx hZ58 e184 V184 Wd184 N184 O184 Z184 K184 J184 ge116 sz116 (cs := (own_T96 w0 w1)) (n := 96) (i := 67) (x := (32 : Int32)) (by decide) ⟨rfl, by decide, by decide⟩ rfl (by decide) (hb hby at_659)
       refine own_cs [(.ref b116), (.ref b115), (.ref b115)] 660 st185 ?_
       refine own_tp (.ref b116) 661 (fun _ q => XS.dup X185.here hx rfl (hb hby at_660) rfl rfl q) ?_
       refine own_tp (.int (68 : Int32)) 663 (fun _ q => XS.bipush X185.here hx rfl (hb hby at_661) q) ?_
       refine own_tp (.int (115 : Int32)) 665 (fun _ q => XS.bipush X185.here hx rfl (hb hby at_663) q) ?_
       obtain ⟨T186, h186, L186, X186, e186, V186, Wd186, N186, O186, Z186, K186, J186, st186⟩ := own_cst X185 hx hZ58 e185 V185 Wd185 N185 O185 Z185 K185 J185 ge116 sz116 (cs := (own_T96 w0 w1)) (n := 96) (i := 68) (x := (115 : Int32)) (by decide) ⟨rfl, by decide, by decide⟩ rfl (by decide) (hb hby at_665)
       refine own_cs [(.ref b116), (.ref b115), (.ref b115)] 666 st186 ?_
       refine own_tp (.ref b116) 667 (fun _ q => XS.dup X186.here hx rfl (hb hby at_666) rfl rfl q) ?_
       refine own_tp (.int (69 : Int32)) 669 (fun _ q => XS.bipush X186.here hx rfl (hb hby at_667) q) ?_
       refine own_tp (.int (111 : Int32)) 671 (fun _ q => XS.bipush X186.here hx rfl (hb hby at_669) q) ?_
       obtain ⟨T187, h187, L187, X187, e187, V187, Wd187, N187, O187, Z187, K187, J187, st187⟩ := own_cst X186 hx hZ58 e186 V186 Wd186 N186 O186 Z186 K186 J186 ge116 sz116 (cs := (own_T96 w0 w1)) (n := 96) (i := 69) (x := (111 : Int32)) (by decide) ⟨rfl, by decide, by decide⟩ rfl (by decide) (hb hby at_671)
       refine own_cs [(.ref b116), (.ref b115), (.ref b115)] 672 st187 ?_
       refine own_tp (.ref b116) 673 (fun _ q => XS.dup X187.here hx rfl (hb hby at_672) rfl rfl q) ?_
       refine own_tp (.int (70 : Int32)) 675 (fun _ q => XS.bipush X187.here hx rfl (hb hby at_673) q) ?_
       refine own_tp (.int (32 : Int32)) 677 (fun _ q => XS.bipush X187.here hx rfl (hb hby at_675) q) ?_
       obtain ⟨T188, h188, L188, X188, e188, V188, Wd188, N188, O188, Z188, K188, J188, st188⟩ := own_cst X187 hx hZ58 e187 V187 Wd187 N187 O187 Z187 K187 J187 ge116 sz116 (cs := (own_T96 w0 w1)) (n := 96) (i := 70) (x := (32 : Int32)) (by decide) ⟨rfl, by decide, by decide⟩ rfl (by decide) (hb hby at_677)
       refine own_cs [(.ref b116), (.ref b115), (.ref b115)] 678 st188 ?_
       refine own_tp (.ref b116) 679 (fun _ q => XS.dup X188.here hx rfl (hb hby at_678) rfl rfl q) ?_
       refine own_tp (.int (71 : Int32)) 681 (fun _ q => XS.bipush X188.here hx rfl (hb hby at_679) q) ?_
       refine own_tp (.int (110 : Int32)) 683 (fun _ q => XS.bipush X188.here hx rfl (hb hby at_681) q) ?_
       obtain ⟨T189, h189, L189, X189, e189, V189, Wd189, N189, O189, Z189, K189, J189, st189⟩ := own_cst X188 hx hZ58 e188 V188 Wd188 N188 O188 Z188 K188 J188 ge116 sz116 (cs := (own_T96 w0 w1)) (n := 96) (i := 71) (x := (110 : Int32)) (by decide) ⟨rfl, by decide, by decide⟩ rfl (by decide) (hb hby at_683)
       refine own_cs [(.ref b116), (.ref b115), (.ref b115)] 684 st189 ?_
       refine own_tp (.ref b116) 685 (fun _ q => XS.dup X189.here hx rfl (hb hby at_684) rfl rfl q) ?_
       refine own_tp (.int (72 : Int32)) 687 (fun _ q => XS.bipush X189.here hx rfl (hb hby at_685) q) ?_
       refine own_tp (.int (111 : Int32)) 689 (fun _ q => XS.bipush X189.here hx rfl (hb hby at_687) q) ?_
       obtain ⟨T190, h190, L190, X190, e190, V190, Wd190, N190, O190, Z190, K190, J190, st190⟩ := own_cst X189 hx hZ58 e189 V189 Wd189 N189 O189 Z189 K189 J189 ge116 sz116 (cs := (own_T96 w0 w1)) (n := 96) (i := 72) (x := (111 : Int32)) (by decide) ⟨rfl, by decide, by decide⟩ rfl (by decide) (hb hby at_689)
       refine own_cs [(.ref b116), (.ref b115), (.ref b115)] 690 st190 ?_
       refine own_tp (.ref b116) 691 (fun _ q => XS.dup X190.here hx rfl (hb hby at_690) rfl rfl q) ?_
       refine own_tp (.int (73 : Int32)) 693 (fun _ q => XS.bipush X190.here hx rfl (hb hby at_691) q) ?_
       refine own_tp (.int (32 : Int32)) 695 (fun _ q => XS.bipush X190.here hx rfl (hb hby at_693) q) ?_
       obtain ⟨T191, h191, L191, X191, e191, V191, Wd191, N191, O191, Z191, K191, J191, st191⟩ := own_cst X190 hx hZ58 e190 V190 Wd190 N190 O190 Z190 K190 J190 ge116 sz116 (cs := (own_T96 w0 w1)) (n := 96) (i := 73) (x := (32 : Int32)) (by decide) ⟨rfl, by decide, by decide⟩ rfl (by decide) (hb hby at_695)
       refine own_cs [(.ref b116), (.ref b115), (.ref b115)] 696 st191 ?_
       refine own_tp (.ref b116) 697 (fun _ q => XS.dup X191.here hx rfl (hb hby at_696) rfl rfl q) ?_
       refine own_tp (.int (74 : Int32)) 699 (fun _ q => XS.bipush X191.here hx rfl (hb hby at_697) q) ?_
       refine own_tp (.int w0) 701 (fun _ q => XS.iload X191.here hx rfl (hb hby at_699) rfl q) ?_
       obtain ⟨T192, h192, L192, X192, e192, V192, Wd192, N192, O192, Z192, K192, J192, st192⟩ := own_cst X191 hx hZ58 e191 V191 Wd191 N191 O191 Z191 K191 J191 ge116 sz116 (cs := (own_T96 w0 w1)) (n := 96) (i := 74) (x := w0) (by decide) ⟨rfl, by decide, by decide⟩ rfl hw0 (hb hby at_701)
       refine own_cs [(.ref b116), (.ref b115), (.ref b115)] 702 st192 ?_
       refine own_tp (.ref b116) 703 (fun _ q => XS.dup X192.here hx rfl (hb hby at_702) rfl rfl q) ?_
       refine own_tp (.int (75 : Int32)) 705 (fun _ q => XS.bipush X192.here hx rfl (hb hby at_703) q) ?_
       refine own_tp (.int w1) 707 (fun _ q => XS.iload X192.here hx rfl (hb hby at_705) rfl q) ?_
       obtain ⟨T193, h193, L193, X193, e193, V193, Wd193, N193, O193, Z193, K193, J193, st193⟩ := own_cst X192 hx hZ58 e192 V192 Wd192 N192 O192 Z192 K192 J192 ge116 sz116 (cs := (own_T96 w0 w1)) (n := 96) (i := 75) (x := w1) (by decide) ⟨rfl, by decide, by decide⟩ rfl hw1 (hb hby at_707)
       refine own_cs [(.ref b116), (.ref b115), (.ref b115)] 708 st193 ?_
       refine own_tp (.ref b116) 709 (fun _ q => XS.dup X193.here hx rfl (hb hby at_708) rfl rfl q) ?_
       refine own_tp (.int (76 : Int32)) 711 (fun _ q => XS.bipush X193.here hx rfl (hb hby at_709) q) ?_
       refine own_tp (.int (32 : Int32)) 713 (fun _ q => XS.bipush X193.here hx rfl (hb hby at_711) q) ?_
       obtain ⟨T194, h194, L194, X194, e194, V194, Wd194, N194, O194, Z194, K194, J194, st194⟩ := own_cst X193 hx hZ58 e193 V193 Wd193 N193 O193 Z193 K193 J193 ge116 sz116 (cs := (own_T96 w0 w1)) (n := 96) (i := 76) (x := (32 : Int32)) (by decide) ⟨rfl, by decide, by decide⟩ rfl (by decide) (hb hby at_713)
       refine own_cs [(.ref b116), (.ref b115), (.ref b115)] 714 st194 ?_
       refine own_tp (.ref b116) 715 (fun _ q => XS.dup X194.here hx rfl (hb hby at_714) rfl rfl q) ?_
       refine own_tp (.int (77 : Int32)) 717 (fun _ q => XS.bipush X194.here hx rfl (hb hby at_715) q) ?_
       refine own_tp (.int (99 : Int32)) 719 (fun _ q => XS.bipush X194.here hx rfl (hb hby at_717) q) ?_
       obtain ⟨T195, h195, L195, X195, e195, V195, Wd195, N195, O195, Z195, K195, J195, st195⟩ := own_cst X194 hx hZ58 e194 V194 Wd194 N194 O194 Z194 K194 J194 ge116 sz116 (cs := (own_T96 w0 w1)) (n := 96) (i := 77) (x := (99 : Int32)) (by decide) ⟨rfl, by decide, by decide⟩ rfl (by decide) (hb hby at_719)
       refine own_cs [(.ref b116), (.ref b115), (.ref b115)] 720 st195 ?_
       refine own_tp (.ref b116) 721 (fun _ q => XS.dup X195.here hx rfl (hb hby at_720) rfl rfl q) ?_
       refine own_tp (.int (78 : Int32)) 723 (fun _ q => XS.bipush X195.here hx rfl (hb hby at_721) q) ?_
       refine own_tp (.int (97 : Int32)) 725 (fun _ q => XS.bipush X195.here hx rfl (hb hby at_723) q) ?_
       obtain ⟨T196, h196, L196, X196, e196, V196, Wd196, N196, O196, Z196, K196, J196, st196⟩ := own_cst X195 hx hZ58 e195 V195 Wd195 N195 O195 Z195 K195 J195 ge116 sz116 (cs := (own_T96 w0 w1)) (n := 96) (i := 78) (x := (97 : Int32)) (by decide) ⟨rfl, by decide, by decide⟩ rfl (by decide) (hb hby at_725)
       refine own_cs [(.ref b116), (.ref b115), (.ref b115)] 726 st196 ?_
       refine own_tp (.ref b116) 727 (fun _ q => XS.dup X196.here hx rfl (hb hby at_726) rfl rfl q) ?_
       refine own_tp (.int (79 : Int32)) 729 (fun _ q => XS.bipush X196.here hx rfl (hb hby at_727) q) ?_
       refine own_tp (.int (110 : Int32)) 731 (fun _ q => XS.bipush X196.here hx rfl (hb hby at_729) q) ?_
       obtain ⟨T197, h197, L197, X197, e197, V197, Wd197, N197, O197, Z197, K197, J197, st197⟩ := own_cst X196 hx hZ58 e196 V196 Wd196 N196 O196 Z196 K196 J196 ge116 sz116 (cs := (own_T96 w0 w1)) (n := 96) (i := 79) (x := (110 : Int32)) (by decide) ⟨rfl, by decide, by decide⟩ rfl (by decide) (hb hby at_731)
       refine own_cs [(.ref b116), (.ref b115), (.ref b115)] 732 st197 ?_
       refine own_tp (.ref b116) 733 (fun _ q => XS.dup X197.here hx rfl (hb hby at_732) rfl rfl q) ?_
       refine own_tp (.int (80 : Int32)) 735 (fun _ q => XS.bipush X197.here hx rfl (hb hby at_733) q) ?_
       refine own_tp (.int (32 : Int32)) 737 (fun _ q => XS.bipush X197.here hx rfl (hb hby at_735) q) ?_
       obtain ⟨T198, h198, L198, X198, e198, V198, Wd198, N198, O198, Z198, K198, J198, st198⟩ := own_cst X197 hx hZ58 e197 V197 Wd197 N197 O197 Z197 K197 J197 ge116 sz116 (cs := (own_T96 w0 w1)) (n := 96) (i := 80) (x := (32 : Int32)) (by decide) ⟨rfl, by decide, by decide⟩ rfl (by decide) (hb hby at_737)
       refine own_cs [(.ref b116), (.ref b115), (.ref b115)] 738 st198 ?_
       refine own_tp (.ref b116) 739 (fun _ q => XS.dup X198.here hx rfl (hb hby at_738) rfl rfl q) ?_
       refine own_tp (.int (81 : Int32)) 741 (fun _ q => XS.bipush X198.here hx rfl (hb hby at_739) q) ?_
       refine own_tp (.int (98 : Int32)) 743 (fun _ q => XS.bipush X198.here hx rfl (hb hby at_741) q) ?_
       obtain ⟨T199, h199, L199, X199, e199, V199, Wd199, N199, O199, Z199, K199, J199, st199⟩ := own_cst X198 hx hZ58 e198 V198 Wd198 N198 O198 Z198 K198 J198 ge116 sz116 (cs := (own_T96 w0 w1)) (n := 96) (i := 81) (x := (98 : Int32)) (by decide) ⟨rfl, by decide, by decide⟩ rfl (by decide) (hb hby at_743)
       refine own_cs [(.ref b116), (.ref b115), (.ref b115)] 744 st199 ?_
       refine own_tp (.ref b116) 745 (fun _ q => XS.dup X199.here hx rfl (hb hby at_744) rfl rfl q) ?_
       refine own_tp (.int (82 : Int32)) 747 (fun _ q => XS.bipush X199.here hx rfl (hb hby at_745) q) ?_
       refine own_tp (.int (101 : Int32)) 749 (fun _ q => XS.bipush X199.here hx rfl (hb hby at_747) q) ?_
       obtain ⟨T200, h200, L200, X200, e200, V200, Wd200, N200, O200, Z200, K200, J200, st200⟩ := own_cst X199 hx hZ58 e199 V199 Wd199 N199 O199 Z199 K199 J199 ge116 sz116 (cs := (own_T96 w0 w1)) (n := 96) (i := 82) (x := (101 : Int32)) (by decide) ⟨rfl, by decide, by decide⟩ rfl (by decide) (hb hby at_749)
       refine own_cs [(.ref b116), (.ref b115), (.ref b115)] 750 st200 ?_
       refine own_tp (.ref b116) 751 (fun _ q => XS.dup X200.here hx rfl (hb hby at_750) rfl rfl q) ?_
       refine own_tp (.int (83 : Int32)) 753 (fun _ q => XS.bipush X200.here hx rfl (hb hby at_751) q) ?_
       refine own_tp (.int (32 : Int32)) 755 (fun _ q => XS.bipush X200.here hx rfl (hb hby at_753) q) ?_
       obtain ⟨T201, h201, L201, X201, e201, V201, Wd201, N201, O201, Z201, K201, J201, st201⟩ := own_cst X200 hx hZ58 e200 V200 Wd200 N200 O200 Z200 K200 J200 ge116 sz116 (cs := (own_T96 w0 w1)) (n := 96) (i := 83) (x := (32 : Int32)) (by decide) ⟨rfl, by decide, by decide⟩ rfl (by decide) (hb hby at_755)
       refine own_cs [(.ref b116), (.ref b115), (.ref b115)] 756 st201 ?_
       refine own_tp (.ref b116) 757 (fun _ q => XS.dup X201.here hx rfl (hb hby at_756) rfl rfl q) ?_
       refine own_tp (.int (84 : Int32)) 759 (fun _ q => XS.bipush X201.here hx rfl (hb hby at_757) q) ?_
       refine own_tp (.int (111 : Int32)) 761 (fun _ q => XS.bipush X201.here hx rfl (hb hby at_759) q) ?_
       obtain ⟨T202, h202, L202, X202, e202, V202, Wd202, N202, O202, Z202, K202, J202, st202⟩ := own_cst X201 hx hZ58 e201 V201 Wd201 N201 O201 Z201 K201 J201 ge116 sz116 (cs := (own_T96 w0 w1)) (n := 96) (i := 84) (x := (111 : Int32)) (by decide) ⟨rfl, by decide, by decide⟩ rfl (by decide) (hb hby at_761)
       refine own_cs [(.ref b116), (.ref b115), (.ref b115)] 762 st202 ?_
       refine own_tp (.ref b116) 763 (fun _ q => XS.dup X202.here hx rfl (hb hby at_762) rfl rfl q) ?_
       refine own_tp (.int (85 : Int32)) 765 (fun _ q => XS.bipush X202.here hx rfl (hb hby at_763) q) ?_
       refine own_tp (.int (112 : Int32)) 767 (fun _ q => XS.bipush X202.here hx rfl (hb hby at_765) q) ?_
       obtain ⟨T203, h203, L203, X203, e203, V203, Wd203, N203, O203, Z203, K203, J203, st203⟩ := own_cst X202 hx hZ58 e202 V202 Wd202 N202 O202 Z202 K202 J202 ge116 sz116 (cs := (own_T96 w0 w1)) (n := 96) (i := 85) (x := (112 : Int32)) (by decide) ⟨rfl, by decide, by decide⟩ rfl (by decide) (hb hby at_767)
       refine own_cs [(.ref b116), (.ref b115), (.ref b115)] 768 st203 ?_
       refine own_tp (.ref b116) 769 (fun _ q => XS.dup X203.here hx rfl (hb hby at_768) rfl rfl q) ?_
       refine own_tp (.int (86 : Int32)) 771 (fun _ q => XS.bipush X203.here hx rfl (hb hby at_769) q) ?_
       refine own_tp (.int (101 : Int32)) 773 (fun _ q => XS.bipush X203.here hx rfl (hb hby at_771) q) ?_
       obtain ⟨T204, h204, L204, X204, e204, V204, Wd204, N204, O204, Z204, K204, J204, st204⟩ := own_cst X203 hx hZ58 e203 V203 Wd203 N203 O203 Z203 K203 J203 ge116 sz116 (cs := (own_T96 w0 w1)) (n := 96) (i := 86) (x := (101 : Int32)) (by decide) ⟨rfl, by decide, by decide⟩ rfl (by decide) (hb hby at_773)
       refine own_cs [(.ref b116), (.ref b115), (.ref b115)] 774 st204 ?_
       refine own_tp (.ref b116) 775 (fun _ q => XS.dup X204.here hx rfl (hb hby at_774) rfl rfl q) ?_
       refine own_tp (.int (87 : Int32)) 777 (fun _ q => XS.bipush X204.here hx rfl (hb hby at_775) q) ?_
       refine own_tp (.int (110 : Int32)) 779 (fun _ q => XS.bipush X204.here hx rfl (hb hby at_777) q) ?_
       obtain ⟨T205, h205, L205, X205, e205, V205, Wd205, N205, O205, Z205, K205, J205, st205⟩ := own_cst X204 hx hZ58 e204 V204 Wd204 N204 O204 Z204 K204 J204 ge116 sz116 (cs := (own_T96 w0 w1)) (n := 96) (i := 87) (x := (110 : Int32)) (by decide) ⟨rfl, by decide, by decide⟩ rfl (by decide) (hb hby at_779)
       refine own_cs [(.ref b116), (.ref b115), (.ref b115)] 780 st205 ?_
       refine own_tp (.ref b116) 781 (fun _ q => XS.dup X205.here hx rfl (hb hby at_780) rfl rfl q) ?_
       refine own_tp (.int (88 : Int32)) 783 (fun _ q => XS.bipush X205.here hx rfl (hb hby at_781) q) ?_
       refine own_tp (.int (101 : Int32)) 785 (fun _ q => XS.bipush X205.here hx rfl (hb hby at_783) q) ?_
       obtain ⟨T206, h206, L206, X206, e206, V206, Wd206, N206, O206, Z206, K206, J206, st206⟩ := own_cst X205 hx hZ58 e205 V205 Wd205 N205 O205 Z205 K205 J205 ge116 sz116 (cs := (own_T96 w0 w1)) (n := 96) (i := 88) (x := (101 : Int32)) (by decide) ⟨rfl, by decide, by decide⟩ rfl (by decide) (hb hby at_785)
       refine own_cs [(.ref b116), (.ref b115), (.ref b115)] 786 st206 ?_
       refine own_tp (.ref b116) 787 (fun _ q => XS.dup X206.here hx rfl (hb hby at_786) rfl rfl q) ?_
       refine own_tp (.int (89 : Int32)) 789 (fun _ q => XS.bipush X206.here hx rfl (hb hby at_787) q) ?_
       refine own_tp (.int (100 : Int32)) 791 (fun _ q => XS.bipush X206.here hx rfl (hb hby at_789) q) ?_
       obtain ⟨T207, h207, L207, X207, e207, V207, Wd207, N207, O207, Z207, K207, J207, st207⟩ := own_cst X206 hx hZ58 e206 V206 Wd206 N206 O206 Z206 K206 J206 ge116 sz116 (cs := (own_T96 w0 w1)) (n := 96) (i := 89) (x := (100 : Int32)) (by decide) ⟨rfl, by decide, by decide⟩ rfl (by decide) (hb hby at_791)
       refine own_cs [(.ref b116), (.ref b115), (.ref b115)] 792 st207 ?_
       refine own_tp (.ref b116) 793 (fun _ q => XS.dup X207.here hx rfl (hb hby at_792) rfl rfl q) ?_
       refine own_tp (.int (90 : Int32)) 795 (fun _ q => XS.bipush X207.here hx rfl (hb hby at_793) q) ?_
       refine own_tp (.int (32 : Int32)) 797 (fun _ q => XS.bipush X207.here hx rfl (hb hby at_795) q) ?_
       obtain ⟨T208, h208, L208, X208, e208, V208, Wd208, N208, O208, Z208, K208, J208, st208⟩ := own_cst X207 hx hZ58 e207 V207 Wd207 N207 O207 Z207 K207 J207 ge116 sz116 (cs := (own_T96 w0 w1)) (n := 96) (i := 90) (x := (32 : Int32)) (by decide) ⟨rfl, by decide, by decide⟩ rfl (by decide) (hb hby at_797)
       refine own_cs [(.ref b116), (.ref b115), (.ref b115)] 798 st208 ?_
       refine own_tp (.ref b116) 799 (fun _ q => XS.dup X208.here hx rfl (hb hby at_798) rfl rfl q) ?_
       refine own_tp (.int (91 : Int32)) 801 (fun _ q => XS.bipush X208.here hx rfl (hb hby at_799) q) ?_
       refine own_tp (.int (98 : Int32)) 803 (fun _ q => XS.bipush X208.here hx rfl (hb hby at_801) q) ?_
       obtain ⟨T209, h209, L209, X209, e209, V209, Wd209, N209, O209, Z209, K209, J209, st209⟩ := own_cst X208 hx hZ58 e208 V208 Wd208 N208 O208 Z208 K208 J208 ge116 sz116 (cs := (own_T96 w0 w1)) (n := 96) (i := 91) (x := (98 : Int32)) (by decide) ⟨rfl, by decide, by decide⟩ rfl (by decide) (hb hby at_803)
       refine own_cs [(.ref b116), (.ref b115), (.ref b115)] 804 st209 ?_
       refine own_tp (.ref b116) 805 (fun _ q => XS.dup X209.here hx rfl (hb hby at_804) rfl rfl q) ?_
       refine own_tp (.int (92 : Int32)) 807 (fun _ q => XS.bipush X209.here hx rfl (hb hby at_805) q) ?_
       refine own_tp (.int (121 : Int32)) 809 (fun _ q => XS.bipush X209.here hx rfl (hb hby at_807) q) ?_
       obtain ⟨T210, h210, L210, X210, e210, V210, Wd210, N210, O210, Z210, K210, J210, st210⟩ := own_cst X209 hx hZ58 e209 V209 Wd209 N209 O209 Z209 K209 J209 ge116 sz116 (cs := (own_T96 w0 w1)) (n := 96) (i := 92) (x := (121 : Int32)) (by decide) ⟨rfl, by decide, by decide⟩ rfl (by decide) (hb hby at_809)
       refine own_cs [(.ref b116), (.ref b115), (.ref b115)] 810 st210 ?_
       refine own_tp (.ref b116) 811 (fun _ q => XS.dup X210.here hx rfl (hb hby at_810) rfl rfl q) ?_
       refine own_tp (.int (93 : Int32)) 813 (fun _ q => XS.bipush X210.here hx rfl (hb hby at_811) q) ?_
       refine own_tp (.int (32 : Int32)) 815 (fun _ q => XS.bipush X210.here hx rfl (hb hby at_813) q) ?_
       obtain ⟨T211, h211, L211, X211, e211, V211, Wd211, N211, O211, Z211, K211, J211, st211⟩ := own_cst X210 hx hZ58 e210 V210 Wd210 N210 O210 Z210 K210 J210 ge116 sz116 (cs := (own_T96 w0 w1)) (n := 96) (i := 93) (x := (32 : Int32)) (by decide) ⟨rfl, by decide, by decide⟩ rfl (by decide) (hb hby at_815)
       refine own_cs [(.ref b116), (.ref b115), (.ref b115)] 816 st211 ?_
       refine own_tp (.ref b116) 817 (fun _ q => XS.dup X211.here hx rfl (hb hby at_816) rfl rfl q) ?_
       refine own_tp (.int (94 : Int32)) 819 (fun _ q => XS.bipush X211.here hx rfl (hb hby at_817) q) ?_
       refine own_tp (.int (105 : Int32)) 821 (fun _ q => XS.bipush X211.here hx rfl (hb hby at_819) q) ?_
       obtain ⟨T212, h212, L212, X212, e212, V212, Wd212, N212, O212, Z212, K212, J212, st212⟩ := own_cst X211 hx hZ58 e211 V211 Wd211 N211 O211 Z211 K211 J211 ge116 sz116 (cs := (own_T96 w0 w1)) (n := 96) (i := 94) (x := (105 : Int32)) (by decide) ⟨rfl, by decide, by decide⟩ rfl (by decide) (hb hby at_821)
       refine own_cs [(.ref b116), (.ref b115), (.ref b115)] 822 st212 ?_
       refine own_tp (.ref b116) 823 (fun _ q => XS.dup X212.here hx rfl (hb hby at_822) rfl rfl q) ?_
       refine own_tp (.int (95 : Int32)) 825 (fun _ q => XS.bipush X212.here hx rfl (hb hby at_823) q) ?_
       refine own_tp (.int (116 : Int32)) 827 (fun _ q => XS.bipush X212.here hx rfl (hb hby at_825) q) ?_
       obtain ⟨T213, h213, L213, X213, e213, V213, Wd213, N213, O213, Z213, K213, J213, st213⟩ := own_cst X212 hx hZ58 e212 V212 Wd212 N212 O212 Z212 K212 J212 ge116 sz116 (cs := (own_T96 w0 w1)) (n := 96) (i := 95) (x := (116 : Int32)) (by decide) ⟨rfl, by decide, by decide⟩ rfl (by decide) (hb hby at_827)
       refine own_cs [(.ref b116), (.ref b115), (.ref b115)] 828 st213 ?_
       have f214 := (Safe.keep J213 (allS (own_safeV hZ58.alike V116_ (by simp)) all0) Wd116.chv (Safe.ext E116 Wd115.chv G115))
       have f215 := ((A115.ext E116).keep J213)
       have f216 := ((Fvalue_115.ext E116).keep J213 (ninS ne117 nin0))
       have f217 := ((Fcoder_115.ext E116).keep J213 (ninS ne117 nin0))
       obtain ⟨_, _, ⟨T218, L218, k218, n218⟩, -, X218, ⟨Lc218, hQ218, l218, y218, z218⟩, st218⟩ := X213.specialBack hx (y := own_M52) rfl hown58 (mvT hZ58 (w 6 rfl)) (mvT hZ58 (w 7 rfl)) (mvT hZ58 (w 8 rfl)) (by decide) (backOf (W := 1) (rm310 l Z a0 hw [] b115 b116 k116 (own_T96 w0 w1) _ _ h213 n0 (show 0 < (own_T96 w0 w1).length from Nat.zero_lt_succ _) (show (own_T96 w0 w1).length ≤ 96 from (by decide : (96 : Nat) ≤ 96)) (own_T96c hw0 hw1) Z213 ge115 ne117 (by have q : Arv Z h213 b116 k116 .char (96 : Int32) (own_A 96 (own_fC ((own_T96 w0 w1).take 96))) (.int (0 : Int32)) := V213; rw [own_fullC (n := 96) rfl] at q; exact q) f215 f216 f217 G1 US O213) hZ58 (w 8 rfl) (w 5 rfl) (by decide) (by decide)) (g := (mkF m 828 L_77 [(.ref b116), (.ref b115), (.ref b115)])) rfl (by rw [hml]; rfl) (Steps.refl _) (a := b115) (argsL := [(.ref b116)]) (rest := [(.ref b115)]) (lenOf pd36 rfl) rfl (by show 2 * 0 + _ ≤ _; exact Nat.le_of_eq rfl) (hb hby at_828) (fun _ _ => ⟨rfl, e213, (by decide : 12 + 2 ≤ _), (by decide : 1006 + 400 ≤ _)⟩)
       dsimp only [Pt.U, Pt.locs, Pt.cells, Pt.slots] at X218 l218 y218 z218 st218 hQ218
       subst l218 y218 z218
       obtain ⟨rfl, Nq218, Kp218, t218, kb218, cd218, Nn218, vs218, gt218, st_218, A218, Vl218, Cd218, V218, Co218⟩ := hQ218
       have N218 := Fr.app N213 Nq218
       have O218 := Old.keep O213 Kp218 (allS ge115 all0)
       have Z218 : n0 ≤ T218.heap.size := Nat.le_trans Z213 Kp218.1
       have K218 : Keep T73.heap T218.heap [] := Keep.trans K213 Kp218 (allS (Or.inr sz115) all0)
       have Wd218 := Wd213.keep Kp218 (allS f214 all0)
       have SS218 : own_S Z T218.heap b115 (own_T96 w0 w1) := ⟨t218, kb218, cd218, Nn218, vs218, A218, Vl218, Cd218, V218, Co218⟩
       refine own_csR [(.ref b115)] 831 st218 ?_
       let L_219 : Array Slot := #[.val (.long q0), .second, .val (.int p1), .val (.int p2), .val (.int z51), .val (.int z53), .val (.int z55), .val (.int ln), sl8_58, .val (.ref nm), .val (.int w0), .val (.int w1), .val (.ref b62), .val (.int z76), .val (.ref b115), .unset]
       refine own_ls L_219 833 (fun _ q => XS.astore X218.here hx rfl (hb hby at_831) rfl rfl (l' := L_219) rfl q) ?_
       refine own_d0 957 (fun _ q => XS.goto X218.here hx rfl (pc0 := 833) (pc' := 957) rfl (hb hby at_833) (by decide) (by decide) q) ?_
       exact kj78 T218 _ vj58 T218.heap (.ref b115) (X218.more (by decide) (by decide)) N218 rfl Wd218 hown58 O218 Z218 rfl ⟨b115, rfl, by unfold own_TX; rw [if_neg c86]; exact SS218, own_S.keep0 SN75 K218, own_S.keep0 SS73 K218⟩
     refine own_tp (.int ln) 201 (fun _ q => XS.iload X73.here hx rfl (hb hby at_199) rfl q) ?_
     refine own_tp (.int (1 : Int32)) 202 (fun _ q => XS.iconst X73.here hx rfl (hb hby at_201) q) ?_
     by_cases c220 : ln < (1 : Int32)
     ·
      refine own_d2 212 (fun _ q => XS.icmpYes X73.here hx rfl (pc0 := 202) (pc' := 212) rfl (hb hby at_202) rfl (tlt c220).1 (by decide) (by decide) q) ?_
      refine own_tp (.int ln) 214 (fun _ q => XS.iload X73.here hx rfl (hb hby at_212) rfl q) ?_
      refine own_tp (.int (2 : Int32)) 215 (fun _ q => XS.iconst X73.here hx rfl (hb hby at_214) q) ?_
      by_cases c221 : ln < (2 : Int32)
      ·
       refine own_d2 225 (fun _ q => XS.icmpYes X73.here hx rfl (pc0 := 215) (pc' := 225) rfl (hb hby at_215) rfl (tlt c221).1 (by decide) (by decide) q) ?_
       refine own_tp (.int ln) 227 (fun _ q => XS.iload X73.here hx rfl (hb hby at_225) rfl q) ?_
       refine own_tp (.int (3 : Int32)) 228 (fun _ q => XS.iconst X73.here hx rfl (hb hby at_227) q) ?_
       by_cases c222 : ln < (3 : Int32)
       ·
        refine own_d2 242 (fun _ q => XS.icmpYes X73.here hx rfl (pc0 := 228) (pc' := 242) rfl (hb hby at_228) rfl (tlt c222).1 (by decide) (by decide) q) ?_
        refine own_tp (.int (0 : Int32)) 243 (fun _ q => XS.iconst X73.here hx rfl (hb hby at_242) q) ?_
        exact kj76 T73 _ (0 : Int32) X73 N73 rfl (by rw [← own_u_ok hln]; unfold own_u1; rw [if_pos c220]; unfold own_u2; rw [if_pos c221]; unfold own_u3; rw [if_pos c222])
       ·
        refine own_d2 231 (fun _ q => XS.icmpNo X73.here hx rfl (hb hby at_228) rfl (flt c222).1 q) ?_
        refine own_tp (.int z55) 233 (fun _ q => XS.iload X73.here hx rfl (hb hby at_231) rfl q) ?_
        refine own_tp (.int (65533 : Int32)) 235 (fun _ q => X73.ldcInt hx hown58 (mvT hZ58 (w 1 rfl)) (g := (mkF m 233 L_74 [(.int z55)])) rfl (hb hby at_233) _ q) ?_
        by_cases c223 : z55 = (65533 : Int32)
        ·
         refine own_d2 238 (fun _ q => XS.icmpNo X73.here hx rfl (hb hby at_235) rfl (teq c223).2 q) ?_
         refine own_tp (.int (1 : Int32)) 239 (fun _ q => XS.iconst X73.here hx rfl (hb hby at_238) q) ?_
         refine own_d0 243 (fun _ q => XS.goto X73.here hx rfl (pc0 := 239) (pc' := 243) rfl (hb hby at_239) (by decide) (by decide) q) ?_
         exact kj76 T73 _ (1 : Int32) X73 N73 rfl (by rw [← own_u_ok hln]; unfold own_u1; rw [if_pos c220]; unfold own_u2; rw [if_pos c221]; unfold own_u3; rw [if_neg c222]; rw [if_pos c223])
        ·
         refine own_d2 242 (fun _ q => XS.icmpYes X73.here hx rfl (pc0 := 235) (pc' := 242) rfl (hb hby at_235) rfl (feq c223).2 (by decide) (by decide) q) ?_
         refine own_tp (.int (0 : Int32)) 243 (fun _ q => XS.iconst X73.here hx rfl (hb hby at_242) q) ?_
         exact kj76 T73 _ (0 : Int32) X73 N73 rfl (by rw [← own_u_ok hln]; unfold own_u1; rw [if_pos c220]; unfold own_u2; rw [if_pos c221]; unfold own_u3; rw [if_neg c222]; rw [if_neg c223])
      ·
       refine own_d2 218 (fun _ q => XS.icmpNo X73.here hx rfl (hb hby at_215) rfl (flt c221).1 q) ?_
       refine own_tp (.int z53) 220 (fun _ q => XS.iload X73.here hx rfl (hb hby at_218) rfl q) ?_
       refine own_tp (.int (65533 : Int32)) 222 (fun _ q => X73.ldcInt hx hown58 (mvT hZ58 (w 1 rfl)) (g := (mkF m 220 L_74 [(.int z53)])) rfl (hb hby at_220) _ q) ?_
       by_cases c224 : z53 = (65533 : Int32)
       ·
        refine own_d2 238 (fun _ q => XS.icmpYes X73.here hx rfl (pc0 := 222) (pc' := 238) rfl (hb hby at_222) rfl (teq c224).1 (by decide) (by decide) q) ?_
        refine own_tp (.int (1 : Int32)) 239 (fun _ q => XS.iconst X73.here hx rfl (hb hby at_238) q) ?_
        refine own_d0 243 (fun _ q => XS.goto X73.here hx rfl (pc0 := 239) (pc' := 243) rfl (hb hby at_239) (by decide) (by decide) q) ?_
        exact kj76 T73 _ (1 : Int32) X73 N73 rfl (by rw [← own_u_ok hln]; unfold own_u1; rw [if_pos c220]; unfold own_u2; rw [if_neg c221]; rw [if_pos c224])
       ·
        refine own_d2 225 (fun _ q => XS.icmpNo X73.here hx rfl (hb hby at_222) rfl (feq c224).1 q) ?_
        refine own_tp (.int ln) 227 (fun _ q => XS.iload X73.here hx rfl (hb hby at_225) rfl q) ?_
        refine own_tp (.int (3 : Int32)) 228 (fun _ q => XS.iconst X73.here hx rfl (hb hby at_227) q) ?_
        by_cases c225 : ln < (3 : Int32)
        ·
         refine own_d2 242 (fun _ q => XS.icmpYes X73.here hx rfl (pc0 := 228) (pc' := 242) rfl (hb hby at_228) rfl (tlt c225).1 (by decide) (by decide) q) ?_
         refine own_tp (.int (0 : Int32)) 243 (fun _ q => XS.iconst X73.here hx rfl (hb hby at_242) q) ?_
         exact kj76 T73 _ (0 : Int32) X73 N73 rfl (by rw [← own_u_ok hln]; unfold own_u1; rw [if_pos c220]; unfold own_u2; rw [if_neg c221]; rw [if_neg c224]; unfold own_u3; rw [if_pos c225])
        ·
         refine own_d2 231 (fun _ q => XS.icmpNo X73.here hx rfl (hb hby at_228) rfl (flt c225).1 q) ?_
         refine own_tp (.int z55) 233 (fun _ q => XS.iload X73.here hx rfl (hb hby at_231) rfl q) ?_
         refine own_tp (.int (65533 : Int32)) 235 (fun _ q => X73.ldcInt hx hown58 (mvT hZ58 (w 1 rfl)) (g := (mkF m 233 L_74 [(.int z55)])) rfl (hb hby at_233) _ q) ?_
         by_cases c226 : z55 = (65533 : Int32)
         ·
          refine own_d2 238 (fun _ q => XS.icmpNo X73.here hx rfl (hb hby at_235) rfl (teq c226).2 q) ?_
          refine own_tp (.int (1 : Int32)) 239 (fun _ q => XS.iconst X73.here hx rfl (hb hby at_238) q) ?_
          refine own_d0 243 (fun _ q => XS.goto X73.here hx rfl (pc0 := 239) (pc' := 243) rfl (hb hby at_239) (by decide) (by decide) q) ?_
          exact kj76 T73 _ (1 : Int32) X73 N73 rfl (by rw [← own_u_ok hln]; unfold own_u1; rw [if_pos c220]; unfold own_u2; rw [if_neg c221]; rw [if_neg c224]; unfold own_u3; rw [if_neg c225]; rw [if_pos c226])
         ·
          refine own_d2 242 (fun _ q => XS.icmpYes X73.here hx rfl (pc0 := 235) (pc' := 242) rfl (hb hby at_235) rfl (feq c226).2 (by decide) (by decide) q) ?_
          refine own_tp (.int (0 : Int32)) 243 (fun _ q => XS.iconst X73.here hx rfl (hb hby at_242) q) ?_
          exact kj76 T73 _ (0 : Int32) X73 N73 rfl (by rw [← own_u_ok hln]; unfold own_u1; rw [if_pos c220]; unfold own_u2; rw [if_neg c221]; rw [if_neg c224]; unfold own_u3; rw [if_neg c225]; rw [if_neg c226])
     ·
      refine own_d2 205 (fun _ q => XS.icmpNo X73.here hx rfl (hb hby at_202) rfl (flt c220).1 q) ?_
      refine own_tp (.int z51) 207 (fun _ q => XS.iload X73.here hx rfl (hb hby at_205) rfl q) ?_
      refine own_tp (.int (65533 : Int32)) 209 (fun _ q => X73.ldcInt hx hown58 (mvT hZ58 (w 1 rfl)) (g := (mkF m 207 L_74 [(.int z51)])) rfl (hb hby at_207) _ q) ?_
      by_cases c227 : z51 = (65533 : Int32)
      ·
       refine own_d2 238 (fun _ q => XS.icmpYes X73.here hx rfl (pc0 := 209) (pc' := 238) rfl (hb hby at_209) rfl (teq c227).1 (by decide) (by decide) q) ?_
       refine own_tp (.int (1 : Int32)) 239 (fun _ q => XS.iconst X73.here hx rfl (hb hby at_238) q) ?_
       refine own_d0 243 (fun _ q => XS.goto X73.here hx rfl (pc0 := 239) (pc' := 243) rfl (hb hby at_239) (by decide) (by decide) q) ?_
       exact kj76 T73 _ (1 : Int32) X73 N73 rfl (by rw [← own_u_ok hln]; unfold own_u1; rw [if_neg c220]; rw [if_pos c227])
      ·
       refine own_d2 212 (fun _ q => XS.icmpNo X73.here hx rfl (hb hby at_209) rfl (feq c227).1 q) ?_
       refine own_tp (.int ln) 214 (fun _ q => XS.iload X73.here hx rfl (hb hby at_212) rfl q) ?_
       refine own_tp (.int (2 : Int32)) 215 (fun _ q => XS.iconst X73.here hx rfl (hb hby at_214) q) ?_
       by_cases c228 : ln < (2 : Int32)
       ·
        refine own_d2 225 (fun _ q => XS.icmpYes X73.here hx rfl (pc0 := 215) (pc' := 225) rfl (hb hby at_215) rfl (tlt c228).1 (by decide) (by decide) q) ?_
        refine own_tp (.int ln) 227 (fun _ q => XS.iload X73.here hx rfl (hb hby at_225) rfl q) ?_
        refine own_tp (.int (3 : Int32)) 228 (fun _ q => XS.iconst X73.here hx rfl (hb hby at_227) q) ?_
        by_cases c229 : ln < (3 : Int32)
        ·
         refine own_d2 242 (fun _ q => XS.icmpYes X73.here hx rfl (pc0 := 228) (pc' := 242) rfl (hb hby at_228) rfl (tlt c229).1 (by decide) (by decide) q) ?_
         refine own_tp (.int (0 : Int32)) 243 (fun _ q => XS.iconst X73.here hx rfl (hb hby at_242) q) ?_
         exact kj76 T73 _ (0 : Int32) X73 N73 rfl (by rw [← own_u_ok hln]; unfold own_u1; rw [if_neg c220]; rw [if_neg c227]; unfold own_u2; rw [if_pos c228]; unfold own_u3; rw [if_pos c229])
        ·
         refine own_d2 231 (fun _ q => XS.icmpNo X73.here hx rfl (hb hby at_228) rfl (flt c229).1 q) ?_
         refine own_tp (.int z55) 233 (fun _ q => XS.iload X73.here hx rfl (hb hby at_231) rfl q) ?_
         refine own_tp (.int (65533 : Int32)) 235 (fun _ q => X73.ldcInt hx hown58 (mvT hZ58 (w 1 rfl)) (g := (mkF m 233 L_74 [(.int z55)])) rfl (hb hby at_233) _ q) ?_
         by_cases c230 : z55 = (65533 : Int32)
         ·
          refine own_d2 238 (fun _ q => XS.icmpNo X73.here hx rfl (hb hby at_235) rfl (teq c230).2 q) ?_
          refine own_tp (.int (1 : Int32)) 239 (fun _ q => XS.iconst X73.here hx rfl (hb hby at_238) q) ?_
          refine own_d0 243 (fun _ q => XS.goto X73.here hx rfl (pc0 := 239) (pc' := 243) rfl (hb hby at_239) (by decide) (by decide) q) ?_
          exact kj76 T73 _ (1 : Int32) X73 N73 rfl (by rw [← own_u_ok hln]; unfold own_u1; rw [if_neg c220]; rw [if_neg c227]; unfold own_u2; rw [if_pos c228]; unfold own_u3; rw [if_neg c229]; rw [if_pos c230])
         ·
          refine own_d2 242 (fun _ q => XS.icmpYes X73.here hx rfl (pc0 := 235) (pc' := 242) rfl (hb hby at_235) rfl (feq c230).2 (by decide) (by decide) q) ?_
          refine own_tp (.int (0 : Int32)) 243 (fun _ q => XS.iconst X73.here hx rfl (hb hby at_242) q) ?_
          exact kj76 T73 _ (0 : Int32) X73 N73 rfl (by rw [← own_u_ok hln]; unfold own_u1; rw [if_neg c220]; rw [if_neg c227]; unfold own_u2; rw [if_pos c228]; unfold own_u3; rw [if_neg c229]; rw [if_neg c230])
       ·
        refine own_d2 218 (fun _ q => XS.icmpNo X73.here hx rfl (hb hby at_215) rfl (flt c228).1 q) ?_
        refine own_tp (.int z53) 220 (fun _ q => XS.iload X73.here hx rfl (hb hby at_218) rfl q) ?_
        refine own_tp (.int (65533 : Int32)) 222 (fun _ q => X73.ldcInt hx hown58 (mvT hZ58 (w 1 rfl)) (g := (mkF m 220 L_74 [(.int z53)])) rfl (hb hby at_220) _ q) ?_
        by_cases c231 : z53 = (65533 : Int32)
        ·
         refine own_d2 238 (fun _ q => XS.icmpYes X73.here hx rfl (pc0 := 222) (pc' := 238) rfl (hb hby at_222) rfl (teq c231).1 (by decide) (by decide) q) ?_
         refine own_tp (.int (1 : Int32)) 239 (fun _ q => XS.iconst X73.here hx rfl (hb hby at_238) q) ?_
         refine own_d0 243 (fun _ q => XS.goto X73.here hx rfl (pc0 := 239) (pc' := 243) rfl (hb hby at_239) (by decide) (by decide) q) ?_
         exact kj76 T73 _ (1 : Int32) X73 N73 rfl (by rw [← own_u_ok hln]; unfold own_u1; rw [if_neg c220]; rw [if_neg c227]; unfold own_u2; rw [if_neg c228]; rw [if_pos c231])
        ·
         refine own_d2 225 (fun _ q => XS.icmpNo X73.here hx rfl (hb hby at_222) rfl (feq c231).1 q) ?_
         refine own_tp (.int ln) 227 (fun _ q => XS.iload X73.here hx rfl (hb hby at_225) rfl q) ?_
         refine own_tp (.int (3 : Int32)) 228 (fun _ q => XS.iconst X73.here hx rfl (hb hby at_227) q) ?_
         by_cases c232 : ln < (3 : Int32)
         ·
          refine own_d2 242 (fun _ q => XS.icmpYes X73.here hx rfl (pc0 := 228) (pc' := 242) rfl (hb hby at_228) rfl (tlt c232).1 (by decide) (by decide) q) ?_
          refine own_tp (.int (0 : Int32)) 243 (fun _ q => XS.iconst X73.here hx rfl (hb hby at_242) q) ?_
          exact kj76 T73 _ (0 : Int32) X73 N73 rfl (by rw [← own_u_ok hln]; unfold own_u1; rw [if_neg c220]; rw [if_neg c227]; unfold own_u2; rw [if_neg c228]; rw [if_neg c231]; unfold own_u3; rw [if_pos c232])
         ·
          refine own_d2 231 (fun _ q => XS.icmpNo X73.here hx rfl (hb hby at_228) rfl (flt c232).1 q) ?_
          refine own_tp (.int z55) 233 (fun _ q => XS.iload X73.here hx rfl (hb hby at_231) rfl q) ?_
          refine own_tp (.int (65533 : Int32)) 235 (fun _ q => X73.ldcInt hx hown58 (mvT hZ58 (w 1 rfl)) (g := (mkF m 233 L_74 [(.int z55)])) rfl (hb hby at_233) _ q) ?_
          by_cases c233 : z55 = (65533 : Int32)
          ·
           refine own_d2 238 (fun _ q => XS.icmpNo X73.here hx rfl (hb hby at_235) rfl (teq c233).2 q) ?_
           refine own_tp (.int (1 : Int32)) 239 (fun _ q => XS.iconst X73.here hx rfl (hb hby at_238) q) ?_
           refine own_d0 243 (fun _ q => XS.goto X73.here hx rfl (pc0 := 239) (pc' := 243) rfl (hb hby at_239) (by decide) (by decide) q) ?_
           exact kj76 T73 _ (1 : Int32) X73 N73 rfl (by rw [← own_u_ok hln]; unfold own_u1; rw [if_neg c220]; rw [if_neg c227]; unfold own_u2; rw [if_neg c228]; rw [if_neg c231]; unfold own_u3; rw [if_neg c232]; rw [if_pos c233])
          ·
           refine own_d2 242 (fun _ q => XS.icmpYes X73.here hx rfl (pc0 := 235) (pc' := 242) rfl (hb hby at_235) rfl (feq c233).2 (by decide) (by decide) q) ?_
           refine own_tp (.int (0 : Int32)) 243 (fun _ q => XS.iconst X73.here hx rfl (hb hby at_242) q) ?_
           exact kj76 T73 _ (0 : Int32) X73 N73 rfl (by rw [← own_u_ok hln]; unfold own_u1; rw [if_neg c220]; rw [if_neg c227]; unfold own_u2; rw [if_neg c228]; rw [if_neg c231]; unfold own_u3; rw [if_neg c232]; rw [if_neg c233])
    refine own_tp (.int ln) 75 (fun _ q => XS.iload Xj55.here hx rfl (hb hby at_73) rfl q) ?_
    by_cases c234 : ln = (0 : Int32)
    ·
     refine own_d1 78 (fun _ q => XS.ifNo Xj55.here hx rfl (hb hby at_75) rfl ((if0 _ _).trans (teq c234).2) q) ?_
     refine own_tp (.int (0 : Int32)) 79 (fun _ q => XS.iconst Xj55.here hx rfl (hb hby at_78) q) ?_
     obtain ⟨T235, h235, k235, X235, e235, E235, A235, st235⟩ := newP Xj55 hx hZ (w 2 rfl) ej55 (g := (mkF m 79 L_57 [(.int (0 : Int32))])) rfl (hb hby at_79) rfl (by decide) (cap := 0) (by decide) (by decide) (by decide) (by decide)
     obtain ⟨b235, g235⟩ : ∃ z, z = h0.size := ⟨_, rfl⟩
     rw [← g235] at A235 st235
     have V235 : Arv Z h235 b235 k235 .char (0 : Int32) [] (.int (0 : Int32)) := (Arv.new A235 (by decide)).pad (pad_rep [] (.int (0 : Int32)) 0)
     have ge235 : n0 ≤ b235 := Nat.le_trans Z0 (Nat.le_of_eq g235.symm)
     have O235 := Old.ext O0 E235
     have Z235 : n0 ≤ h235.size := Nat.le_trans Z0 E235.1
     have Wd235 := Wd0.ext E235
     refine own_t1 (.ref b235) 81 st235 ?_
     let L_236 : Array Slot := #[.val (.long q0), .second, .val (.int p1), .val (.int p2), .val (.int z51), .val (.int z53), .val (.int z55), .val (.int ln), .val (.ref b235), .unset, .unset, .unset, .unset, .unset, .unset, .unset]
     refine own_ls L_236 83 (fun _ q => XS.astore X235.here hx rfl (hb hby at_81) rfl rfl (l' := L_236) rfl q) ?_
     refine own_d0 149 (fun _ q => XS.goto X235.here hx rfl (pc0 := 83) (pc' := 149) rfl (hb hby at_83) (by decide) (by decide) q) ?_
     obtain ⟨T237, h237, X237, e237, E237, A237, D237, -, st237⟩ := newO X235 hx hZ hown (w 3 rfl) (w 4 rfl) (w 5 rfl) e235 (g := (mkF m 149 L_236 [])) rfl (hb hby at_149) (by decide) (by decide)
     obtain ⟨b237, g237⟩ : ∃ z, z = h235.size := ⟨_, rfl⟩
     rw [← g237] at A237 D237 st237
     have ge237 : n0 ≤ b237 := Nat.le_trans Z235 (Nat.le_of_eq g237.symm)
     have ne238 : b235 ≠ b237 := Nat.ne_of_lt (Nat.lt_of_lt_of_le V235.lt (Nat.le_of_eq g237.symm))
     have O237 := Old.ext O235 E237
     have Z237 : n0 ≤ h237.size := Nat.le_trans Z235 E237.1
     have Wd237 := Wd235.ext E237
     have G237 : Safe Z own_EL s.vm h237 b237 := Safe.ext E237 Wd235.chv (Safe.new (Nat.le_of_eq g237.symm))
     have Fvalue_237 : Fld Z h237 b237 "java/lang/String" "value" "[B" .null := D237 (Or.inr (w 18 rfl)) (ty := (.array .byte)) (by decide)
     have Fcoder_237 : Fld Z h237 b237 "java/lang/String" "coder" "B" (.int (0 : Int32)) := D237 (Or.inr (w 19 rfl)) (ty := .byte) (by decide)
     refine own_tp (.ref b237) 152 st237 ?_
     refine own_tp (.ref b237) 153 (fun _ q => XS.dup X237.here hx rfl (hb hby at_152) rfl rfl q) ?_
     refine own_tp (.ref b235) 155 (fun _ q => XS.aload X237.here hx rfl (hb hby at_153) rfl rfl q) ?_
     have f239 := (V235.ext E237)
     obtain ⟨_, _, ⟨T240, L240, k240, n240⟩, -, X240, hS240, -, ⟨Lc240, hQ240, l240, y240, z240, Ch240⟩, st240⟩ := X237.specialBackS hx (y := own_M52) rfl hown (mvT hZ (w 6 rfl)) (mvT hZ (w 7 rfl)) (mvT hZ (w 8 rfl)) (by decide) (backOfSH (W := 1) (rm90 l Z a0 hw [] b237 b235 k235 h237 n0 hE Z237 ge237 A237 Fvalue_237 Fcoder_237 G1 US O237 f239) hZ (w 8 rfl) (w 5 rfl) (by decide) (by decide) Wd237.hE Wd237.chv) (g := (mkF m 155 L_236 [(.ref b235), (.ref b237), (.ref b237)])) rfl (by rw [hml]; rfl) (Steps.refl _) (a := b237) (argsL := [(.ref b235)]) (rest := [(.ref b237)]) (lenOf pd36 rfl) rfl (by show 2 * 0 + _ ≤ _; exact Nat.le_of_eq rfl) (hb hby at_155) (fun _ _ => ⟨rfl, e237, (by decide : 2 + 4 ≤ _), (by decide : 4 + 8 ≤ _)⟩)
     dsimp only [Pt.U, Pt.locs, Pt.cells, Pt.slots] at X240 l240 y240 z240 st240 hQ240 hS240 Ch240
     subst l240 y240 z240
     have Wd240 := own_Wd.call Wd237 hS240 Ch240
     have hZ240 : Z.Warmed39 (s.setVm T240.vm).vm := Wd240.hZ
     have hown240 : (s.setVm T240.vm).vm.findClass "com/example/kalends/kalends/FileNamesWhyNotFoundPinLaw" = some m.cls := own_since_own hS240 hown
     have Y240 : Stand p l e room_1 (s.setVm T240.vm) m #[(.long q0), (.int p1), (.int p2)] below meth c T240 _ _ _ := X240
     have G240_b237 := CHr.safe Ch240 A237.lt G237
     obtain ⟨rfl, Nq240, Kp240, t240, kb240, cd240, Nn240, vs240, A240, Vl240, Cd240, V240, Co240⟩ := hQ240
     have N240 := Fr.app Nj55 Nq240
     have O240 := Old.keep O237 Kp240 (allS ge237 all0)
     have Z240 : n0 ≤ T240.heap.size := Nat.le_trans Z237 Kp240.1
     have SS240 : own_S Z T240.heap b237 [] := ⟨t240, kb240, cd240, Nn240, vs240, A240, Vl240, Cd240, V240, Co240⟩
     refine own_csR [(.ref b237)] 158 st240 ?_
     let L_241 : Array Slot := #[.val (.long q0), .second, .val (.int p1), .val (.int p2), .val (.int z51), .val (.int z53), .val (.int z55), .val (.int ln), .val (.ref b235), .val (.ref b237), .unset, .unset, .unset, .unset, .unset, .unset]
     refine own_ls L_241 160 (fun _ q => XS.astore Y240.here hx rfl (hb hby at_158) rfl rfl (l' := L_241) rfl q) ?_
     exact kj58 T240 _ T240.vm T240.heap (.ref b237) _ (One.val rfl) (Y240.more (by decide) (by decide)) N240 rfl Wd240 hown240 O240 Z240 rfl ⟨b237, rfl, by unfold own_tk; rw [if_pos c234]; exact SS240⟩
    ·
     refine own_d1 86 (fun _ q => XS.ifYes Xj55.here hx rfl (pc0 := 75) (pc' := 86) rfl (hb hby at_75) rfl ((if0 _ _).trans (feq c234).2) (by decide) (by decide) q) ?_
     refine own_tp (.int ln) 88 (fun _ q => XS.iload Xj55.here hx rfl (hb hby at_86) rfl q) ?_
     refine own_tp (.int (1 : Int32)) 89 (fun _ q => XS.iconst Xj55.here hx rfl (hb hby at_88) q) ?_
     by_cases c242 : ln = (1 : Int32)
     ·
      refine own_d2 92 (fun _ q => XS.icmpNo Xj55.here hx rfl (hb hby at_89) rfl (teq c242).2 q) ?_
      refine own_tp (.int (1 : Int32)) 93 (fun _ q => XS.iconst Xj55.here hx rfl (hb hby at_92) q) ?_
      obtain ⟨T243, h243, k243, X243, e243, E243, A243, st243⟩ := newP Xj55 hx hZ (w 2 rfl) ej55 (g := (mkF m 93 L_57 [(.int (1 : Int32))])) rfl (hb hby at_93) rfl (by decide) (cap := 1) (by decide) (by decide) (by decide) (by decide)
      obtain ⟨b243, g243⟩ : ∃ z, z = h0.size := ⟨_, rfl⟩
      rw [← g243] at A243 st243
      have V243 : Arv Z h243 b243 k243 .char (1 : Int32) [(.int (0 : Int32))] (.int (0 : Int32)) := (Arv.new A243 (by decide)).pad (pad_rep [] (.int (0 : Int32)) 1)
      have ge243 : n0 ≤ b243 := Nat.le_trans Z0 (Nat.le_of_eq g243.symm)
      have O243 := Old.ext O0 E243
      have Z243 : n0 ≤ h243.size := Nat.le_trans Z0 E243.1
      have Wd243 := Wd0.ext E243
      refine own_t1 (.ref b243) 95 st243 ?_
      refine own_tp (.ref b243) 96 (fun _ q => XS.dup X243.here hx rfl (hb hby at_95) rfl rfl q) ?_
      refine own_tp (.int (0 : Int32)) 97 (fun _ q => XS.iconst X243.here hx rfl (hb hby at_96) q) ?_
      refine own_tp (.int z51) 99 (fun _ q => XS.iload X243.here hx rfl (hb hby at_97) rfl q) ?_
      obtain ⟨cl244, Ar244, q244, S244, Nn244, H244, G244⟩ := (id V243)
      have hin244 : ¬ ((0 : Int32) < 0 ∨ cl244.slots.size ≤ ((0 : Int32)).toNatClampNeg) := inb_of S244 ⟨by decide, by decide⟩
      obtain ⟨T245, h245, X245, e245, W245, st245⟩ := stC X243 hx hZ e243 Ar244 (j := (0 : Int32)) hin244 (g := (mkF m 99 L_57 [(.int z51), (.int (0 : Int32)), (.ref b243), (.ref b243)])) rfl rfl (hb hby at_99)
      have V245 := Arv.set Ar244 q244 S244 Nn244 H244 G244 (fits_nar_char _) W245 0 rfl (Nat.le_of_ble_eq_true rfl)
      have N245 := Fr.snoc X245 Nj55 ge243
      have O245 := Old.wr O243 W245 ge243
      have Z245 : n0 ≤ h245.size := Nat.le_trans Z243 (Nat.le_of_eq W245.size.symm)
      have Wd245 := Wd243.wr W245 (own_safeV hZ.alike V243 (by simp))
      have V245' : Arv Z h245 b243 k243 .char (1 : Int32) [(.int z51)] (.int (0 : Int32)) := by have q := V245; first | (rw [own_narc hz51] at q; exact q) | (rw [own_i2c hz51] at q; exact q)
      refine own_cs [(.ref b243)] 100 st245 ?_
      let L_246 : Array Slot := #[.val (.long q0), .second, .val (.int p1), .val (.int p2), .val (.int z51), .val (.int z53), .val (.int z55), .val (.int ln), .val (.ref b243), .unset, .unset, .unset, .unset, .unset, .unset, .unset]
      refine own_ls L_246 102 (fun _ q => XS.astore X245.here hx rfl (hb hby at_100) rfl rfl (l' := L_246) rfl q) ?_
      refine own_d0 149 (fun _ q => XS.goto X245.here hx rfl (pc0 := 102) (pc' := 149) rfl (hb hby at_102) (by decide) (by decide) q) ?_
      obtain ⟨T247, h247, X247, e247, E247, A247, D247, -, st247⟩ := newO X245 hx hZ hown (w 3 rfl) (w 4 rfl) (w 5 rfl) e245 (g := (mkF m 149 L_246 [])) rfl (hb hby at_149) (by decide) (by decide)
      obtain ⟨b247, g247⟩ : ∃ z, z = h245.size := ⟨_, rfl⟩
      rw [← g247] at A247 D247 st247
      have ge247 : n0 ≤ b247 := Nat.le_trans Z245 (Nat.le_of_eq g247.symm)
      have ne248 : b243 ≠ b247 := Nat.ne_of_lt (Nat.lt_of_lt_of_le V245'.lt (Nat.le_of_eq g247.symm))
      have O247 := Old.ext O245 E247
      have Z247 : n0 ≤ h247.size := Nat.le_trans Z245 E247.1
      have Wd247 := Wd245.ext E247
      have G247 : Safe Z own_EL s.vm h247 b247 := Safe.ext E247 Wd245.chv (Safe.new (Nat.le_of_eq g247.symm))
      have Fvalue_247 : Fld Z h247 b247 "java/lang/String" "value" "[B" .null := D247 (Or.inr (w 18 rfl)) (ty := (.array .byte)) (by decide)
      have Fcoder_247 : Fld Z h247 b247 "java/lang/String" "coder" "B" (.int (0 : Int32)) := D247 (Or.inr (w 19 rfl)) (ty := .byte) (by decide)
      refine own_tp (.ref b247) 152 st247 ?_
      refine own_tp (.ref b247) 153 (fun _ q => XS.dup X247.here hx rfl (hb hby at_152) rfl rfl q) ?_
      refine own_tp (.ref b243) 155 (fun _ q => XS.aload X247.here hx rfl (hb hby at_153) rfl rfl q) ?_
      have f249 := (V245'.ext E247)
      obtain ⟨_, _, ⟨T250, L250, k250, n250⟩, -, X250, ⟨Lc250, hQ250, l250, y250, z250⟩, st250⟩ := X247.specialBack hx (y := own_M52) rfl hown (mvT hZ (w 6 rfl)) (mvT hZ (w 7 rfl)) (mvT hZ (w 8 rfl)) (by decide) (backOf (W := 1) (rm310 l Z a0 hw [] b247 b243 k243 [z51] _ _ h247 n0 (by simp) (by simp) (own_chs1 hz51) Z247 ge247 (Ne.symm ne248) f249 A247 Fvalue_247 Fcoder_247 G1 US O247) hZ (w 8 rfl) (w 5 rfl) (by decide) (by decide)) (g := (mkF m 155 L_246 [(.ref b243), (.ref b247), (.ref b247)])) rfl (by rw [hml]; rfl) (Steps.refl _) (a := b247) (argsL := [(.ref b243)]) (rest := [(.ref b247)]) (lenOf pd36 rfl) rfl (by show 2 * 0 + _ ≤ _; exact Nat.le_of_eq rfl) (hb hby at_155) (fun _ _ => ⟨rfl, e247, (by decide : 2 + 2 ≤ _), (by decide : 5 + 400 ≤ _)⟩)
      dsimp only [Pt.U, Pt.locs, Pt.cells, Pt.slots] at X250 l250 y250 z250 st250 hQ250
      subst l250 y250 z250
      obtain ⟨rfl, Nq250, Kp250, t250, kb250, cd250, Nn250, vs250, gt250, st_250, A250, Vl250, Cd250, V250, Co250⟩ := hQ250
      have N250 := Fr.app N245 Nq250
      have O250 := Old.keep O247 Kp250 (allS ge247 all0)
      have Z250 : n0 ≤ T250.heap.size := Nat.le_trans Z247 Kp250.1
      have Wd250 := Wd247.keep Kp250 (allS G247 all0)
      have SS250 : own_S Z T250.heap b247 [z51] := ⟨t250, kb250, cd250, Nn250, vs250, A250, Vl250, Cd250, V250, Co250⟩
      refine own_csR [(.ref b247)] 158 st250 ?_
      let L_251 : Array Slot := #[.val (.long q0), .second, .val (.int p1), .val (.int p2), .val (.int z51), .val (.int z53), .val (.int z55), .val (.int ln), .val (.ref b243), .val (.ref b247), .unset, .unset, .unset, .unset, .unset, .unset]
      refine own_ls L_251 160 (fun _ q => XS.astore X250.here hx rfl (hb hby at_158) rfl rfl (l' := L_251) rfl q) ?_
      exact kj58 T250 _ s.vm T250.heap (.ref b247) _ (One.val rfl) (X250.more (by decide) (by decide)) N250 rfl Wd250 hown O250 Z250 rfl ⟨b247, rfl, by unfold own_tk; rw [if_neg c234, if_pos c242]; exact SS250⟩
     ·
      refine own_d2 105 (fun _ q => XS.icmpYes Xj55.here hx rfl (pc0 := 89) (pc' := 105) rfl (hb hby at_89) rfl (feq c242).2 (by decide) (by decide) q) ?_
      refine own_tp (.int ln) 107 (fun _ q => XS.iload Xj55.here hx rfl (hb hby at_105) rfl q) ?_
      refine own_tp (.int (2 : Int32)) 108 (fun _ q => XS.iconst Xj55.here hx rfl (hb hby at_107) q) ?_
      by_cases c252 : ln = (2 : Int32)
      ·
       refine own_d2 111 (fun _ q => XS.icmpNo Xj55.here hx rfl (hb hby at_108) rfl (teq c252).2 q) ?_
       refine own_tp (.int (2 : Int32)) 112 (fun _ q => XS.iconst Xj55.here hx rfl (hb hby at_111) q) ?_
       obtain ⟨T253, h253, k253, X253, e253, E253, A253, st253⟩ := newP Xj55 hx hZ (w 2 rfl) ej55 (g := (mkF m 112 L_57 [(.int (2 : Int32))])) rfl (hb hby at_112) rfl (by decide) (cap := 2) (by decide) (by decide) (by decide) (by decide)
       obtain ⟨b253, g253⟩ : ∃ z, z = h0.size := ⟨_, rfl⟩
       rw [← g253] at A253 st253
       have V253 : Arv Z h253 b253 k253 .char (2 : Int32) [(.int (0 : Int32)), (.int (0 : Int32))] (.int (0 : Int32)) := (Arv.new A253 (by decide)).pad (pad_rep [] (.int (0 : Int32)) 2)
       have ge253 : n0 ≤ b253 := Nat.le_trans Z0 (Nat.le_of_eq g253.symm)
       have O253 := Old.ext O0 E253
       have Z253 : n0 ≤ h253.size := Nat.le_trans Z0 E253.1
       have Wd253 := Wd0.ext E253
       refine own_t1 (.ref b253) 114 st253 ?_
       refine own_tp (.ref b253) 115 (fun _ q => XS.dup X253.here hx rfl (hb hby at_114) rfl rfl q) ?_
       refine own_tp (.int (0 : Int32)) 116 (fun _ q => XS.iconst X253.here hx rfl (hb hby at_115) q) ?_
       refine own_tp (.int z51) 118 (fun _ q => XS.iload X253.here hx rfl (hb hby at_116) rfl q) ?_
       obtain ⟨cl254, Ar254, q254, S254, Nn254, H254, G254⟩ := (id V253)
       have hin254 : ¬ ((0 : Int32) < 0 ∨ cl254.slots.size ≤ ((0 : Int32)).toNatClampNeg) := inb_of S254 ⟨by decide, by decide⟩
       obtain ⟨T255, h255, X255, e255, W255, st255⟩ := stC X253 hx hZ e253 Ar254 (j := (0 : Int32)) hin254 (g := (mkF m 118 L_57 [(.int z51), (.int (0 : Int32)), (.ref b253), (.ref b253)])) rfl rfl (hb hby at_118)
       have V255 := Arv.set Ar254 q254 S254 Nn254 H254 G254 (fits_nar_char _) W255 0 rfl (Nat.le_of_ble_eq_true rfl)
       have N255 := Fr.snoc X255 Nj55 ge253
       have O255 := Old.wr O253 W255 ge253
       have Z255 : n0 ≤ h255.size := Nat.le_trans Z253 (Nat.le_of_eq W255.size.symm)
       have Wd255 := Wd253.wr W255 (own_safeV hZ.alike V253 (by simp))
       have V255' : Arv Z h255 b253 k253 .char (2 : Int32) [(.int z51), (.int (0 : Int32))] (.int (0 : Int32)) := by have q := V255; first | (rw [own_narc hz51] at q; exact q) | (rw [own_i2c hz51] at q; exact q)
       refine own_cs [(.ref b253)] 119 st255 ?_
       refine own_tp (.ref b253) 120 (fun _ q => XS.dup X255.here hx rfl (hb hby at_119) rfl rfl q) ?_
       refine own_tp (.int (1 : Int32)) 121 (fun _ q => XS.iconst X255.here hx rfl (hb hby at_120) q) ?_
       refine own_tp (.int z53) 123 (fun _ q => XS.iload X255.here hx rfl (hb hby at_121) rfl q) ?_
       obtain ⟨cl256, Ar256, q256, S256, Nn256, H256, G256⟩ := (id V255')
       have hin256 : ¬ ((1 : Int32) < 0 ∨ cl256.slots.size ≤ ((1 : Int32)).toNatClampNeg) := inb_of S256 ⟨by decide, by decide⟩
       obtain ⟨T257, h257, X257, e257, W257, st257⟩ := stC X255 hx hZ e255 Ar256 (j := (1 : Int32)) hin256 (g := (mkF m 123 L_57 [(.int z53), (.int (1 : Int32)), (.ref b253), (.ref b253)])) rfl rfl (hb hby at_123)
       have V257 := Arv.set Ar256 q256 S256 Nn256 H256 G256 (fits_nar_char _) W257 1 rfl (Nat.le_of_ble_eq_true rfl)
       have N257 := Fr.snoc X257 N255 ge253
       have O257 := Old.wr O255 W257 ge253
       have Z257 : n0 ≤ h257.size := Nat.le_trans Z255 (Nat.le_of_eq W257.size.symm)
       have Wd257 := Wd255.wr W257 (own_safeV hZ.alike V255' (by simp))
       have V257' : Arv Z h257 b253 k253 .char (2 : Int32) [(.int z51), (.int z53)] (.int (0 : Int32)) := by have q := V257; first | (rw [own_narc hz53] at q; exact q) | (rw [own_i2c hz53] at q; exact q)
       refine own_cs [(.ref b253)] 124 st257 ?_
       let L_258 : Array Slot := #[.val (.long q0), .second, .val (.int p1), .val (.int p2), .val (.int z51), .val (.int z53), .val (.int z55), .val (.int ln), .val (.ref b253), .unset, .unset, .unset, .unset, .unset, .unset, .unset]
       refine own_ls L_258 126 (fun _ q => XS.astore X257.here hx rfl (hb hby at_124) rfl rfl (l' := L_258) rfl q) ?_
       refine own_d0 149 (fun _ q => XS.goto X257.here hx rfl (pc0 := 126) (pc' := 149) rfl (hb hby at_126) (by decide) (by decide) q) ?_
       obtain ⟨T259, h259, X259, e259, E259, A259, D259, -, st259⟩ := newO X257 hx hZ hown (w 3 rfl) (w 4 rfl) (w 5 rfl) e257 (g := (mkF m 149 L_258 [])) rfl (hb hby at_149) (by decide) (by decide)
       obtain ⟨b259, g259⟩ : ∃ z, z = h257.size := ⟨_, rfl⟩
       rw [← g259] at A259 D259 st259
       have ge259 : n0 ≤ b259 := Nat.le_trans Z257 (Nat.le_of_eq g259.symm)
       have ne260 : b253 ≠ b259 := Nat.ne_of_lt (Nat.lt_of_lt_of_le V257'.lt (Nat.le_of_eq g259.symm))
       have O259 := Old.ext O257 E259
       have Z259 : n0 ≤ h259.size := Nat.le_trans Z257 E259.1
       have Wd259 := Wd257.ext E259
       have G259 : Safe Z own_EL s.vm h259 b259 := Safe.ext E259 Wd257.chv (Safe.new (Nat.le_of_eq g259.symm))
       have Fvalue_259 : Fld Z h259 b259 "java/lang/String" "value" "[B" .null := D259 (Or.inr (w 18 rfl)) (ty := (.array .byte)) (by decide)
       have Fcoder_259 : Fld Z h259 b259 "java/lang/String" "coder" "B" (.int (0 : Int32)) := D259 (Or.inr (w 19 rfl)) (ty := .byte) (by decide)
       refine own_tp (.ref b259) 152 st259 ?_
       refine own_tp (.ref b259) 153 (fun _ q => XS.dup X259.here hx rfl (hb hby at_152) rfl rfl q) ?_
       refine own_tp (.ref b253) 155 (fun _ q => XS.aload X259.here hx rfl (hb hby at_153) rfl rfl q) ?_
       have f261 := (V257'.ext E259)
       obtain ⟨_, _, ⟨T262, L262, k262, n262⟩, -, X262, ⟨Lc262, hQ262, l262, y262, z262⟩, st262⟩ := X259.specialBack hx (y := own_M52) rfl hown (mvT hZ (w 6 rfl)) (mvT hZ (w 7 rfl)) (mvT hZ (w 8 rfl)) (by decide) (backOf (W := 1) (rm310 l Z a0 hw [] b259 b253 k253 [z51, z53] _ _ h259 n0 (by simp) (by simp) (own_chs2 hz51 hz53) Z259 ge259 (Ne.symm ne260) f261 A259 Fvalue_259 Fcoder_259 G1 US O259) hZ (w 8 rfl) (w 5 rfl) (by decide) (by decide)) (g := (mkF m 155 L_258 [(.ref b253), (.ref b259), (.ref b259)])) rfl (by rw [hml]; rfl) (Steps.refl _) (a := b259) (argsL := [(.ref b253)]) (rest := [(.ref b259)]) (lenOf pd36 rfl) rfl (by show 2 * 0 + _ ≤ _; exact Nat.le_of_eq rfl) (hb hby at_155) (fun _ _ => ⟨rfl, e259, (by decide : 2 + 2 ≤ _), (by decide : 6 + 400 ≤ _)⟩)
       dsimp only [Pt.U, Pt.locs, Pt.cells, Pt.slots] at X262 l262 y262 z262 st262 hQ262
       subst l262 y262 z262
       obtain ⟨rfl, Nq262, Kp262, t262, kb262, cd262, Nn262, vs262, gt262, st_262, A262, Vl262, Cd262, V262, Co262⟩ := hQ262
       have N262 := Fr.app N257 Nq262
       have O262 := Old.keep O259 Kp262 (allS ge259 all0)
       have Z262 : n0 ≤ T262.heap.size := Nat.le_trans Z259 Kp262.1
       have Wd262 := Wd259.keep Kp262 (allS G259 all0)
       have SS262 : own_S Z T262.heap b259 [z51, z53] := ⟨t262, kb262, cd262, Nn262, vs262, A262, Vl262, Cd262, V262, Co262⟩
       refine own_csR [(.ref b259)] 158 st262 ?_
       let L_263 : Array Slot := #[.val (.long q0), .second, .val (.int p1), .val (.int p2), .val (.int z51), .val (.int z53), .val (.int z55), .val (.int ln), .val (.ref b253), .val (.ref b259), .unset, .unset, .unset, .unset, .unset, .unset]
       refine own_ls L_263 160 (fun _ q => XS.astore X262.here hx rfl (hb hby at_158) rfl rfl (l' := L_263) rfl q) ?_
       exact kj58 T262 _ s.vm T262.heap (.ref b259) _ (One.val rfl) (X262.more (by decide) (by decide)) N262 rfl Wd262 hown O262 Z262 rfl ⟨b259, rfl, by unfold own_tk; rw [if_neg c234, if_neg c242, if_pos c252]; exact SS262⟩
      ·
       refine own_d2 129 (fun _ q => XS.icmpYes Xj55.here hx rfl (pc0 := 108) (pc' := 129) rfl (hb hby at_108) rfl (feq c252).2 (by decide) (by decide) q) ?_
       refine own_tp (.int (3 : Int32)) 130 (fun _ q => XS.iconst Xj55.here hx rfl (hb hby at_129) q) ?_
       obtain ⟨T264, h264, k264, X264, e264, E264, A264, st264⟩ := newP Xj55 hx hZ (w 2 rfl) ej55 (g := (mkF m 130 L_57 [(.int (3 : Int32))])) rfl (hb hby at_130) rfl (by decide) (cap := 3) (by decide) (by decide) (by decide) (by decide)
       obtain ⟨b264, g264⟩ : ∃ z, z = h0.size := ⟨_, rfl⟩
       rw [← g264] at A264 st264
       have V264 : Arv Z h264 b264 k264 .char (3 : Int32) [(.int (0 : Int32)), (.int (0 : Int32)), (.int (0 : Int32))] (.int (0 : Int32)) := (Arv.new A264 (by decide)).pad (pad_rep [] (.int (0 : Int32)) 3)
       have ge264 : n0 ≤ b264 := Nat.le_trans Z0 (Nat.le_of_eq g264.symm)
       have O264 := Old.ext O0 E264
       have Z264 : n0 ≤ h264.size := Nat.le_trans Z0 E264.1
       have Wd264 := Wd0.ext E264
       refine own_t1 (.ref b264) 132 st264 ?_
       refine own_tp (.ref b264) 133 (fun _ q => XS.dup X264.here hx rfl (hb hby at_132) rfl rfl q) ?_
       refine own_tp (.int (0 : Int32)) 134 (fun _ q => XS.iconst X264.here hx rfl (hb hby at_133) q) ?_
       refine own_tp (.int z51) 136 (fun _ q => XS.iload X264.here hx rfl (hb hby at_134) rfl q) ?_
       obtain ⟨cl265, Ar265, q265, S265, Nn265, H265, G265⟩ := (id V264)
       have hin265 : ¬ ((0 : Int32) < 0 ∨ cl265.slots.size ≤ ((0 : Int32)).toNatClampNeg) := inb_of S265 ⟨by decide, by decide⟩
       obtain ⟨T266, h266, X266, e266, W266, st266⟩ := stC X264 hx hZ e264 Ar265 (j := (0 : Int32)) hin265 (g := (mkF m 136 L_57 [(.int z51), (.int (0 : Int32)), (.ref b264), (.ref b264)])) rfl rfl (hb hby at_136)
       have V266 := Arv.set Ar265 q265 S265 Nn265 H265 G265 (fits_nar_char _) W266 0 rfl (Nat.le_of_ble_eq_true rfl)
       have N266 := Fr.snoc X266 Nj55 ge264
       have O266 := Old.wr O264 W266 ge264
       have Z266 : n0 ≤ h266.size := Nat.le_trans Z264 (Nat.le_of_eq W266.size.symm)
       have Wd266 := Wd264.wr W266 (own_safeV hZ.alike V264 (by simp))
       have V266' : Arv Z h266 b264 k264 .char (3 : Int32) [(.int z51), (.int (0 : Int32)), (.int (0 : Int32))] (.int (0 : Int32)) := by have q := V266; first | (rw [own_narc hz51] at q; exact q) | (rw [own_i2c hz51] at q; exact q)
       refine own_cs [(.ref b264)] 137 st266 ?_
       refine own_tp (.ref b264) 138 (fun _ q => XS.dup X266.here hx rfl (hb hby at_137) rfl rfl q) ?_
       refine own_tp (.int (1 : Int32)) 139 (fun _ q => XS.iconst X266.here hx rfl (hb hby at_138) q) ?_
       refine own_tp (.int z53) 141 (fun _ q => XS.iload X266.here hx rfl (hb hby at_139) rfl q) ?_
       obtain ⟨cl267, Ar267, q267, S267, Nn267, H267, G267⟩ := (id V266')
       have hin267 : ¬ ((1 : Int32) < 0 ∨ cl267.slots.size ≤ ((1 : Int32)).toNatClampNeg) := inb_of S267 ⟨by decide, by decide⟩
       obtain ⟨T268, h268, X268, e268, W268, st268⟩ := stC X266 hx hZ e266 Ar267 (j := (1 : Int32)) hin267 (g := (mkF m 141 L_57 [(.int z53), (.int (1 : Int32)), (.ref b264), (.ref b264)])) rfl rfl (hb hby at_141)
       have V268 := Arv.set Ar267 q267 S267 Nn267 H267 G267 (fits_nar_char _) W268 1 rfl (Nat.le_of_ble_eq_true rfl)
       have N268 := Fr.snoc X268 N266 ge264
       have O268 := Old.wr O266 W268 ge264
       have Z268 : n0 ≤ h268.size := Nat.le_trans Z266 (Nat.le_of_eq W268.size.symm)
       have Wd268 := Wd266.wr W268 (own_safeV hZ.alike V266' (by simp))
       have V268' : Arv Z h268 b264 k264 .char (3 : Int32) [(.int z51), (.int z53), (.int (0 : Int32))] (.int (0 : Int32)) := by have q := V268; first | (rw [own_narc hz53] at q; exact q) | (rw [own_i2c hz53] at q; exact q)
       refine own_cs [(.ref b264)] 142 st268 ?_
       refine own_tp (.ref b264) 143 (fun _ q => XS.dup X268.here hx rfl (hb hby at_142) rfl rfl q) ?_
       refine own_tp (.int (2 : Int32)) 144 (fun _ q => XS.iconst X268.here hx rfl (hb hby at_143) q) ?_
       refine own_tp (.int z55) 146 (fun _ q => XS.iload X268.here hx rfl (hb hby at_144) rfl q) ?_
       obtain ⟨cl269, Ar269, q269, S269, Nn269, H269, G269⟩ := (id V268')
       have hin269 : ¬ ((2 : Int32) < 0 ∨ cl269.slots.size ≤ ((2 : Int32)).toNatClampNeg) := inb_of S269 ⟨by decide, by decide⟩
       obtain ⟨T270, h270, X270, e270, W270, st270⟩ := stC X268 hx hZ e268 Ar269 (j := (2 : Int32)) hin269 (g := (mkF m 146 L_57 [(.int z55), (.int (2 : Int32)), (.ref b264), (.ref b264)])) rfl rfl (hb hby at_146)
       have V270 := Arv.set Ar269 q269 S269 Nn269 H269 G269 (fits_nar_char _) W270 2 rfl (Nat.le_of_ble_eq_true rfl)
       have N270 := Fr.snoc X270 N268 ge264
       have O270 := Old.wr O268 W270 ge264
       have Z270 : n0 ≤ h270.size := Nat.le_trans Z268 (Nat.le_of_eq W270.size.symm)
       have Wd270 := Wd268.wr W270 (own_safeV hZ.alike V268' (by simp))
       have V270' : Arv Z h270 b264 k264 .char (3 : Int32) [(.int z51), (.int z53), (.int z55)] (.int (0 : Int32)) := by have q := V270; first | (rw [own_narc hz55] at q; exact q) | (rw [own_i2c hz55] at q; exact q)
       refine own_cs [(.ref b264)] 147 st270 ?_
       let L_271 : Array Slot := #[.val (.long q0), .second, .val (.int p1), .val (.int p2), .val (.int z51), .val (.int z53), .val (.int z55), .val (.int ln), .val (.ref b264), .unset, .unset, .unset, .unset, .unset, .unset, .unset]
       refine own_ls L_271 149 (fun _ q => XS.astore X270.here hx rfl (hb hby at_147) rfl rfl (l' := L_271) rfl q) ?_
       obtain ⟨T272, h272, X272, e272, E272, A272, D272, -, st272⟩ := newO X270 hx hZ hown (w 3 rfl) (w 4 rfl) (w 5 rfl) e270 (g := (mkF m 149 L_271 [])) rfl (hb hby at_149) (by decide) (by decide)
       obtain ⟨b272, g272⟩ : ∃ z, z = h270.size := ⟨_, rfl⟩
       rw [← g272] at A272 D272 st272
       have ge272 : n0 ≤ b272 := Nat.le_trans Z270 (Nat.le_of_eq g272.symm)
       have ne273 : b264 ≠ b272 := Nat.ne_of_lt (Nat.lt_of_lt_of_le V270'.lt (Nat.le_of_eq g272.symm))
       have O272 := Old.ext O270 E272
       have Z272 : n0 ≤ h272.size := Nat.le_trans Z270 E272.1
       have Wd272 := Wd270.ext E272
       have G272 : Safe Z own_EL s.vm h272 b272 := Safe.ext E272 Wd270.chv (Safe.new (Nat.le_of_eq g272.symm))
       have Fvalue_272 : Fld Z h272 b272 "java/lang/String" "value" "[B" .null := D272 (Or.inr (w 18 rfl)) (ty := (.array .byte)) (by decide)
       have Fcoder_272 : Fld Z h272 b272 "java/lang/String" "coder" "B" (.int (0 : Int32)) := D272 (Or.inr (w 19 rfl)) (ty := .byte) (by decide)
       refine own_tp (.ref b272) 152 st272 ?_
       refine own_tp (.ref b272) 153 (fun _ q => XS.dup X272.here hx rfl (hb hby at_152) rfl rfl q) ?_
       refine own_tp (.ref b264) 155 (fun _ q => XS.aload X272.here hx rfl (hb hby at_153) rfl rfl q) ?_
       obtain ⟨Lz274, Xz274, Nz274⟩ : ∃ Lz, Stand p l e room_1 (s.setVm s.vm) m #[(.long q0), (.int p1), (.int p2)] below meth c T272 Lz 2 7 ∧ Fr n0 Lz := ⟨_, X272, N270⟩
       have f275 := (V270'.ext E272)
       obtain ⟨_, _, ⟨T276, L276, k276, n276⟩, -, X276, ⟨Lc276, hQ276, l276, y276, z276⟩, st276⟩ := Xz274.specialBack hx (y := own_M52) rfl hown (mvT hZ (w 6 rfl)) (mvT hZ (w 7 rfl)) (mvT hZ (w 8 rfl)) (by decide) (backOf (W := 1) (rm310 l Z a0 hw [] b272 b264 k264 [z51, z53, z55] _ _ h272 n0 (by simp) (by simp) (own_chs3 hz51 hz53 hz55) Z272 ge272 (Ne.symm ne273) f275 A272 Fvalue_272 Fcoder_272 G1 US O272) hZ (w 8 rfl) (w 5 rfl) (by decide) (by decide)) (g := (mkF m 155 L_271 [(.ref b264), (.ref b272), (.ref b272)])) rfl (by rw [hml]; rfl) (Steps.refl _) (a := b272) (argsL := [(.ref b264)]) (rest := [(.ref b272)]) (lenOf pd36 rfl) rfl (by show 2 * 0 + _ ≤ _; exact Nat.le_of_eq rfl) (hb hby at_155) (fun _ _ => ⟨rfl, e272, (by decide : 2 + 2 ≤ _), (by decide : 7 + 400 ≤ _)⟩)
       dsimp only [Pt.U, Pt.locs, Pt.cells, Pt.slots] at X276 l276 y276 z276 st276 hQ276
       subst l276 y276 z276
       obtain ⟨rfl, Nq276, Kp276, t276, kb276, cd276, Nn276, vs276, gt276, st_276, A276, Vl276, Cd276, V276, Co276⟩ := hQ276
       have N276 := Fr.app Nz274 Nq276
       have O276 := Old.keep O272 Kp276 (allS ge272 all0)
       have Z276 : n0 ≤ T276.heap.size := Nat.le_trans Z272 Kp276.1
       have Wd276 := Wd272.keep Kp276 (allS G272 all0)
       have SS276 : own_S Z T276.heap b272 [z51, z53, z55] := ⟨t276, kb276, cd276, Nn276, vs276, A276, Vl276, Cd276, V276, Co276⟩
       refine own_csR [(.ref b272)] 158 st276 ?_
       let L_277 : Array Slot := #[.val (.long q0), .second, .val (.int p1), .val (.int p2), .val (.int z51), .val (.int z53), .val (.int z55), .val (.int ln), .val (.ref b264), .val (.ref b272), .unset, .unset, .unset, .unset, .unset, .unset]
       refine own_ls L_277 160 (fun _ q => XS.astore X276.here hx rfl (hb hby at_158) rfl rfl (l' := L_277) rfl q) ?_
       exact kj58 T276 _ s.vm T276.heap (.ref b272) _ (One.val rfl) (X276.more (by decide) (by decide)) N276 rfl Wd276 hown O276 Z276 rfl ⟨b272, rfl, by unfold own_tk; rw [if_neg c234, if_neg c242, if_neg c252]; exact SS276⟩
   refine own_tp (.int p1) 44 (fun _ q => XS.iloadN Xj53.here hx rfl (hb hby at_43) rfl q) ?_
   refine own_tp (.int (4 : Int32)) 45 (fun _ q => XS.iconst Xj53.here hx rfl (hb hby at_44) q) ?_
   refine own_t2 (.int (p1 &&& (4 : Int32))) 46 (fun _ q => XS.iand Xj53.here hx rfl (hb hby at_45) rfl q) ?_
   by_cases c278 : (p1 &&& (4 : Int32)) = (0 : Int32)
   ·
    refine own_d1 54 (fun _ q => XS.ifYes Xj53.here hx rfl (pc0 := 46) (pc' := 54) rfl (hb hby at_46) rfl ((if0 _ _).trans (teq c278).1) (by decide) (by decide) q) ?_
    refine own_tp (.long q0) 55 (fun _ q => XS.lloadN Xj53.here hx rfl (hb hby at_54) rfl q) ?_
    refine own_tp (.int (32 : Int32)) 57 (fun _ q => XS.bipush Xj53.here hx rfl (hb hby at_55) q) ?_
    refine own_t2 (.long ((q0.toUInt64 >>> ((32 : Int32) &&& 0x3f).toInt64.toUInt64).toInt64)) 58 (fun _ q => XS.lushr Xj53.here hx rfl (hb hby at_57) rfl q) ?_
    refine own_tp (.long (65535 : Int64)) 61 (fun _ q => Xj53.ldc2Long hx hown (mvT hZ (w 0 rfl)) (g := (mkF m 58 L_54 [(.long ((q0.toUInt64 >>> ((32 : Int32) &&& 0x3f).toInt64.toUInt64).toInt64))])) rfl (hb hby at_58) _ q) ?_
    refine own_t2 (.long (((q0.toUInt64 >>> ((32 : Int32) &&& 0x3f).toInt64.toUInt64).toInt64) &&& (65535 : Int64))) 62 (fun _ q => XS.land Xj53.here hx rfl (hb hby at_61) rfl q) ?_
    refine own_t1 (.int ((((q0.toUInt64 >>> ((32 : Int32) &&& 0x3f).toInt64.toUInt64).toInt64) &&& (65535 : Int64)).toInt32)) 63 (fun _ q => XS.l2i Xj53.here hx rfl (hb hby at_62) rfl q) ?_
    refine own_t1 (.int (((((q0.toUInt64 >>> ((32 : Int32) &&& 0x3f).toInt64.toUInt64).toInt64) &&& (65535 : Int64)).toInt32).toUInt32.toUInt16.toUInt32.toInt32)) 64 (fun _ q => XS.i2c Xj53.here hx rfl (hb hby at_63) rfl q) ?_
    exact kj55 Tj53 _ (((((q0.toUInt64 >>> ((32 : Int32) &&& 0x3f).toInt64.toUInt64).toInt64) &&& (65535 : Int64)).toInt32).toUInt32.toUInt16.toUInt32.toInt32) Xj53 Nj53 ej53 ((own_c16 _))
   ·
    refine own_d1 49 (fun _ q => XS.ifNo Xj53.here hx rfl (hb hby at_46) rfl ((if0 _ _).trans (feq c278).1) q) ?_
    refine own_tp (.int (65533 : Int32)) 51 (fun _ q => Xj53.ldcInt hx hown (mvT hZ (w 1 rfl)) (g := (mkF m 49 L_54 [])) rfl (hb hby at_49) _ q) ?_
    refine own_d0 64 (fun _ q => XS.goto Xj53.here hx rfl (pc0 := 51) (pc' := 64) rfl (hb hby at_51) (by decide) (by decide) q) ?_
    exact kj55 Tj53 _ (65533 : Int32) Xj53 Nj53 ej53 (⟨by decide, by decide⟩)
  refine own_tp (.int p1) 21 (fun _ q => XS.iloadN Xj51.here hx rfl (hb hby at_20) rfl q) ?_
  refine own_tp (.int (2 : Int32)) 22 (fun _ q => XS.iconst Xj51.here hx rfl (hb hby at_21) q) ?_
  refine own_t2 (.int (p1 &&& (2 : Int32))) 23 (fun _ q => XS.iand Xj51.here hx rfl (hb hby at_22) rfl q) ?_
  by_cases c279 : (p1 &&& (2 : Int32)) = (0 : Int32)
  ·
   refine own_d1 31 (fun _ q => XS.ifYes Xj51.here hx rfl (pc0 := 23) (pc' := 31) rfl (hb hby at_23) rfl ((if0 _ _).trans (teq c279).1) (by decide) (by decide) q) ?_
   refine own_tp (.long q0) 32 (fun _ q => XS.lloadN Xj51.here hx rfl (hb hby at_31) rfl q) ?_
   refine own_tp (.int (16 : Int32)) 34 (fun _ q => XS.bipush Xj51.here hx rfl (hb hby at_32) q) ?_
   refine own_t2 (.long ((q0.toUInt64 >>> ((16 : Int32) &&& 0x3f).toInt64.toUInt64).toInt64)) 35 (fun _ q => XS.lushr Xj51.here hx rfl (hb hby at_34) rfl q) ?_
   refine own_tp (.long (65535 : Int64)) 38 (fun _ q => Xj51.ldc2Long hx hown (mvT hZ (w 0 rfl)) (g := (mkF m 35 L_52 [(.long ((q0.toUInt64 >>> ((16 : Int32) &&& 0x3f).toInt64.toUInt64).toInt64))])) rfl (hb hby at_35) _ q) ?_
   refine own_t2 (.long (((q0.toUInt64 >>> ((16 : Int32) &&& 0x3f).toInt64.toUInt64).toInt64) &&& (65535 : Int64))) 39 (fun _ q => XS.land Xj51.here hx rfl (hb hby at_38) rfl q) ?_
   refine own_t1 (.int ((((q0.toUInt64 >>> ((16 : Int32) &&& 0x3f).toInt64.toUInt64).toInt64) &&& (65535 : Int64)).toInt32)) 40 (fun _ q => XS.l2i Xj51.here hx rfl (hb hby at_39) rfl q) ?_
   refine own_t1 (.int (((((q0.toUInt64 >>> ((16 : Int32) &&& 0x3f).toInt64.toUInt64).toInt64) &&& (65535 : Int64)).toInt32).toUInt32.toUInt16.toUInt32.toInt32)) 41 (fun _ q => XS.i2c Xj51.here hx rfl (hb hby at_40) rfl q) ?_
   exact kj53 Tj51 _ (((((q0.toUInt64 >>> ((16 : Int32) &&& 0x3f).toInt64.toUInt64).toInt64) &&& (65535 : Int64)).toInt32).toUInt32.toUInt16.toUInt32.toInt32) Xj51 Nj51 ej51 ((own_c16 _))
  ·
   refine own_d1 26 (fun _ q => XS.ifNo Xj51.here hx rfl (hb hby at_23) rfl ((if0 _ _).trans (feq c279).1) q) ?_
   refine own_tp (.int (65533 : Int32)) 28 (fun _ q => Xj51.ldcInt hx hown (mvT hZ (w 1 rfl)) (g := (mkF m 26 L_52 [])) rfl (hb hby at_26) _ q) ?_
   refine own_d0 41 (fun _ q => XS.goto Xj51.here hx rfl (pc0 := 28) (pc' := 41) rfl (hb hby at_28) (by decide) (by decide) q) ?_
   exact kj53 Tj51 _ (65533 : Int32) Xj51 Nj51 ej51 (⟨by decide, by decide⟩)
 refine own_tp (.int p1) 1 (fun _ q => XS.iloadN X0.here hx rfl (hb hby at_0) rfl q) ?_
 refine own_tp (.int (1 : Int32)) 2 (fun _ q => XS.iconst X0.here hx rfl (hb hby at_1) q) ?_
 refine own_t2 (.int (p1 &&& (1 : Int32))) 3 (fun _ q => XS.iand X0.here hx rfl (hb hby at_2) rfl q) ?_
 by_cases c280 : (p1 &&& (1 : Int32)) = (0 : Int32)
 ·
  refine own_d1 11 (fun _ q => XS.ifYes X0.here hx rfl (pc0 := 3) (pc' := 11) rfl (hb hby at_3) rfl ((if0 _ _).trans (teq c280).1) (by decide) (by decide) q) ?_
  refine own_tp (.long q0) 12 (fun _ q => XS.lloadN X0.here hx rfl (hb hby at_11) rfl q) ?_
  let L_281 : Array Slot := #[.val (.long q0), .second, .val (.int p1), .val (.int p2), .unset, .unset, .unset, .unset, .unset, .unset, .unset, .unset, .unset, .unset, .unset, .unset]
  refine own_tp (.long (65535 : Int64)) 15 (fun _ q => X0.ldc2Long hx hown (mvT hZ (w 0 rfl)) (g := (mkF m 12 L_281 [(.long q0)])) rfl (hb hby at_12) _ q) ?_
  refine own_t2 (.long (q0 &&& (65535 : Int64))) 16 (fun _ q => XS.land X0.here hx rfl (hb hby at_15) rfl q) ?_
  refine own_t1 (.int ((q0 &&& (65535 : Int64)).toInt32)) 17 (fun _ q => XS.l2i X0.here hx rfl (hb hby at_16) rfl q) ?_
  refine own_t1 (.int (((q0 &&& (65535 : Int64)).toInt32).toUInt32.toUInt16.toUInt32.toInt32)) 18 (fun _ q => XS.i2c X0.here hx rfl (hb hby at_17) rfl q) ?_
  exact kj51 s₁ _ (((q0 &&& (65535 : Int64)).toInt32).toUInt32.toUInt16.toUInt32.toInt32) X0 N0 e0 ((own_c16 _))
 ·
  refine own_d1 6 (fun _ q => XS.ifNo X0.here hx rfl (hb hby at_3) rfl ((if0 _ _).trans (feq c280).1) q) ?_
  let L_282 : Array Slot := #[.val (.long q0), .second, .val (.int p1), .val (.int p2), .unset, .unset, .unset, .unset, .unset, .unset, .unset, .unset, .unset, .unset, .unset, .unset]
  refine own_tp (.int (65533 : Int32)) 8 (fun _ q => X0.ldcInt hx hown (mvT hZ (w 1 rfl)) (g := (mkF m 6 L_282 [])) rfl (hb hby at_6) _ q) ?_
  refine own_d0 18 (fun _ q => XS.goto X0.here hx rfl (pc0 := 8) (pc' := 18) rfl (hb hby at_8) (by decide) (by decide) q) ?_
  exact kj51 s₁ _ (65533 : Int32) X0 N0 e0 (⟨by decide, by decide⟩)

theorem comes_1 {Post : Tables → Env → Array Value → State → Outcome → State → Prop} (hpost : ∀ tb e args s v u, (limb_1_1.after args s (.returned v) u = true ∧ limb_1_2.after args s (.returned v) u = true ∧ True) → ReturnedEndW s (.returned v) u (Jvm.fieldLocs frame_1_writes args s ++ Jvm.arrayLocs frame_1_arrays args s ++ Jvm.staticLocs frame_1_statics s) 56 6528 → Post tb e args s (.returned v) u) :
    ArmFor flags0 classFile x code maxLocals ret World_1 tables_1 room_1 Calls_1 rest_1 Pre_1 Post := by
  intro l hfl _ _ p e ha hc hk s m args below hf hA hF happ hP
  obtain ⟨hcalls, hrest, hpre⟩ := hP
  obtain ⟨-, -, -, hnamed, -, -, -, hat⟩ := (Spec.applies_iff hf).mp happ
  obtain ⟨hg, hn⟩ := and_e (Cond.before_iff.mp (show (Jvm.Cond.and given_1 narrow_1).before args s = true from hpre))
  obtain ⟨hcount, hg0⟩ := and_e hg
  obtain ⟨hv0, hg1⟩ := and_e hg0
  obtain ⟨hv1, hg2⟩ := and_e hg1
  obtain ⟨w0, w1, w2, rfl⟩ : ∃ w0 w1 w2 : Value, args = #[w0, w1, w2] := by
    have hs : args.size = 3 := by simpa [Cond.value, given_1] using hcount
    obtain ⟨L⟩ := args
    match L, hs with
    | [w0, w1, w2], _ => exact ⟨w0, w1, w2, rfl⟩
  have hw := fun d (hd : d ∈ tables_1) => atoms_spec (ws := Jvm.Cond.code x code maxLocals ret :: tables_1) hat d (List.mem_cons_of_mem _ hd)
  have hfit : Fit s := fun {y c} hc i hi => by
    obtain ⟨ha, rfl⟩ := Array.getElem?_eq_some_iff.mp hc
    have q := List.all_eq_true.mp ((Array.all_eq_true_iff_forall_mem.mp hF) _ (Array.getElem_mem ha)) i (List.mem_range.mpr hi)
    simpa [Array.getElem?_eq_getElem hi] using q
  obtain ⟨i0, ei0⟩ := isL_v hv0
  obtain rfl : w0 = (.long i0) := Option.some.inj ei0
  obtain ⟨i1, ei1⟩ := is_v hv1
  obtain rfl : w1 = (.int i1) := Option.some.inj ei1
  obtain ⟨i2, ei2⟩ := is_v hg2
  obtain rfl : w2 = (.int i2) := Option.some.inj ei2
  obtain ⟨hsets, hown0⟩ := atoms_of _ (rest_1_c_eq ▸ (show rest_1_c.before _ s = true from hrest))
  obtain ⟨G1, eG1⟩ := is_v (Cond.before_iff.mp (hsets _ (List.mem_of_getElem? (i := 1) rfl)))
  have Sc : Sta s s.heap "java/lang/String" "COMPACT_STRINGS" "Z" (.int G1) := Sta.start eG1 (Or.inl (hsets _ (List.mem_of_getElem? (i := 0) rfl)))
  have P5 : ¬ (G1 = (0 : Int32)) := gotF (Cond.eq_ints eG1 (Term.int_eval (0))) (not_v (Cond.before_iff.mp (hsets _ (List.mem_of_getElem? (i := 2) rfl))))
  have hE : EW s _ own_EL := EW.cons (own_w hw 16 rfl) (by decide) (EW.cons (own_w hw 273 rfl) (by decide) (EW.cons (own_w hw 274 rfl) (by decide) (EW.cons (own_w hw 94 rfl) (by decide) (EW.nil))))
  have hC : CHv s own_EL s.vm s.heap := CHv.start hE (fun p hp => by first | exact hcalls.1 p hp | exact hcalls.1 p ((by decide +kernel : ∀ p ∈ own_EL, p ∈ consts_1) p hp)) (hsets _ (List.mem_of_getElem? (i := 2) rfl)) (own_w hw 17 rfl) (own_w hw 4 rfl)
  have S12 : Sta s s.heap "java/lang/StringUTF16" "$assertionsDisabled" "Z" (.int (1 : Int32)) := own_stI (hsets _ (List.mem_of_getElem? (i := 12) rfl)) (hsets _ (List.mem_of_getElem? (i := 11) rfl))
  have S15 : Sta s s.heap "java/lang/StringUTF16" "HI_BYTE_SHIFT" "I" (.int (0 : Int32)) := own_stI (hsets _ (List.mem_of_getElem? (i := 15) rfl)) (hsets _ (List.mem_of_getElem? (i := 14) rfl))
  have S18 : Sta s s.heap "java/lang/StringUTF16" "LO_BYTE_SHIFT" "I" (.int (8 : Int32)) := own_stI (hsets _ (List.mem_of_getElem? (i := 18) rfl)) (hsets _ (List.mem_of_getElem? (i := 17) rfl))
  have US : own_US s G1 := ⟨P5, Sc, S12, S15, S18⟩
  obtain ⟨G3, eG3, rG3⟩ := isR_v (Cond.before_iff.mp (hsets _ (List.mem_of_getElem? (i := 8) rfl)))
  have Sf : Sta s s.heap "jdk/internal/util/Preconditions" "SIOOBE_FORMATTER" "Ljava/util/function/BiFunction;" G3 := Sta.start eG3 (Or.inl (hsets _ (List.mem_of_getElem? (i := 7) rfl)))
  obtain ⟨n, o, h1, h2, h3, _, L, rfl, ⟨rfl, N⟩, -, hq⟩ := rm0 l s _ hw tables_1 i0 i1 i2 s.heap s.heap.size hE (Nat.le_refl _) G1 US (Old.start s) G3 rG3 Sf p e ha hc hk s m _ below hf ((Spec.applies_iff_loose hf).mp happ).1 ⟨rfl, State.Warmed39.refl s, rfl, hC⟩ trivial
  refine ⟨n, _, h1, h2, h3, hpost _ _ _ _ _ _ ⟨Cond.after_iff.mpr rfl, Cond.after_iff.mpr (eq_i res_at (Term.int_eval (1)) rfl), trivial⟩ ⟨hq.1, hq.2.1, hq.2.2.1, (hq.2.2.2.sift fun y hy => Or.inr (N y hy)).mono (by decide) (by decide)⟩⟩
theorem main_1_1 : Claimed_1_1 := comes_1 fun _ _ _ _ _ _ h hF => ⟨h.1, hF⟩
theorem main_1_2 : Claimed_1_2 := comes_1 fun _ _ _ _ _ _ h hF => ⟨h.2.1, hF⟩
end Jvm.Pilot.@@N@@
namespace Jvm.Pilot.@@N@@
open Jvm Jvm.ClassFile Sem Op Lib Jvm.Free Jvm.Stand Jvm.Pilot.@@N@@.Jvm.D
/-! MADE BY PROGRAM (witnessworld.py) out of the Statement's table words and the real class files: 26 classes; the members and pool entries that the words name. The judged class is class 1, her method 1. -/
namespace start1
open Jvm.ClassFile
def u (s : String) : CpInfo := .utf8 (stringToUtf16 s)
/-- a pool by its gaps: so many unusable entries, then the entry; so many at the end -/
def gap : Nat → List CpInfo → List CpInfo
  | 0, r => r
  | n + 1, r => .unusable :: gap n r
def poolList (es : List (Nat × CpInfo)) (last : Nat) : List CpInfo := es.foldr (fun e r => gap e.1 (e.2 :: r)) (gap last [])
def pool (es : List (Nat × CpInfo)) (last : Nat) : Array CpInfo := ⟨poolList es last⟩
def fileOf (pool : Array CpInfo) (this : Nat) (attrs : Array Attribute := #[]) (ms : Array MethodInfo := #[]) (fl : Nat := 33) (sup : Nat := 0) (ifs : Array Nat := #[]) (fds : Array FieldInfo := #[]) : ClassFile where
  minorVersion := 0
  majorVersion := 65
  constantPool := pool
  accessFlags := fl
  thisClass := this
  superClass := sup
  interfaces := ifs
  fields := fds
  methods := ms
  attributes := attrs
def plain (name : String) (sup : Option ClassId) : Class where
  name := name
  kind := .ordinary
  loader := none
  accessFlags := 33
  super := sup
  interfaces := #[]
  cf := none
  fields := #[]
  methods := #[]
  instanceTypes := #[]
  staticTypes := #[]
  resolved := #[]
  callSites := []
  init := .initialized
  statics := none
  mirror := none

def pool0 : Array CpInfo := pool [(5, u "<init>"), (0, u "()V"), (1, .class_ 10), (1, u "java/lang/Object")] 113

def k0c0 : Code := { maxStack := 0, maxLocals := 1, code := object_method_1_code, exceptionTable := #[], attributes := #[] }
def k0m0 : Method := { name := "<init>", desc := "()V", sig := { parameters := [], returnType := none }, accessFlags := 1, code := some k0c0 }
/-- java/lang/Object -/
def k0 : Class := { plain "java/lang/Object" none with
  accessFlags := 33
  interfaces := #[]
  cf := some (fileOf pool0 8 #[] #[{ accessFlags := 1, nameIndex := 5, descriptorIndex := 6, attributes := #[] }] 33 0 #[] #[])
  fields := #[]
  methods := #[k0m0]
  instanceTypes := #[]
  staticTypes := #[]
  resolved := Array.replicate 124 none
  statics := none }

def pool1 : Array CpInfo := pool [(2, .class_ 4), (1, u "java/lang/Object"), (0, u "<init>"), (0, u "()V"), (0, .integer 65533), (0, .long 65535), (1, .class_ 11), (0, u "java/lang/String"), (0, .methodref 10 13), (0, .nameAndType 5 14), (0, u "([C)V"), (0, .integer 65535), (0, .methodref 17 18), (0, .class_ 19), (0, .nameAndType 20 21), (0, u "com/example/kalends/kalends/FileNames"), (0, u "whyNotFound"), (0, u "(Ljava/lang/String;Ljava/lang/String;)Ljava/lang/String;"), (0, .methodref 10 23), (0, .nameAndType 24 25), (0, u "equals"), (0, u "(Ljava/lang/Object;)Z"), (0, .class_ 27), (0, u "com/example/kalends/kalends/FileNamesWhyNotFoundPinLaw"), (2, u "law"), (0, u "(JII)Z")] 5

def k1m0 : Method := { name := "<init>", desc := "()V", sig := { parameters := [], returnType := none }, accessFlags := 1, code := none }
def k1c1 : Code := { maxStack := 6, maxLocals := 16, code := code, exceptionTable := #[], attributes := #[] }
def k1m1 : Method := { name := "law", desc := "(JII)Z", sig := { parameters := [.long, .int, .int], returnType := some .boolean }, accessFlags := 9, code := some k1c1 }
/-- com/example/kalends/kalends/FileNamesWhyNotFoundPinLaw -/
def k1 : Class := { plain "com/example/kalends/kalends/FileNamesWhyNotFoundPinLaw" (some 0) with
  accessFlags := 49
  interfaces := #[]
  cf := some (fileOf pool1 26 #[] #[{ accessFlags := 1, nameIndex := 5, descriptorIndex := 6, attributes := #[] }, { accessFlags := 9, nameIndex := 30, descriptorIndex := 31, attributes := #[] }] 49 2 #[] #[])
  fields := #[]
  methods := #[k1m0, k1m1]
  instanceTypes := #[]
  staticTypes := #[]
  resolved := Array.replicate 37 none
  statics := none }

def pool2 : Array CpInfo := pool [(1, .class_ 2), (0, u "java/io/Serializable"), (0, .class_ 4), (0, u "java/lang/Object")] 2

/-- java/io/Serializable -/
def k2 : Class := { plain "java/io/Serializable" (some 0) with
  accessFlags := 1537
  interfaces := #[]
  cf := some (fileOf pool2 1 #[] #[] 1537 3 #[] #[])
  fields := #[]
  methods := #[]
  instanceTypes := #[]
  staticTypes := #[]
  resolved := Array.replicate 7 none
  statics := none }

def pool3 : Array CpInfo := pool [(1, .class_ 2), (0, u "java/lang/Comparable"), (0, .class_ 4), (0, u "java/lang/Object")] 7

/-- java/lang/Comparable -/
def k3 : Class := { plain "java/lang/Comparable" (some 0) with
  accessFlags := 1537
  interfaces := #[]
  cf := some (fileOf pool3 1 #[] #[] 1537 3 #[] #[])
  fields := #[]
  methods := #[]
  instanceTypes := #[]
  staticTypes := #[]
  resolved := Array.replicate 12 none
  statics := none }

def pool4 : Array CpInfo := pool [(2, .class_ 4), (1, u "java/lang/CharSequence"), (42, .class_ 48), (0, u "java/lang/CharSequence$1CodePointIterator"), (10, .class_ 60), (0, u "java/lang/CharSequence$1CharIterator"), (5, .class_ 67), (0, u "java/lang/Object")] 63

/-- java/lang/CharSequence -/
def k4 : Class := { plain "java/lang/CharSequence" (some 0) with
  accessFlags := 1537
  interfaces := #[]
  cf := some (fileOf pool4 2 #[.nestMembers #[47, 59]] #[] 1537 66 #[] #[])
  fields := #[]
  methods := #[]
  instanceTypes := #[]
  staticTypes := #[]
  resolved := Array.replicate 131 none
  statics := none }

def pool5 : Array CpInfo := pool [(1, .class_ 2), (0, u "java/lang/constant/Constable"), (0, .class_ 4), (0, u "java/lang/Object")] 6

/-- java/lang/constant/Constable -/
def k5 : Class := { plain "java/lang/constant/Constable" (some 0) with
  accessFlags := 1537
  interfaces := #[]
  cf := some (fileOf pool5 1 #[] #[] 1537 3 #[] #[])
  fields := #[]
  methods := #[]
  instanceTypes := #[]
  staticTypes := #[]
  resolved := Array.replicate 11 none
  statics := none }

def pool6 : Array CpInfo := pool [(1, .class_ 2), (0, u "java/lang/constant/ConstantDesc"), (0, .class_ 4), (0, u "java/lang/Object")] 32

/-- java/lang/constant/ConstantDesc -/
def k6 : Class := { plain "java/lang/constant/ConstantDesc" (some 0) with
  accessFlags := 1537
  interfaces := #[]
  cf := some (fileOf pool6 1 #[] #[] 1537 3 #[] #[])
  fields := #[]
  methods := #[]
  instanceTypes := #[]
  staticTypes := #[]
  resolved := Array.replicate 37 none
  statics := none }

def pool7 : Array CpInfo := pool [(1, .methodref 2 3), (0, .class_ 4), (0, .nameAndType 5 6), (0, u "java/lang/Object"), (0, u "<init>"), (0, u "()V"), (0, .string 8), (0, u ""), (0, .fieldref 10 11), (0, .class_ 12), (0, .nameAndType 13 14), (0, u "java/lang/String"), (0, u "value"), (0, u "[B"), (0, .fieldref 10 16), (0, .nameAndType 17 18), (0, u "coder"), (0, u "B"), (2, u "hash"), (0, u "I"), (2, u "hashIsZero"), (0, u "Z"), (0, .methodref 10 28), (0, .nameAndType 5 29), (0, u "([CIILjava/lang/Void;)V"), (6, u "checkBoundsOffCount"), (0, u "(III)I"), (0, .fieldref 10 39), (0, .nameAndType 40 26), (0, u "COMPACT_STRINGS"), (1, .class_ 44), (1, u "java/lang/StringUTF16"), (0, u "compress"), (1, .methodref 42 48), (0, .nameAndType 49 50), (0, u "coderFromArrayLen"), (0, u "([BI)B"), (3, .methodref 55 56), (0, .class_ 57), (0, .nameAndType 58 59), (0, u "java/util/Arrays"), (0, u "copyOfRange"), (0, u "([BII)[B"), (46, .methodref 107 108), (0, .class_ 109), (0, .nameAndType 110 111), (0, u "java/lang/StringLatin1"), (0, u "inflate"), (0, u "([BI[BII)V"), (30, u "()Z"), (34, .methodref 42 178), (0, .nameAndType 45 179), (0, u "([CII)[B"), (13, .class_ 195), (1, u "java/lang/System"), (16, .methodref 193 213), (0, .nameAndType 214 215), (0, u "arraycopy"), (0, u "(Ljava/lang/Object;ILjava/lang/Object;II)V"), (118, u "()I"), (0, .methodref 10 336), (0, .nameAndType 17 337), (0, u "()B"), (2, u "()[B"), (148, .methodref 10 490), (0, .nameAndType 5 491), (0, u "(Ljava/lang/AbstractStringBuilder;Ljava/lang/Void;)V"), (0, .methodref 10 493), (0, .nameAndType 494 142), (0, u "isLatin1"), (10, .methodref 10 506), (0, .nameAndType 507 334), (0, u "length"), (5, u "checkFromToIndex"), (9, u "checkBoundsBeginEnd"), (0, u "(III)V"), (7, u "getBytes"), (8, .methodref 107 542), (0, .nameAndType 543 544), (0, u "equals"), (0, u "([B[B)Z"), (4, .methodref 550 506), (0, .class_ 551), (0, u "java/lang/AbstractStringBuilder"), (0, .methodref 550 553), (0, .nameAndType 554 340), (0, u "getValue"), (18, u "(Ljava/lang/Object;)Z"), (1, .class_ 576), (0, u "java/lang/CharSequence"), (22, u "CASE_INSENSITIVE_ORDER"), (0, u "Ljava/util/Comparator;"), (32, .methodref 10 634), (0, .nameAndType 635 636), (0, u "indexOf"), (0, u "(II)I"), (0, .methodref 107 638), (0, .nameAndType 635 639), (0, u "([BIII)I"), (0, .methodref 42 638), (124, u "(I)I"), (55, u "([BIB)V"), (188, u "([C)V"), (36, .methodref 550 493), (0, .fieldref 550 1049), (0, .nameAndType 1050 26), (0, u "maybeLatin1"), (2, .fieldref 1054 1055), (0, .class_ 1056), (0, .nameAndType 1057 1058), (0, u "jdk/internal/util/Preconditions"), (0, u "SIOOBE_FORMATTER"), (0, u "Ljava/util/function/BiFunction;"), (3, .methodref 1054 1063), (0, .nameAndType 513 1064), (0, u "(IIILjava/util/function/BiFunction;)I"), (0, .methodref 1054 1066), (0, .nameAndType 1067 1064), (0, u "checkFromIndexSize"), (33, u "serialPersistentFields"), (0, u "[Ljava/io/ObjectStreamField;"), (0, .class_ 1104), (0, u "java/lang/String$CaseInsensitiveComparator"), (1, .class_ 1107), (0, u "java/io/Serializable"), (0, .class_ 1109), (0, u "java/lang/Comparable"), (0, .class_ 1111), (0, u "java/lang/constant/Constable"), (0, .class_ 1113), (0, u "java/lang/constant/ConstantDesc"), (2, u "serialVersionUID"), (0, u "J"), (3, u "REPL"), (0, u "C"), (2, u "LATIN1"), (1, u "UTF16"), (105, u "(Ljava/lang/StringBuilder;)V")] 217

def k7m0 : Method := { name := "<init>", desc := "()V", sig := { parameters := [], returnType := none }, accessFlags := 1, code := none }
def k7c1 : Code := { maxStack := 5, maxLocals := 2, code := jdk_42_method_3_code, exceptionTable := #[], attributes := #[] }
def k7m1 : Method := { name := "<init>", desc := "([C)V", sig := { parameters := [(.array .char)], returnType := none }, accessFlags := 1, code := some k7c1 }
def k7c2 : Code := { maxStack := 3, maxLocals := 2, code := jdk_42_method_53_code, exceptionTable := #[], attributes := #[] }
def k7m2 : Method := { name := "<init>", desc := "(Ljava/lang/StringBuilder;)V", sig := { parameters := [(.object "java/lang/StringBuilder")], returnType := none }, accessFlags := 1, code := some k7c2 }
def k7c3 : Code := { maxStack := 2, maxLocals := 1, code := jdk_42_method_54_code, exceptionTable := #[], attributes := #[] }
def k7m3 : Method := { name := "length", desc := "()I", sig := { parameters := [], returnType := some .int }, accessFlags := 1, code := some k7c3 }
def k7c4 : Code := { maxStack := 2, maxLocals := 3, code := jdk_42_method_66_code, exceptionTable := #[], attributes := #[] }
def k7m4 : Method := { name := "equals", desc := "(Ljava/lang/Object;)Z", sig := { parameters := [(.object "java/lang/Object")], returnType := some .boolean }, accessFlags := 1, code := some k7c4 }
def k7c5 : Code := { maxStack := 3, maxLocals := 2, code := jdk_42_method_79_code, exceptionTable := #[], attributes := #[] }
def k7m5 : Method := { name := "indexOf", desc := "(I)I", sig := { parameters := [.int], returnType := some .int }, accessFlags := 1, code := some k7c5 }
def k7c6 : Code := { maxStack := 4, maxLocals := 3, code := jdk_42_method_80_code, exceptionTable := #[], attributes := #[] }
def k7m6 : Method := { name := "indexOf", desc := "(II)I", sig := { parameters := [.int, .int], returnType := some .int }, accessFlags := 1, code := some k7c6 }
def k7c7 : Code := { maxStack := 5, maxLocals := 4, code := jdk_42_method_147_code, exceptionTable := #[], attributes := #[] }
def k7m7 : Method := { name := "getBytes", desc := "([BIB)V", sig := { parameters := [(.array .byte), .int, .byte], returnType := none }, accessFlags := 0, code := some k7c7 }
def k7c8 : Code := { maxStack := 4, maxLocals := 6, code := jdk_42_method_149_code, exceptionTable := #[], attributes := #[] }
def k7m8 : Method := { name := "<init>", desc := "([CIILjava/lang/Void;)V", sig := { parameters := [(.array .char), .int, .int, (.object "java/lang/Void")], returnType := none }, accessFlags := 2, code := some k7c8 }
def k7c9 : Code := { maxStack := 5, maxLocals := 5, code := jdk_42_method_150_code, exceptionTable := #[], attributes := #[] }
def k7m9 : Method := { name := "<init>", desc := "(Ljava/lang/AbstractStringBuilder;Ljava/lang/Void;)V", sig := { parameters := [(.object "java/lang/AbstractStringBuilder"), (.object "java/lang/Void")], returnType := none }, accessFlags := 0, code := some k7c9 }
def k7c10 : Code := { maxStack := 1, maxLocals := 1, code := jdk_42_method_152_code, exceptionTable := #[], attributes := #[] }
def k7m10 : Method := { name := "coder", desc := "()B", sig := { parameters := [], returnType := some .byte }, accessFlags := 0, code := some k7c10 }
def k7c11 : Code := { maxStack := 1, maxLocals := 1, code := jdk_42_method_154_code, exceptionTable := #[], attributes := #[] }
def k7m11 : Method := { name := "isLatin1", desc := "()Z", sig := { parameters := [], returnType := some .boolean }, accessFlags := 0, code := some k7c11 }
def k7c12 : Code := { maxStack := 4, maxLocals := 3, code := jdk_42_method_157_code, exceptionTable := #[], attributes := #[] }
def k7m12 : Method := { name := "checkBoundsOffCount", desc := "(III)I", sig := { parameters := [.int, .int, .int], returnType := some .int }, accessFlags := 8, code := some k7c12 }
def k7c13 : Code := { maxStack := 4, maxLocals := 3, code := jdk_42_method_158_code, exceptionTable := #[], attributes := #[] }
def k7m13 : Method := { name := "checkBoundsBeginEnd", desc := "(III)V", sig := { parameters := [.int, .int, .int], returnType := none }, accessFlags := 8, code := some k7c13 }
/-- java/lang/String -/
def k7 : Class := { plain "java/lang/String" (some 0) with
  accessFlags := 49
  interfaces := #[2, 3, 4, 5, 6]
  cf := some (fileOf pool7 10 #[.nestMembers #[1103]] #[{ accessFlags := 1, nameIndex := 5, descriptorIndex := 6, attributes := #[] }, { accessFlags := 1, nameIndex := 5, descriptorIndex := 1010, attributes := #[] }, { accessFlags := 1, nameIndex := 5, descriptorIndex := 1233, attributes := #[] }, { accessFlags := 1, nameIndex := 507, descriptorIndex := 334, attributes := #[] }, { accessFlags := 1, nameIndex := 543, descriptorIndex := 573, attributes := #[] }, { accessFlags := 1, nameIndex := 635, descriptorIndex := 765, attributes := #[] }, { accessFlags := 1, nameIndex := 635, descriptorIndex := 636, attributes := #[] }, { accessFlags := 0, nameIndex := 532, descriptorIndex := 821, attributes := #[] }, { accessFlags := 2, nameIndex := 5, descriptorIndex := 29, attributes := #[] }, { accessFlags := 0, nameIndex := 5, descriptorIndex := 491, attributes := #[] }, { accessFlags := 0, nameIndex := 17, descriptorIndex := 337, attributes := #[] }, { accessFlags := 0, nameIndex := 494, descriptorIndex := 142, attributes := #[] }, { accessFlags := 8, nameIndex := 36, descriptorIndex := 37, attributes := #[] }, { accessFlags := 8, nameIndex := 523, descriptorIndex := 524, attributes := #[] }] 49 2 #[1106, 1108, 575, 1110, 1112] #[{ accessFlags := 18, nameIndex := 13, descriptorIndex := 14, attributes := #[] }, { accessFlags := 18, nameIndex := 17, descriptorIndex := 18, attributes := #[] }, { accessFlags := 2, nameIndex := 21, descriptorIndex := 22, attributes := #[] }, { accessFlags := 2, nameIndex := 25, descriptorIndex := 26, attributes := #[] }, { accessFlags := 26, nameIndex := 1116, descriptorIndex := 1117, attributes := #[] }, { accessFlags := 24, nameIndex := 40, descriptorIndex := 26, attributes := #[] }, { accessFlags := 26, nameIndex := 1101, descriptorIndex := 1102, attributes := #[] }, { accessFlags := 26, nameIndex := 1121, descriptorIndex := 1122, attributes := #[] }, { accessFlags := 25, nameIndex := 599, descriptorIndex := 600, attributes := #[] }, { accessFlags := 24, nameIndex := 1125, descriptorIndex := 18, attributes := #[] }, { accessFlags := 24, nameIndex := 1127, descriptorIndex := 18, attributes := #[] }])
  fields := #[{ name := "value", type := (.array .byte), accessFlags := 18, slot := 0, constantValue := 0 }, { name := "coder", type := .byte, accessFlags := 18, slot := 1, constantValue := 0 }, { name := "hash", type := .int, accessFlags := 2, slot := 2, constantValue := 0 }, { name := "hashIsZero", type := .boolean, accessFlags := 2, slot := 3, constantValue := 0 }, { name := "serialVersionUID", type := .long, accessFlags := 26, slot := 0, constantValue := 0 }, { name := "COMPACT_STRINGS", type := .boolean, accessFlags := 24, slot := 1, constantValue := 0 }, { name := "serialPersistentFields", type := (.array (.object "java/io/ObjectStreamField")), accessFlags := 26, slot := 2, constantValue := 0 }, { name := "REPL", type := .char, accessFlags := 26, slot := 3, constantValue := 0 }, { name := "CASE_INSENSITIVE_ORDER", type := (.object "java/util/Comparator"), accessFlags := 25, slot := 4, constantValue := 0 }, { name := "LATIN1", type := .byte, accessFlags := 24, slot := 5, constantValue := 0 }, { name := "UTF16", type := .byte, accessFlags := 24, slot := 6, constantValue := 0 }]
  methods := #[k7m0, k7m1, k7m2, k7m3, k7m4, k7m5, k7m6, k7m7, k7m8, k7m9, k7m10, k7m11, k7m12, k7m13]
  instanceTypes := #[(.array .byte), .byte, .int, .boolean]
  staticTypes := #[.long, .boolean, (.array (.object "java/io/ObjectStreamField")), .char, (.object "java/util/Comparator"), .byte, .byte]
  resolved := Array.replicate 1451 none
  statics := some 0 }

def pool8 : Array CpInfo := pool [(3, .class_ 4), (0, u "java/lang/String"), (1, .class_ 8), (1, u "java/lang/Object"), (0, u "<init>"), (0, u "()V"), (0, .methodref 12 13), (0, .class_ 14), (0, .nameAndType 15 16), (0, u "java/lang/StringUTF16"), (0, u "newBytesLength"), (0, u "(I)I"), (3, .integer 1073741823), (23, .fieldref 12 45), (0, .nameAndType 46 47), (0, u "$assertionsDisabled"), (0, u "Z"), (0, .methodref 12 49), (0, .nameAndType 50 51), (0, u "length"), (0, u "([B)I"), (7, .fieldref 12 60), (0, .nameAndType 61 62), (0, u "HI_BYTE_SHIFT"), (0, u "I"), (0, .fieldref 12 64), (0, .nameAndType 65 62), (0, u "LO_BYTE_SHIFT"), (5, .methodref 12 72), (0, .nameAndType 73 74), (0, u "getChar"), (0, u "([BI)C"), (21, .methodref 12 97), (0, .nameAndType 98 99), (0, u "checkBoundsBeginEnd"), (0, u "(II[B)V"), (7, .methodref 12 108), (0, .nameAndType 109 110), (0, u "newBytesFor"), (0, u "(I)[B"), (0, .methodref 12 112), (0, .nameAndType 113 114), (0, u "putChar"), (0, u "([BII)V"), (0, .methodref 12 116), (0, .nameAndType 117 118), (0, u "compress"), (0, u "([CI[BII)I"), (0, .methodref 12 120), (0, .nameAndType 121 122), (0, u "toBytes"), (0, u "([CII)[B"), (17, u "inflate"), (0, u "([BI[BII)V"), (31, .methodref 12 174), (0, .nameAndType 175 99), (0, u "checkBoundsOffCount"), (7, .methodref 184 185), (0, .class_ 186), (0, .nameAndType 187 188), (0, u "java/lang/Math"), (0, u "min"), (0, u "(II)I"), (35, .methodref 184 225), (0, .nameAndType 226 188), (0, u "max"), (0, .integer 65536), (0, .methodref 12 229), (0, .nameAndType 230 231), (0, u "indexOfChar"), (0, u "([BIII)I"), (9, .methodref 3 242), (0, .nameAndType 98 243), (0, u "(III)V"), (0, .methodref 12 245), (0, .nameAndType 246 231), (0, u "indexOfCharUnsafe"), (14, u "coderFromArrayLen"), (0, u "([BI)B"), (5, u "indexOf"), (12, u "(III)I"), (87, .class_ 371), (1, u "java/lang/StringUTF16$LinesSpliterator"), (47, .methodref 3 420), (0, .nameAndType 175 281), (9, u "MAX_LENGTH"), (196, .class_ 628), (0, u "java/lang/StringUTF16$CodePointsSpliterator"), (0, .class_ 630), (0, u "java/lang/StringUTF16$CharsSpliterator")] 4

def k8m0 : Method := { name := "<init>", desc := "()V", sig := { parameters := [], returnType := none }, accessFlags := 0, code := none }
def k8c1 : Code := { maxStack := 1, maxLocals := 1, code := jdk_52_method_2_code, exceptionTable := #[], attributes := #[] }
def k8m1 : Method := { name := "newBytesFor", desc := "(I)[B", sig := { parameters := [.int], returnType := some (.array .byte) }, accessFlags := 9, code := some k8c1 }
def k8c2 : Code := { maxStack := 4, maxLocals := 1, code := jdk_52_method_3_code, exceptionTable := #[], attributes := #[] }
def k8m2 : Method := { name := "newBytesLength", desc := "(I)I", sig := { parameters := [.int], returnType := some .int }, accessFlags := 9, code := some k8c2 }
def k8c3 : Code := { maxStack := 4, maxLocals := 3, code := jdk_52_method_4_code, exceptionTable := #[], attributes := #[] }
def k8m3 : Method := { name := "putChar", desc := "([BII)V", sig := { parameters := [(.array .byte), .int, .int], returnType := none }, accessFlags := 8, code := some k8c3 }
def k8c4 : Code := { maxStack := 3, maxLocals := 2, code := jdk_52_method_5_code, exceptionTable := #[], attributes := #[] }
def k8m4 : Method := { name := "getChar", desc := "([BI)C", sig := { parameters := [(.array .byte), .int], returnType := some .char }, accessFlags := 8, code := some k8c4 }
def k8c5 : Code := { maxStack := 2, maxLocals := 1, code := jdk_52_method_6_code, exceptionTable := #[], attributes := #[] }
def k8m5 : Method := { name := "length", desc := "([B)I", sig := { parameters := [(.array .byte)], returnType := some .int }, accessFlags := 9, code := some k8c5 }
def k8c6 : Code := { maxStack := 4, maxLocals := 5, code := jdk_52_method_14_code, exceptionTable := #[], attributes := #[] }
def k8m6 : Method := { name := "toBytes", desc := "([CII)[B", sig := { parameters := [(.array .char), .int, .int], returnType := some (.array .byte) }, accessFlags := 9, code := some k8c6 }
def k8c7 : Code := { maxStack := 2, maxLocals := 2, code := jdk_52_method_15_code, exceptionTable := #[], attributes := #[] }
def k8m7 : Method := { name := "coderFromArrayLen", desc := "([BI)B", sig := { parameters := [(.array .byte), .int], returnType := some .byte }, accessFlags := 8, code := some k8c7 }
def k8c8 : Code := { maxStack := 5, maxLocals := 6, code := jdk_52_method_16_code, exceptionTable := #[], attributes := #[] }
def k8m8 : Method := { name := "compress", desc := "([CII)[B", sig := { parameters := [(.array .char), .int, .int], returnType := some (.array .byte) }, accessFlags := 9, code := some k8c8 }
def k8c9 : Code := { maxStack := 3, maxLocals := 7, code := jdk_52_method_21_code, exceptionTable := #[], attributes := #[] }
def k8m9 : Method := { name := "compress", desc := "([CI[BII)I", sig := { parameters := [(.array .char), .int, (.array .byte), .int, .int], returnType := some .int }, accessFlags := 9, code := some k8c9 }
def k8c10 : Code := { maxStack := 4, maxLocals := 4, code := jdk_52_method_40_code, exceptionTable := #[], attributes := #[] }
def k8m10 : Method := { name := "indexOf", desc := "([BIII)I", sig := { parameters := [(.array .byte), .int, .int, .int], returnType := some .int }, accessFlags := 9, code := some k8c10 }
def k8c11 : Code := { maxStack := 4, maxLocals := 4, code := jdk_52_method_47_code, exceptionTable := #[], attributes := #[] }
def k8m11 : Method := { name := "indexOfChar", desc := "([BIII)I", sig := { parameters := [(.array .byte), .int, .int, .int], returnType := some .int }, accessFlags := 10, code := some k8c11 }
def k8c12 : Code := { maxStack := 2, maxLocals := 5, code := jdk_52_method_48_code, exceptionTable := #[], attributes := #[] }
def k8m12 : Method := { name := "indexOfCharUnsafe", desc := "([BIII)I", sig := { parameters := [(.array .byte), .int, .int, .int], returnType := some .int }, accessFlags := 10, code := some k8c12 }
def k8c13 : Code := { maxStack := 4, maxLocals := 6, code := jdk_52_method_86_code, exceptionTable := #[], attributes := #[] }
def k8m13 : Method := { name := "inflate", desc := "([BI[BII)V", sig := { parameters := [(.array .byte), .int, (.array .byte), .int, .int], returnType := none }, accessFlags := 9, code := some k8c13 }
def k8c14 : Code := { maxStack := 3, maxLocals := 3, code := jdk_52_method_93_code, exceptionTable := #[], attributes := #[] }
def k8m14 : Method := { name := "checkBoundsBeginEnd", desc := "(II[B)V", sig := { parameters := [.int, .int, (.array .byte)], returnType := none }, accessFlags := 9, code := some k8c14 }
def k8c15 : Code := { maxStack := 3, maxLocals := 3, code := jdk_52_method_94_code, exceptionTable := #[], attributes := #[] }
def k8m15 : Method := { name := "checkBoundsOffCount", desc := "(II[B)V", sig := { parameters := [.int, .int, (.array .byte)], returnType := none }, accessFlags := 9, code := some k8c15 }
/-- java/lang/StringUTF16 -/
def k8 : Class := { plain "java/lang/StringUTF16" (some 0) with
  accessFlags := 48
  interfaces := #[]
  cf := some (fileOf pool8 12 #[.nestMembers #[627, 629, 369]] #[{ accessFlags := 0, nameIndex := 9, descriptorIndex := 10, attributes := #[] }, { accessFlags := 9, nameIndex := 109, descriptorIndex := 110, attributes := #[] }, { accessFlags := 9, nameIndex := 15, descriptorIndex := 16, attributes := #[] }, { accessFlags := 8, nameIndex := 113, descriptorIndex := 114, attributes := #[] }, { accessFlags := 8, nameIndex := 73, descriptorIndex := 74, attributes := #[] }, { accessFlags := 9, nameIndex := 50, descriptorIndex := 51, attributes := #[] }, { accessFlags := 9, nameIndex := 121, descriptorIndex := 122, attributes := #[] }, { accessFlags := 8, nameIndex := 261, descriptorIndex := 262, attributes := #[] }, { accessFlags := 9, nameIndex := 117, descriptorIndex := 122, attributes := #[] }, { accessFlags := 9, nameIndex := 117, descriptorIndex := 118, attributes := #[] }, { accessFlags := 9, nameIndex := 268, descriptorIndex := 231, attributes := #[] }, { accessFlags := 10, nameIndex := 230, descriptorIndex := 231, attributes := #[] }, { accessFlags := 10, nameIndex := 246, descriptorIndex := 231, attributes := #[] }, { accessFlags := 9, nameIndex := 140, descriptorIndex := 141, attributes := #[] }, { accessFlags := 9, nameIndex := 98, descriptorIndex := 99, attributes := #[] }, { accessFlags := 9, nameIndex := 175, descriptorIndex := 99, attributes := #[] }] 48 6 #[] #[{ accessFlags := 26, nameIndex := 61, descriptorIndex := 62, attributes := #[] }, { accessFlags := 26, nameIndex := 65, descriptorIndex := 62, attributes := #[] }, { accessFlags := 24, nameIndex := 430, descriptorIndex := 62, attributes := #[] }, { accessFlags := 4120, nameIndex := 46, descriptorIndex := 47, attributes := #[] }])
  fields := #[{ name := "HI_BYTE_SHIFT", type := .int, accessFlags := 26, slot := 0, constantValue := 0 }, { name := "LO_BYTE_SHIFT", type := .int, accessFlags := 26, slot := 1, constantValue := 0 }, { name := "MAX_LENGTH", type := .int, accessFlags := 24, slot := 2, constantValue := 0 }, { name := "$assertionsDisabled", type := .boolean, accessFlags := 4120, slot := 3, constantValue := 0 }]
  methods := #[k8m0, k8m1, k8m2, k8m3, k8m4, k8m5, k8m6, k8m7, k8m8, k8m9, k8m10, k8m11, k8m12, k8m13, k8m14, k8m15]
  instanceTypes := #[]
  staticTypes := #[.int, .int, .int, .boolean]
  resolved := Array.replicate 635 none
  statics := some 1 }

def pool9 : Array CpInfo := pool [(2, .class_ 4), (0, .nameAndType 5 6), (0, u "java/lang/Object"), (0, u "<init>"), (0, u "()V"), (0, .methodref 8 9), (0, .class_ 10), (0, .nameAndType 11 12), (0, u "com/example/kalends/kalends/FileNames"), (0, u "undecoded"), (0, u "(Ljava/lang/String;)Z"), (0, .class_ 14), (0, u "java/lang/StringBuilder"), (0, .methodref 13 3), (0, .string 17), (0, u "its name holds bytes that the locale's character set cannot decode, so no "), (0, .methodref 13 19), (0, .nameAndType 20 21), (0, u "append"), (0, u "(Ljava/lang/String;)Ljava/lang/StringBuilder;"), (0, .string 23), (0, u " can be opened by it"), (0, .methodref 13 25), (0, .nameAndType 26 27), (0, u "toString"), (0, u "()Ljava/lang/String;"), (0, .string 29), (0, u "there is no such "), (7, .integer 65533), (0, .methodref 39 40), (0, .class_ 41), (0, .nameAndType 42 43), (0, u "java/lang/String"), (0, u "indexOf"), (0, u "(I)I"), (0, u "UNDECODED_BYTE"), (0, u "C"), (3, u "whyNotFound"), (0, u "(Ljava/lang/String;Ljava/lang/String;)Ljava/lang/String;")] 5

def k9m0 : Method := { name := "<init>", desc := "()V", sig := { parameters := [], returnType := none }, accessFlags := 2, code := none }
def k9c1 : Code := { maxStack := 2, maxLocals := 2, code := prog_30_method_2_code, exceptionTable := #[], attributes := #[] }
def k9m1 : Method := { name := "whyNotFound", desc := "(Ljava/lang/String;Ljava/lang/String;)Ljava/lang/String;", sig := { parameters := [(.object "java/lang/String"), (.object "java/lang/String")], returnType := some (.object "java/lang/String") }, accessFlags := 9, code := some k9c1 }
def k9c2 : Code := { maxStack := 2, maxLocals := 1, code := prog_30_method_4_code, exceptionTable := #[], attributes := #[] }
def k9m2 : Method := { name := "undecoded", desc := "(Ljava/lang/String;)Z", sig := { parameters := [(.object "java/lang/String")], returnType := some .boolean }, accessFlags := 10, code := some k9c2 }
/-- com/example/kalends/kalends/FileNames -/
def k9 : Class := { plain "com/example/kalends/kalends/FileNames" (some 0) with
  accessFlags := 33
  interfaces := #[]
  cf := some (fileOf pool9 8 #[] #[{ accessFlags := 2, nameIndex := 5, descriptorIndex := 6, attributes := #[] }, { accessFlags := 9, nameIndex := 49, descriptorIndex := 50, attributes := #[] }, { accessFlags := 10, nameIndex := 11, descriptorIndex := 12, attributes := #[] }] 33 2 #[] #[{ accessFlags := 26, nameIndex := 44, descriptorIndex := 45, attributes := #[] }])
  fields := #[{ name := "UNDECODED_BYTE", type := .char, accessFlags := 26, slot := 0, constantValue := 0 }]
  methods := #[k9m0, k9m1, k9m2]
  instanceTypes := #[]
  staticTypes := #[.char]
  resolved := Array.replicate 56 none
  statics := none }

def pool10 : Array CpInfo := pool [(4, .class_ 6), (1, u "java/lang/Object"), (0, u "<init>"), (0, u "()V"), (5, .class_ 16), (1, u "java/lang/StringLatin1"), (0, u "inflate"), (2, .class_ 22), (1, u "java/lang/StringUTF16"), (3, .nameAndType 17 27), (0, u "([BI[BII)V"), (60, .methodref 14 89), (0, .nameAndType 90 91), (0, u "canEncode"), (0, u "(I)Z"), (6, u "([BIII)I"), (2, u "indexOf"), (19, u "$assertionsDisabled"), (0, u "Z"), (98, .class_ 223), (1, u "java/lang/StringLatin1$LinesSpliterator"), (16, .methodref 20 26), (40, u "equals"), (0, u "([B[B)Z"), (107, .class_ 391), (0, u "java/lang/StringLatin1$CharsSpliterator")] 3

def k10m0 : Method := { name := "<init>", desc := "()V", sig := { parameters := [], returnType := none }, accessFlags := 0, code := none }
def k10c1 : Code := { maxStack := 2, maxLocals := 1, code := jdk_43_method_4_code, exceptionTable := #[], attributes := #[] }
def k10m1 : Method := { name := "canEncode", desc := "(I)Z", sig := { parameters := [.int], returnType := some .boolean }, accessFlags := 9, code := some k10c1 }
def k10c2 : Code := { maxStack := 3, maxLocals := 3, code := jdk_43_method_13_code, exceptionTable := #[], attributes := #[] }
def k10m2 : Method := { name := "equals", desc := "([B[B)Z", sig := { parameters := [(.array .byte), (.array .byte)], returnType := some .boolean }, accessFlags := 9, code := some k10c2 }
def k10c3 : Code := { maxStack := 4, maxLocals := 4, code := jdk_43_method_22_code, exceptionTable := #[], attributes := #[] }
def k10m3 : Method := { name := "indexOf", desc := "([BIII)I", sig := { parameters := [(.array .byte), .int, .int, .int], returnType := some .int }, accessFlags := 9, code := some k10c3 }
def k10c4 : Code := { maxStack := 5, maxLocals := 5, code := jdk_43_method_50_code, exceptionTable := #[], attributes := #[] }
def k10m4 : Method := { name := "inflate", desc := "([BI[BII)V", sig := { parameters := [(.array .byte), .int, (.array .byte), .int, .int], returnType := none }, accessFlags := 9, code := some k10c4 }
/-- java/lang/StringLatin1 -/
def k10 : Class := { plain "java/lang/StringLatin1" (some 0) with
  accessFlags := 48
  interfaces := #[]
  cf := some (fileOf pool10 14 #[.nestMembers #[390, 221]] #[{ accessFlags := 0, nameIndex := 7, descriptorIndex := 8, attributes := #[] }, { accessFlags := 9, nameIndex := 90, descriptorIndex := 91, attributes := #[] }, { accessFlags := 9, nameIndex := 281, descriptorIndex := 282, attributes := #[] }, { accessFlags := 9, nameIndex := 101, descriptorIndex := 98, attributes := #[] }, { accessFlags := 9, nameIndex := 17, descriptorIndex := 27, attributes := #[] }] 48 4 #[] #[{ accessFlags := 4120, nameIndex := 121, descriptorIndex := 122, attributes := #[] }])
  fields := #[{ name := "$assertionsDisabled", type := .boolean, accessFlags := 4120, slot := 0, constantValue := 0 }]
  methods := #[k10m0, k10m1, k10m2, k10m3, k10m4]
  instanceTypes := #[]
  staticTypes := #[.boolean]
  resolved := Array.replicate 395 none
  statics := none }

def pool11 : Array CpInfo := pool [(1, .class_ 2), (0, u "java/lang/Appendable"), (0, .class_ 4), (0, u "java/lang/Object")] 9

/-- java/lang/Appendable -/
def k11 : Class := { plain "java/lang/Appendable" (some 0) with
  accessFlags := 1537
  interfaces := #[]
  cf := some (fileOf pool11 1 #[] #[] 1537 3 #[] #[])
  fields := #[]
  methods := #[]
  instanceTypes := #[]
  staticTypes := #[]
  resolved := Array.replicate 14 none
  statics := none }

def pool12 : Array CpInfo := pool [(1, .class_ 2), (0, u "java/lang/String"), (0, .methodref 4 5), (0, .class_ 6), (0, .nameAndType 7 8), (0, u "java/lang/Object"), (0, u "<init>"), (0, u "()V"), (1, .class_ 12), (1, u "java/lang/AbstractStringBuilder"), (0, u "EMPTYVALUE"), (0, u "[B"), (0, .fieldref 10 16), (0, .nameAndType 17 14), (0, u "value"), (0, .fieldref 1 19), (0, .nameAndType 20 21), (0, u "COMPACT_STRINGS"), (0, u "Z"), (0, .fieldref 10 23), (0, .nameAndType 24 25), (0, u "coder"), (0, u "B"), (0, .methodref 27 28), (0, .class_ 29), (0, .nameAndType 30 31), (0, u "java/lang/StringUTF16"), (0, u "newBytesFor"), (0, u "(I)[B"), (0, .methodref 1 33), (0, .nameAndType 34 35), (0, u "length"), (0, u "()I"), (3, .integer 2147483647), (0, .methodref 1 41), (0, .nameAndType 24 42), (0, u "()B"), (2, u "append"), (0, u "(Ljava/lang/String;)Ljava/lang/AbstractStringBuilder;"), (1, .class_ 49), (0, u "java/lang/CharSequence"), (19, u "(Ljava/lang/String;)V"), (5, u "maybeLatin1"), (3, .fieldref 10 80), (0, .nameAndType 81 82), (0, u "count"), (0, u "I"), (0, .methodref 10 84), (0, .nameAndType 85 86), (0, u "isLatin1"), (0, u "()Z"), (1, .class_ 90), (1, u "java/lang/StringLatin1"), (9, .methodref 10 101), (0, .nameAndType 102 103), (0, u "ensureCapacityInternal"), (0, u "(I)V"), (0, .methodref 10 105), (0, .nameAndType 106 107), (0, u "newCapacity"), (0, u "(I)I"), (0, .methodref 109 110), (0, .class_ 111), (0, .nameAndType 112 113), (0, u "java/util/Arrays"), (0, u "copyOf"), (0, u "([BI)[B"), (0, .methodref 115 116), (0, .class_ 117), (0, .nameAndType 118 119), (0, u "jdk/internal/util/ArraysSupport"), (0, u "newLength"), (0, u "(III)I"), (5, .methodref 88 126), (0, .nameAndType 127 128), (0, u "inflate"), (0, u "([BI[BII)V"), (66, .methodref 10 196), (0, .nameAndType 127 8), (11, .methodref 10 209), (0, .nameAndType 210 211), (0, u "putStringAt"), (0, u "(ILjava/lang/String;)V"), (5, u "inflateIfNeededFor"), (2, .nameAndType 221 222), (0, u "getBytes"), (0, u "([BIB)V"), (174, .methodref 10 398), (0, .nameAndType 217 69), (0, .methodref 1 220), (3, u "()[B"), (40, .class_ 445), (0, u "java/lang/Appendable"), (106, u "getValue")] 56

def k12m0 : Method := { name := "<init>", desc := "()V", sig := { parameters := [], returnType := none }, accessFlags := 0, code := none }
def k12c1 : Code := { maxStack := 2, maxLocals := 2, code := jdk_68_method_2_code, exceptionTable := #[], attributes := #[] }
def k12m1 : Method := { name := "<init>", desc := "(I)V", sig := { parameters := [.int], returnType := none }, accessFlags := 0, code := some k12c1 }
def k12c2 : Code := { maxStack := 1, maxLocals := 1, code := jdk_68_method_6_code, exceptionTable := #[], attributes := #[] }
def k12m2 : Method := { name := "length", desc := "()I", sig := { parameters := [], returnType := some .int }, accessFlags := 1, code := some k12c2 }
def k12c3 : Code := { maxStack := 4, maxLocals := 3, code := jdk_68_method_9_code, exceptionTable := #[], attributes := #[] }
def k12m3 : Method := { name := "ensureCapacityInternal", desc := "(I)V", sig := { parameters := [.int], returnType := none }, accessFlags := 2, code := some k12c3 }
def k12c4 : Code := { maxStack := 5, maxLocals := 6, code := jdk_68_method_10_code, exceptionTable := #[], attributes := #[] }
def k12m4 : Method := { name := "newCapacity", desc := "(I)I", sig := { parameters := [.int], returnType := some .int }, accessFlags := 2, code := some k12c4 }
def k12c5 : Code := { maxStack := 5, maxLocals := 2, code := jdk_68_method_11_code, exceptionTable := #[], attributes := #[] }
def k12m5 : Method := { name := "inflate", desc := "()V", sig := { parameters := [], returnType := none }, accessFlags := 2, code := some k12c5 }
def k12c6 : Code := { maxStack := 3, maxLocals := 3, code := jdk_68_method_22_code, exceptionTable := #[], attributes := #[] }
def k12m6 : Method := { name := "append", desc := "(Ljava/lang/String;)Ljava/lang/AbstractStringBuilder;", sig := { parameters := [(.object "java/lang/String")], returnType := some (.object "java/lang/AbstractStringBuilder") }, accessFlags := 1, code := some k12c6 }
def k12c7 : Code := { maxStack := 1, maxLocals := 1, code := jdk_68_method_64_code, exceptionTable := #[], attributes := #[] }
def k12m7 : Method := { name := "getValue", desc := "()[B", sig := { parameters := [], returnType := some (.array .byte) }, accessFlags := 16, code := some k12c7 }
def k12c8 : Code := { maxStack := 1, maxLocals := 1, code := jdk_68_method_68_code, exceptionTable := #[], attributes := #[] }
def k12m8 : Method := { name := "isLatin1", desc := "()Z", sig := { parameters := [], returnType := some .boolean }, accessFlags := 16, code := some k12c8 }
def k12c9 : Code := { maxStack := 2, maxLocals := 2, code := jdk_68_method_71_code, exceptionTable := #[], attributes := #[] }
def k12m9 : Method := { name := "inflateIfNeededFor", desc := "(Ljava/lang/String;)V", sig := { parameters := [(.object "java/lang/String")], returnType := none }, accessFlags := 2, code := some k12c9 }
def k12c10 : Code := { maxStack := 4, maxLocals := 3, code := jdk_68_method_73_code, exceptionTable := #[], attributes := #[] }
def k12m10 : Method := { name := "putStringAt", desc := "(ILjava/lang/String;)V", sig := { parameters := [.int, (.object "java/lang/String")], returnType := none }, accessFlags := 2, code := some k12c10 }
/-- java/lang/AbstractStringBuilder -/
def k12 : Class := { plain "java/lang/AbstractStringBuilder" (some 0) with
  accessFlags := 1056
  interfaces := #[11, 4]
  cf := some (fileOf pool12 10 #[] #[{ accessFlags := 0, nameIndex := 7, descriptorIndex := 8, attributes := #[] }, { accessFlags := 0, nameIndex := 7, descriptorIndex := 103, attributes := #[] }, { accessFlags := 1, nameIndex := 34, descriptorIndex := 35, attributes := #[] }, { accessFlags := 2, nameIndex := 102, descriptorIndex := 103, attributes := #[] }, { accessFlags := 2, nameIndex := 106, descriptorIndex := 107, attributes := #[] }, { accessFlags := 2, nameIndex := 127, descriptorIndex := 8, attributes := #[] }, { accessFlags := 1, nameIndex := 45, descriptorIndex := 46, attributes := #[] }, { accessFlags := 16, nameIndex := 552, descriptorIndex := 403, attributes := #[] }, { accessFlags := 16, nameIndex := 85, descriptorIndex := 86, attributes := #[] }, { accessFlags := 2, nameIndex := 217, descriptorIndex := 69, attributes := #[] }, { accessFlags := 2, nameIndex := 210, descriptorIndex := 211, attributes := #[] }] 1056 4 #[444, 48] #[{ accessFlags := 0, nameIndex := 17, descriptorIndex := 14, attributes := #[] }, { accessFlags := 0, nameIndex := 24, descriptorIndex := 25, attributes := #[] }, { accessFlags := 0, nameIndex := 75, descriptorIndex := 21, attributes := #[] }, { accessFlags := 0, nameIndex := 81, descriptorIndex := 82, attributes := #[] }, { accessFlags := 26, nameIndex := 13, descriptorIndex := 14, attributes := #[] }])
  fields := #[{ name := "value", type := (.array .byte), accessFlags := 0, slot := 0, constantValue := 0 }, { name := "coder", type := .byte, accessFlags := 0, slot := 1, constantValue := 0 }, { name := "maybeLatin1", type := .boolean, accessFlags := 0, slot := 2, constantValue := 0 }, { name := "count", type := .int, accessFlags := 0, slot := 3, constantValue := 0 }, { name := "EMPTYVALUE", type := (.array .byte), accessFlags := 26, slot := 0, constantValue := 0 }]
  methods := #[k12m0, k12m1, k12m2, k12m3, k12m4, k12m5, k12m6, k12m7, k12m8, k12m9, k12m10]
  instanceTypes := #[(.array .byte), .byte, .boolean, .int]
  staticTypes := #[(.array .byte)]
  resolved := Array.replicate 609 none
  statics := none }

def pool13 : Array CpInfo := pool [(1, .methodref 2 3), (0, .class_ 4), (0, .nameAndType 5 6), (0, u "java/lang/AbstractStringBuilder"), (0, u "<init>"), (0, u "(I)V"), (11, .class_ 20), (1, u "java/lang/String"), (3, .class_ 26), (1, u "java/lang/StringBuilder"), (0, u "append"), (0, u "(Ljava/lang/String;)Ljava/lang/StringBuilder;"), (0, .methodref 2 30), (0, .nameAndType 27 31), (0, u "(Ljava/lang/String;)Ljava/lang/AbstractStringBuilder;"), (105, .methodref 18 138), (0, .nameAndType 5 139), (0, u "(Ljava/lang/StringBuilder;)V"), (5, u "()V"), (10, u "()I"), (186, .methodref 2 344), (0, .nameAndType 345 156), (0, u "length"), (3, .class_ 350), (0, u "java/lang/Appendable"), (0, .class_ 352), (0, u "java/io/Serializable"), (0, .class_ 354), (0, u "java/lang/Comparable"), (0, .class_ 356), (0, u "java/lang/CharSequence"), (0, u "serialVersionUID"), (0, u "J"), (40, u "toString"), (0, u "()Ljava/lang/String;")] 21

def k13c0 : Code := { maxStack := 2, maxLocals := 1, code := jdk_67_method_1_code, exceptionTable := #[], attributes := #[] }
def k13m0 : Method := { name := "<init>", desc := "()V", sig := { parameters := [], returnType := none }, accessFlags := 1, code := some k13c0 }
def k13c1 : Code := { maxStack := 2, maxLocals := 2, code := jdk_67_method_7_code, exceptionTable := #[], attributes := #[] }
def k13m1 : Method := { name := "append", desc := "(Ljava/lang/String;)Ljava/lang/StringBuilder;", sig := { parameters := [(.object "java/lang/String")], returnType := some (.object "java/lang/StringBuilder") }, accessFlags := 1, code := some k13c1 }
def k13c2 : Code := { maxStack := 3, maxLocals := 1, code := jdk_67_method_42_code, exceptionTable := #[], attributes := #[] }
def k13m2 : Method := { name := "toString", desc := "()Ljava/lang/String;", sig := { parameters := [], returnType := some (.object "java/lang/String") }, accessFlags := 1, code := some k13c2 }
def k13c3 : Code := { maxStack := 1, maxLocals := 1, code := jdk_67_method_93_code, exceptionTable := #[], attributes := #[] }
def k13m3 : Method := { name := "length", desc := "()I", sig := { parameters := [], returnType := some .int }, accessFlags := 4161, code := some k13c3 }
/-- java/lang/StringBuilder -/
def k13 : Class := { plain "java/lang/StringBuilder" (some 12) with
  accessFlags := 49
  interfaces := #[11, 2, 3, 4]
  cf := some (fileOf pool13 24 #[] #[{ accessFlags := 1, nameIndex := 5, descriptorIndex := 145, attributes := #[] }, { accessFlags := 1, nameIndex := 27, descriptorIndex := 28, attributes := #[] }, { accessFlags := 1, nameIndex := 399, descriptorIndex := 400, attributes := #[] }, { accessFlags := 4161, nameIndex := 345, descriptorIndex := 156, attributes := #[] }] 49 2 #[349, 351, 353, 355] #[{ accessFlags := 24, nameIndex := 357, descriptorIndex := 358, attributes := #[] }])
  fields := #[{ name := "serialVersionUID", type := .long, accessFlags := 24, slot := 0, constantValue := 0 }]
  methods := #[k13m0, k13m1, k13m2, k13m3]
  instanceTypes := #[(.array .byte), .byte, .boolean, .int]
  staticTypes := #[.long]
  resolved := Array.replicate 422 none
  statics := none }

def pool14 : Array CpInfo := pool [(9, u "<init>"), (6, .class_ 18), (1, u "java/lang/Object"), (0, u "()V"), (1, .class_ 23), (1, u "jdk/internal/util/ArraysSupport"), (0, u "LOG2_ARRAY_LONG_INDEX_SCALE"), (0, u "I"), (2, u "U"), (0, u "Ljdk/internal/misc/Unsafe;"), (8, u "BIG_ENDIAN"), (0, u "Z"), (8, u "LOG2_BYTE_BIT_SIZE"), (4, u "LOG2_ARRAY_INT_INDEX_SCALE"), (54, u "JLA"), (0, u "Ljdk/internal/access/JavaLangAccess;"), (11, u "LOG2_ARRAY_BOOLEAN_INDEX_SCALE"), (9, u "LOG2_ARRAY_BYTE_INDEX_SCALE"), (5, u "LOG2_ARRAY_CHAR_INDEX_SCALE"), (5, u "LOG2_ARRAY_SHORT_INDEX_SCALE"), (18, u "LOG2_ARRAY_FLOAT_INDEX_SCALE"), (24, u "LOG2_ARRAY_DOUBLE_INDEX_SCALE"), (6, .methodref 195 196), (0, .class_ 197), (0, .nameAndType 198 199), (0, u "java/lang/Math"), (0, u "max"), (0, u "(II)I"), (0, .integer 2147483639), (76, u "T_BOOLEAN"), (2, u "T_CHAR"), (1, u "T_FLOAT"), (1, u "T_DOUBLE"), (1, u "T_BYTE"), (1, u "T_SHORT"), (1, u "T_INT"), (1, u "T_LONG"), (1, u "SOFT_MAX_ARRAY_LENGTH"), (56, u "newLength"), (0, u "(III)I")] 25

def k14m0 : Method := { name := "<init>", desc := "()V", sig := { parameters := [], returnType := none }, accessFlags := 2, code := none }
def k14c1 : Code := { maxStack := 3, maxLocals := 4, code := jdk_48_method_27_code, exceptionTable := #[], attributes := #[] }
def k14m1 : Method := { name := "newLength", desc := "(III)I", sig := { parameters := [.int, .int, .int], returnType := some .int }, accessFlags := 9, code := some k14c1 }
/-- jdk/internal/util/ArraysSupport -/
def k14 : Class := { plain "jdk/internal/util/ArraysSupport" (some 0) with
  accessFlags := 33
  interfaces := #[]
  cf := some (fileOf pool14 21 #[] #[{ accessFlags := 2, nameIndex := 9, descriptorIndex := 19, attributes := #[] }, { accessFlags := 9, nameIndex := 351, descriptorIndex := 352, attributes := #[] }] 33 16 #[] #[{ accessFlags := 24, nameIndex := 28, descriptorIndex := 29, attributes := #[] }, { accessFlags := 26, nameIndex := 38, descriptorIndex := 39, attributes := #[] }, { accessFlags := 25, nameIndex := 121, descriptorIndex := 25, attributes := #[] }, { accessFlags := 25, nameIndex := 131, descriptorIndex := 25, attributes := #[] }, { accessFlags := 25, nameIndex := 137, descriptorIndex := 25, attributes := #[] }, { accessFlags := 25, nameIndex := 143, descriptorIndex := 25, attributes := #[] }, { accessFlags := 25, nameIndex := 53, descriptorIndex := 25, attributes := #[] }, { accessFlags := 25, nameIndex := 24, descriptorIndex := 25, attributes := #[] }, { accessFlags := 25, nameIndex := 162, descriptorIndex := 25, attributes := #[] }, { accessFlags := 25, nameIndex := 187, descriptorIndex := 25, attributes := #[] }, { accessFlags := 26, nameIndex := 48, descriptorIndex := 25, attributes := #[] }, { accessFlags := 25, nameIndex := 277, descriptorIndex := 25, attributes := #[] }, { accessFlags := 25, nameIndex := 280, descriptorIndex := 25, attributes := #[] }, { accessFlags := 25, nameIndex := 282, descriptorIndex := 25, attributes := #[] }, { accessFlags := 25, nameIndex := 284, descriptorIndex := 25, attributes := #[] }, { accessFlags := 25, nameIndex := 286, descriptorIndex := 25, attributes := #[] }, { accessFlags := 25, nameIndex := 288, descriptorIndex := 25, attributes := #[] }, { accessFlags := 25, nameIndex := 290, descriptorIndex := 25, attributes := #[] }, { accessFlags := 25, nameIndex := 292, descriptorIndex := 25, attributes := #[] }, { accessFlags := 26, nameIndex := 108, descriptorIndex := 109, attributes := #[] }, { accessFlags := 25, nameIndex := 294, descriptorIndex := 25, attributes := #[] }])
  fields := #[{ name := "U", type := (.object "jdk/internal/misc/Unsafe"), accessFlags := 24, slot := 0, constantValue := 0 }, { name := "BIG_ENDIAN", type := .boolean, accessFlags := 26, slot := 1, constantValue := 0 }, { name := "LOG2_ARRAY_BOOLEAN_INDEX_SCALE", type := .int, accessFlags := 25, slot := 2, constantValue := 0 }, { name := "LOG2_ARRAY_BYTE_INDEX_SCALE", type := .int, accessFlags := 25, slot := 3, constantValue := 0 }, { name := "LOG2_ARRAY_CHAR_INDEX_SCALE", type := .int, accessFlags := 25, slot := 4, constantValue := 0 }, { name := "LOG2_ARRAY_SHORT_INDEX_SCALE", type := .int, accessFlags := 25, slot := 5, constantValue := 0 }, { name := "LOG2_ARRAY_INT_INDEX_SCALE", type := .int, accessFlags := 25, slot := 6, constantValue := 0 }, { name := "LOG2_ARRAY_LONG_INDEX_SCALE", type := .int, accessFlags := 25, slot := 7, constantValue := 0 }, { name := "LOG2_ARRAY_FLOAT_INDEX_SCALE", type := .int, accessFlags := 25, slot := 8, constantValue := 0 }, { name := "LOG2_ARRAY_DOUBLE_INDEX_SCALE", type := .int, accessFlags := 25, slot := 9, constantValue := 0 }, { name := "LOG2_BYTE_BIT_SIZE", type := .int, accessFlags := 26, slot := 10, constantValue := 0 }, { name := "T_BOOLEAN", type := .int, accessFlags := 25, slot := 11, constantValue := 0 }, { name := "T_CHAR", type := .int, accessFlags := 25, slot := 12, constantValue := 0 }, { name := "T_FLOAT", type := .int, accessFlags := 25, slot := 13, constantValue := 0 }, { name := "T_DOUBLE", type := .int, accessFlags := 25, slot := 14, constantValue := 0 }, { name := "T_BYTE", type := .int, accessFlags := 25, slot := 15, constantValue := 0 }, { name := "T_SHORT", type := .int, accessFlags := 25, slot := 16, constantValue := 0 }, { name := "T_INT", type := .int, accessFlags := 25, slot := 17, constantValue := 0 }, { name := "T_LONG", type := .int, accessFlags := 25, slot := 18, constantValue := 0 }, { name := "JLA", type := (.object "jdk/internal/access/JavaLangAccess"), accessFlags := 26, slot := 19, constantValue := 0 }, { name := "SOFT_MAX_ARRAY_LENGTH", type := .int, accessFlags := 25, slot := 20, constantValue := 0 }]
  methods := #[k14m0, k14m1]
  instanceTypes := #[]
  staticTypes := #[(.object "jdk/internal/misc/Unsafe"), .boolean, .int, .int, .int, .int, .int, .int, .int, .int, .int, .int, .int, .int, .int, .int, .int, .int, .int, (.object "jdk/internal/access/JavaLangAccess"), .int]
  resolved := Array.replicate 378 none
  statics := none }

def pool15 : Array CpInfo := pool [(1, .class_ 2), (0, u "java/lang/Math"), (1, .class_ 6), (1, u "java/lang/Object"), (0, u "<init>"), (0, u "()V"), (89, .class_ 100), (1, u "java/lang/Math$RandomNumberGeneratorHolder"), (71, u "negativeZeroFloatBits"), (0, u "J"), (2, u "negativeZeroDoubleBits"), (21, u "max"), (2, u "min"), (43, u "$assertionsDisabled"), (0, u "Z"), (88, u "(II)I"), (2, u "twoToTheDoubleScaleDown"), (0, u "D"), (4, u "twoToTheDoubleScaleUp"), (9, u "E"), (3, u "PI"), (2, u "TAU"), (2, u "DEGREES_TO_RADIANS"), (0, u "RADIANS_TO_DEGREES")] 94

def k15m0 : Method := { name := "<init>", desc := "()V", sig := { parameters := [], returnType := none }, accessFlags := 2, code := none }
def k15c1 : Code := { maxStack := 2, maxLocals := 2, code := jdk_29_method_65_code, exceptionTable := #[], attributes := #[] }
def k15m1 : Method := { name := "max", desc := "(II)I", sig := { parameters := [.int, .int], returnType := some .int }, accessFlags := 9, code := some k15c1 }
def k15c2 : Code := { maxStack := 2, maxLocals := 2, code := jdk_29_method_69_code, exceptionTable := #[], attributes := #[] }
def k15m2 : Method := { name := "min", desc := "(II)I", sig := { parameters := [.int, .int], returnType := some .int }, accessFlags := 9, code := some k15c2 }
/-- java/lang/Math -/
def k15 : Class := { plain "java/lang/Math" (some 0) with
  accessFlags := 49
  interfaces := #[]
  cf := some (fileOf pool15 1 #[.nestMembers #[98]] #[{ accessFlags := 2, nameIndex := 7, descriptorIndex := 8, attributes := #[] }, { accessFlags := 9, nameIndex := 198, descriptorIndex := 335, attributes := #[] }, { accessFlags := 9, nameIndex := 201, descriptorIndex := 335, attributes := #[] }] 49 4 #[] #[{ accessFlags := 25, nameIndex := 354, descriptorIndex := 339, attributes := #[] }, { accessFlags := 25, nameIndex := 358, descriptorIndex := 339, attributes := #[] }, { accessFlags := 25, nameIndex := 361, descriptorIndex := 339, attributes := #[] }, { accessFlags := 26, nameIndex := 364, descriptorIndex := 339, attributes := #[] }, { accessFlags := 26, nameIndex := 365, descriptorIndex := 339, attributes := #[] }, { accessFlags := 26, nameIndex := 172, descriptorIndex := 173, attributes := #[] }, { accessFlags := 26, nameIndex := 176, descriptorIndex := 173, attributes := #[] }, { accessFlags := 8, nameIndex := 344, descriptorIndex := 339, attributes := #[] }, { accessFlags := 8, nameIndex := 338, descriptorIndex := 339, attributes := #[] }, { accessFlags := 4120, nameIndex := 245, descriptorIndex := 246, attributes := #[] }])
  fields := #[{ name := "E", type := .double, accessFlags := 25, slot := 0, constantValue := 0 }, { name := "PI", type := .double, accessFlags := 25, slot := 1, constantValue := 0 }, { name := "TAU", type := .double, accessFlags := 25, slot := 2, constantValue := 0 }, { name := "DEGREES_TO_RADIANS", type := .double, accessFlags := 26, slot := 3, constantValue := 0 }, { name := "RADIANS_TO_DEGREES", type := .double, accessFlags := 26, slot := 4, constantValue := 0 }, { name := "negativeZeroFloatBits", type := .long, accessFlags := 26, slot := 5, constantValue := 0 }, { name := "negativeZeroDoubleBits", type := .long, accessFlags := 26, slot := 6, constantValue := 0 }, { name := "twoToTheDoubleScaleUp", type := .double, accessFlags := 8, slot := 7, constantValue := 0 }, { name := "twoToTheDoubleScaleDown", type := .double, accessFlags := 8, slot := 8, constantValue := 0 }, { name := "$assertionsDisabled", type := .boolean, accessFlags := 4120, slot := 9, constantValue := 0 }]
  methods := #[k15m0, k15m1, k15m2]
  instanceTypes := #[]
  staticTypes := #[.double, .double, .double, .double, .double, .long, .long, .double, .double, .boolean]
  resolved := Array.replicate 460 none
  statics := none }

def pool16 : Array CpInfo := pool [(2, .class_ 4), (1, u "java/lang/Object"), (0, u "<init>"), (0, u "()V"), (7, .class_ 16), (1, u "java/util/Arrays"), (57, .class_ 76), (1, u "java/util/Arrays$NaturalOrder"), (36, .class_ 115), (1, u "java/util/Arrays$LegacyMergeSort"), (1, u "Z"), (21, u "copyOfRange"), (10, .methodref 151 152), (0, .class_ 153), (0, .nameAndType 154 155), (0, u "java/lang/System"), (0, u "arraycopy"), (0, u "(Ljava/lang/Object;ILjava/lang/Object;II)V"), (146, u "copyOf"), (1, .methodref 305 306), (0, .class_ 307), (0, .nameAndType 308 309), (0, u "java/lang/Math"), (0, u "min"), (0, u "(II)I"), (29, .methodref 14 340), (0, .nameAndType 341 342), (0, u "copyOfRangeByte"), (0, u "([BII)[B"), (0, .methodref 14 344), (0, .nameAndType 345 346), (0, u "checkLength"), (0, u "(II)V"), (28, .class_ 376), (0, u "java/util/Arrays$ArrayList"), (68, u "$assertionsDisabled"), (269, u "MIN_ARRAY_SORT_GRAN"), (0, u "I"), (2, u "INSERTIONSORT_THRESHOLD"), (149, u "([BI)[B"), (105, .class_ 976), (0, u "java/util/Arrays$ArrayItr")] 52

def k16m0 : Method := { name := "<init>", desc := "()V", sig := { parameters := [], returnType := none }, accessFlags := 2, code := none }
def k16c1 : Code := { maxStack := 6, maxLocals := 3, code := jdk_65_method_121_code, exceptionTable := #[], attributes := #[] }
def k16m1 : Method := { name := "copyOf", desc := "([BI)[B", sig := { parameters := [(.array .byte), .int], returnType := some (.array .byte) }, accessFlags := 9, code := some k16c1 }
def k16c2 : Code := { maxStack := 4, maxLocals := 2, code := jdk_65_method_131_code, exceptionTable := #[], attributes := #[] }
def k16m2 : Method := { name := "checkLength", desc := "(II)V", sig := { parameters := [.int, .int], returnType := none }, accessFlags := 10, code := some k16c2 }
def k16c3 : Code := { maxStack := 3, maxLocals := 3, code := jdk_65_method_132_code, exceptionTable := #[], attributes := #[] }
def k16m3 : Method := { name := "copyOfRange", desc := "([BII)[B", sig := { parameters := [(.array .byte), .int, .int], returnType := some (.array .byte) }, accessFlags := 9, code := some k16c3 }
def k16c4 : Code := { maxStack := 6, maxLocals := 5, code := jdk_65_method_133_code, exceptionTable := #[], attributes := #[] }
def k16m4 : Method := { name := "copyOfRangeByte", desc := "([BII)[B", sig := { parameters := [(.array .byte), .int, .int], returnType := some (.array .byte) }, accessFlags := 10, code := some k16c4 }
/-- java/util/Arrays -/
def k16 : Class := { plain "java/util/Arrays" (some 0) with
  accessFlags := 49
  interfaces := #[]
  cf := some (fileOf pool16 14 #[.nestMembers #[975, 375, 113, 74]] #[{ accessFlags := 2, nameIndex := 5, descriptorIndex := 6, attributes := #[] }, { accessFlags := 9, nameIndex := 302, descriptorIndex := 869, attributes := #[] }, { accessFlags := 10, nameIndex := 345, descriptorIndex := 346, attributes := #[] }, { accessFlags := 9, nameIndex := 139, descriptorIndex := 342, attributes := #[] }, { accessFlags := 10, nameIndex := 341, descriptorIndex := 342, attributes := #[] }] 49 2 #[] #[{ accessFlags := 26, nameIndex := 715, descriptorIndex := 716, attributes := #[] }, { accessFlags := 26, nameIndex := 719, descriptorIndex := 716, attributes := #[] }, { accessFlags := 4120, nameIndex := 445, descriptorIndex := 117, attributes := #[] }])
  fields := #[{ name := "MIN_ARRAY_SORT_GRAN", type := .int, accessFlags := 26, slot := 0, constantValue := 0 }, { name := "INSERTIONSORT_THRESHOLD", type := .int, accessFlags := 26, slot := 1, constantValue := 0 }, { name := "$assertionsDisabled", type := .boolean, accessFlags := 4120, slot := 2, constantValue := 0 }]
  methods := #[k16m0, k16m1, k16m2, k16m3, k16m4]
  instanceTypes := #[]
  staticTypes := #[.int, .int, .boolean]
  resolved := Array.replicate 1029 none
  statics := none }

def pool17 : Array CpInfo := pool [(2, .class_ 4), (1, u "java/lang/Object"), (0, u "<init>"), (0, u "()V"), (1, .class_ 10), (1, u "java/lang/System"), (0, u "allowSecurityManager"), (0, u "I"), (16, u "cons"), (0, u "Ljava/io/Console;"), (77, .class_ 110), (1, u "java/lang/System$CallersHolder"), (43, u "initialErrStream"), (0, u "Ljava/io/PrintStream;"), (19, u "security"), (0, u "Ljava/lang/SecurityManager;"), (31, .class_ 209), (0, u "java/lang/System$1"), (7, u "props"), (0, u "Ljava/util/Properties;"), (2, u "lineSeparator"), (0, u "Ljava/lang/String;"), (96, .class_ 321), (1, u "java/lang/System$LoggerFinder"), (5, .class_ 328), (0, u "java/lang/System$Logger"), (67, u "err"), (2, u "out"), (91, u "notSupportedJnuEncoding"), (15, u "in"), (17, u "initialIn"), (0, u "Ljava/io/InputStream;"), (35, u "bootLayer"), (0, u "Ljava/lang/ModuleLayer;"), (99, .class_ 664), (0, u "java/lang/System$2"), (9, u "NEVER"), (2, u "MAYBE"), (49, u "arraycopy"), (0, u "(Ljava/lang/Object;ILjava/lang/Object;II)V"), (72, .class_ 802), (0, u "java/lang/System$Logger$Level")] 31

def k17m0 : Method := { name := "<init>", desc := "()V", sig := { parameters := [], returnType := none }, accessFlags := 2, code := none }
def k17m1 : Method := { name := "arraycopy", desc := "(Ljava/lang/Object;ILjava/lang/Object;II)V", sig := { parameters := [(.object "java/lang/Object"), .int, (.object "java/lang/Object"), .int, .int], returnType := none }, accessFlags := 265, code := none }
/-- java/lang/System -/
def k17 : Class := { plain "java/lang/System" (some 0) with
  accessFlags := 49
  interfaces := #[]
  cf := some (fileOf pool17 8 #[.nestMembers #[319, 327, 801, 108, 663, 208]] #[{ accessFlags := 2, nameIndex := 5, descriptorIndex := 6, attributes := #[] }, { accessFlags := 265, nameIndex := 727, descriptorIndex := 728, attributes := #[] }] 49 2 #[] #[{ accessFlags := 25, nameIndex := 507, descriptorIndex := 526, attributes := #[] }, { accessFlags := 25, nameIndex := 399, descriptorIndex := 155, attributes := #[] }, { accessFlags := 25, nameIndex := 396, descriptorIndex := 155, attributes := #[] }, { accessFlags := 10, nameIndex := 525, descriptorIndex := 526, attributes := #[] }, { accessFlags := 26, nameIndex := 674, descriptorIndex := 12, attributes := #[] }, { accessFlags := 26, nameIndex := 677, descriptorIndex := 12, attributes := #[] }, { accessFlags := 10, nameIndex := 11, descriptorIndex := 12, attributes := #[] }, { accessFlags := 74, nameIndex := 175, descriptorIndex := 176, attributes := #[] }, { accessFlags := 10, nameIndex := 491, descriptorIndex := 222, attributes := #[] }, { accessFlags := 74, nameIndex := 29, descriptorIndex := 30, attributes := #[] }, { accessFlags := 74, nameIndex := 154, descriptorIndex := 155, attributes := #[] }, { accessFlags := 10, nameIndex := 217, descriptorIndex := 218, attributes := #[] }, { accessFlags := 10, nameIndex := 221, descriptorIndex := 222, attributes := #[] }, { accessFlags := 8, nameIndex := 562, descriptorIndex := 563, attributes := #[] }])
  fields := #[{ name := "in", type := (.object "java/io/InputStream"), accessFlags := 25, slot := 0, constantValue := 0 }, { name := "out", type := (.object "java/io/PrintStream"), accessFlags := 25, slot := 1, constantValue := 0 }, { name := "err", type := (.object "java/io/PrintStream"), accessFlags := 25, slot := 2, constantValue := 0 }, { name := "initialIn", type := (.object "java/io/InputStream"), accessFlags := 10, slot := 3, constantValue := 0 }, { name := "NEVER", type := .int, accessFlags := 26, slot := 4, constantValue := 0 }, { name := "MAYBE", type := .int, accessFlags := 26, slot := 5, constantValue := 0 }, { name := "allowSecurityManager", type := .int, accessFlags := 10, slot := 6, constantValue := 0 }, { name := "security", type := (.object "java/lang/SecurityManager"), accessFlags := 74, slot := 7, constantValue := 0 }, { name := "notSupportedJnuEncoding", type := (.object "java/lang/String"), accessFlags := 10, slot := 8, constantValue := 0 }, { name := "cons", type := (.object "java/io/Console"), accessFlags := 74, slot := 9, constantValue := 0 }, { name := "initialErrStream", type := (.object "java/io/PrintStream"), accessFlags := 74, slot := 10, constantValue := 0 }, { name := "props", type := (.object "java/util/Properties"), accessFlags := 10, slot := 11, constantValue := 0 }, { name := "lineSeparator", type := (.object "java/lang/String"), accessFlags := 10, slot := 12, constantValue := 0 }, { name := "bootLayer", type := (.object "java/lang/ModuleLayer"), accessFlags := 8, slot := 13, constantValue := 0 }]
  methods := #[k17m0, k17m1]
  instanceTypes := #[]
  staticTypes := #[(.object "java/io/InputStream"), (.object "java/io/PrintStream"), (.object "java/io/PrintStream"), (.object "java/io/InputStream"), .int, .int, .int, (.object "java/lang/SecurityManager"), (.object "java/lang/String"), (.object "java/io/Console"), (.object "java/io/PrintStream"), (.object "java/util/Properties"), (.object "java/lang/String"), (.object "java/lang/ModuleLayer")]
  resolved := Array.replicate 834 none
  statics := none }

def pool18 : Array CpInfo := pool [(2, .class_ 4), (1, u "java/lang/Object"), (0, u "<init>"), (0, u "()V"), (17, .class_ 26), (1, u "jdk/internal/util/Preconditions"), (20, u "checkFromToIndex"), (1, u "checkFromIndexSize"), (5, .class_ 56), (0, u "jdk/internal/util/Preconditions$4"), (57, .class_ 115), (0, u "jdk/internal/util/Preconditions$1"), (7, u "SIOOBE_FORMATTER"), (0, u "Ljava/util/function/BiFunction;"), (0, .class_ 126), (0, u "jdk/internal/util/Preconditions$2"), (3, u "AIOOBE_FORMATTER"), (0, .class_ 132), (0, u "jdk/internal/util/Preconditions$3"), (3, u "IOOBE_FORMATTER"), (46, u "(IIILjava/util/function/BiFunction;)I")] 10

def k18m0 : Method := { name := "<init>", desc := "()V", sig := { parameters := [], returnType := none }, accessFlags := 1, code := none }
def k18c1 : Code := { maxStack := 4, maxLocals := 4, code := jdk_41_method_12_code, exceptionTable := #[], attributes := #[] }
def k18m1 : Method := { name := "checkFromToIndex", desc := "(IIILjava/util/function/BiFunction;)I", sig := { parameters := [.int, .int, .int, (.object "java/util/function/BiFunction")], returnType := some .int }, accessFlags := 9, code := some k18c1 }
def k18c2 : Code := { maxStack := 4, maxLocals := 4, code := jdk_41_method_13_code, exceptionTable := #[], attributes := #[] }
def k18m2 : Method := { name := "checkFromIndexSize", desc := "(IIILjava/util/function/BiFunction;)I", sig := { parameters := [.int, .int, .int, (.object "java/util/function/BiFunction")], returnType := some .int }, accessFlags := 9, code := some k18c2 }
/-- jdk/internal/util/Preconditions -/
def k18 : Class := { plain "jdk/internal/util/Preconditions" (some 0) with
  accessFlags := 33
  interfaces := #[]
  cf := some (fileOf pool18 24 #[.nestMembers #[55, 131, 125, 114]] #[{ accessFlags := 1, nameIndex := 5, descriptorIndex := 6, attributes := #[] }, { accessFlags := 9, nameIndex := 47, descriptorIndex := 183, attributes := #[] }, { accessFlags := 9, nameIndex := 49, descriptorIndex := 183, attributes := #[] }] 33 2 #[] #[{ accessFlags := 25, nameIndex := 123, descriptorIndex := 124, attributes := #[] }, { accessFlags := 25, nameIndex := 130, descriptorIndex := 124, attributes := #[] }, { accessFlags := 25, nameIndex := 136, descriptorIndex := 124, attributes := #[] }])
  fields := #[{ name := "SIOOBE_FORMATTER", type := (.object "java/util/function/BiFunction"), accessFlags := 25, slot := 0, constantValue := 0 }, { name := "AIOOBE_FORMATTER", type := (.object "java/util/function/BiFunction"), accessFlags := 25, slot := 1, constantValue := 0 }, { name := "IOOBE_FORMATTER", type := (.object "java/util/function/BiFunction"), accessFlags := 25, slot := 2, constantValue := 0 }]
  methods := #[k18m0, k18m1, k18m2]
  instanceTypes := #[]
  staticTypes := #[(.object "java/util/function/BiFunction"), (.object "java/util/function/BiFunction"), (.object "java/util/function/BiFunction")]
  resolved := Array.replicate 194 none
  statics := some 2 }

def pool19 : Array CpInfo := pool [(1, u "java/lang/Cloneable"), (0, .class_ 1), (0, u "java/lang/Object"), (0, .class_ 3)] 3

/-- java/lang/Cloneable -/
def k19 : Class := { plain "java/lang/Cloneable" (some 0) with
  accessFlags := 1537
  interfaces := #[]
  cf := some (fileOf pool19 2 #[] #[] 1537 4 #[] #[])
  fields := #[]
  methods := #[]
  instanceTypes := #[]
  staticTypes := #[]
  resolved := Array.replicate 8 none
  statics := none }

/-- the primitive byte -/
def k20 : Class := { plain "byte" none with kind := .primitive 'B', accessFlags := 0x411 }
/-- [B -/
def k21 : Class := { plain "[B" (some 0) with kind := .array 20 .byte, interfaces := #[19, 2], accessFlags := 1041 }

/-- the primitive char -/
def k22 : Class := { plain "char" none with kind := .primitive 'C', accessFlags := 0x411 }
/-- [C -/
def k23 : Class := { plain "[C" (some 0) with kind := .array 22 .char, interfaces := #[19, 2], accessFlags := 1041 }

/-- the primitive int -/
def k24 : Class := { plain "int" none with kind := .primitive 'I', accessFlags := 0x411 }
/-- [I -/
def k25 : Class := { plain "[I" (some 0) with kind := .array 24 .int, interfaces := #[19, 2], accessFlags := 1041 }

def heap : Heap := #[{ cls := 7, slots := #[.long 0, .int 1, .null, .int 0, .null, .int 0, .int 0], vm := .statics 7 },
  { cls := 8, slots := #[.int 0, .int 8, .int 0, .int 1], vm := .statics 8 },
  { cls := 18, slots := #[.null, .null, .null], vm := .statics 18 }]
def classes : Array Class := #[k0, k1, k2, k3, k4, k5, k6, k7, k8, k9, k10, k11, k12, k13, k14, k15, k16, k17, k18, k19, k20, k21, k22, k23, k24, k25]
def interned : List (Array UInt16 × Addr) := []
def slotsUsed : Nat := 14
def theMethod : MethodId := ⟨1, 1⟩
def args0 : Array Value := #[.long 5, .int 7, .int 9]
def aboutOver (below : List Frame) : State where
  vm := { classes := classes, interned := interned.toArray }
  heap := heap
  slotsUsed := slotsUsed
  threads := #[{ frames := .invoking theMethod args0 :: below }]
def below0 : List Frame := [.native { method := ⟨0, 0⟩, args := #[] }]
def about1 : State := aboutOver below0
def p0 : Program := .bare "" "" ""
def e0 : Env := launch0.env 0 0 0
theorem w_frames : about1.frames = Frame.invoking theMethod args0 :: below0 := rfl
set_option maxRecDepth 65536 in
theorem w_args : argsFit about1.vm theMethod args0 = true := by decide +kernel
set_option maxRecDepth 65536 in
theorem w_heap : heapFits about1 = true := by decide +kernel
set_option maxRecDepth 65536 in
theorem w_runnable : about1.curStatus? = some .runnable := by decide +kernel
set_option maxRecDepth 65536 in
theorem w_alone : about1.alone = true := by decide +kernel
set_option maxRecDepth 65536 in
theorem w_named : about1.methodNamed? x = some theMethod := by decide +kernel
set_option maxRecDepth 65536 in
theorem w_hears : about1.hears theMethod below0 = true := by decide +kernel
set_option maxRecDepth 65536 in
theorem w_ripe : about1.ripe theMethod args0 below0 = true := by decide +kernel
theorem w_running : about1.status = .running := rfl
set_option maxRecDepth 65536 in
theorem w_room : about1.hasRoom e0.platform room_1 = true :=
  launch0.hasRoom_least _ room_1 (by decide +kernel) (by decide +kernel) (by decide +kernel) (by decide +kernel) (by decide +kernel) (by decide +kernel)
theorem allAtoms_all (ts : List Jvm.Cond) (a : Array Jvm.Value) (st : Jvm.State) : (allAtoms ts).before a st = ts.all (fun c => c.before a st) := by
  induction ts with
  | nil => rfl
  | cons c t ih =>
    show (Jvm.Cond.and c (allAtoms t)).before a st = _
    rw [Jvm.Cond.before_and, ih, List.all_cons]
def words1 : List Jvm.Cond := Jvm.Cond.code x code maxLocals ret :: tables_1
/-- a 'code' word, met by the world's own term for the bytes: nothing is compared byte by byte -/
theorem code_word {y : MethodName} {bytes : ByteArray} {mx : Nat} {rt : Option FieldType} {a : Array Value} {s : State} {m : MethodId} {meth : Method} {c : Code} (h1 : s.methodNamed? y = some m) (h2 : s.vm.method? m = some meth) (h3 : meth.code = some c) (h4 : c.code = bytes)
    (h5 : (c.maxLocals == mx && c.exceptionTable.isEmpty && decide (c.maxStack ≤ mostOperands) && decide (meth.sig.returnType = rt) && !meth.locks && decide (parseMethodDescriptor y.desc = some meth.sig)) = true) : (Jvm.Cond.code y bytes mx rt).before a s = true := by
  simp only [Bool.and_eq_true, beq_iff_eq, Bool.not_eq_true', decide_eq_true_eq] at h5
  obtain ⟨⟨⟨⟨⟨g1, g2⟩, g3⟩, g4⟩, g5⟩, g6⟩ := h5
  simp [Cond.before, Cond.holds, Cond.value, h1, h2, h3, h4, g1, g2, g3, g4, g5, g6]
def isCode : Jvm.Cond → Bool
  | .code _ _ _ _ => true
  | _ => false
theorem all_split {L : List Jvm.Cond} {P : Jvm.Cond → Bool} (h1 : L.all (fun c => isCode c || P c) = true) (h2 : ∀ c ∈ L.filter isCode, P c = true) : L.all P = true := by
  refine List.all_eq_true.mpr fun c hc => ?_
  have h := List.all_eq_true.mp h1 c hc
  rcases Bool.eq_false_or_eq_true (isCode c) with hi | hi
  · exact h2 c (List.mem_filter.mpr ⟨hc, hi⟩)
  · simpa [hi] using h
set_option maxRecDepth 65536 in
theorem w_c0 : (Jvm.Cond.code x code maxLocals ret).before args0 about1 = true := code_word (m := ⟨1, 1⟩) (meth := k1m1) (c := k1c1) (by decide +kernel) rfl rfl rfl (by decide +kernel)
set_option maxRecDepth 65536 in
theorem w_c1 : (Jvm.Cond.code ({ cls := "java/lang/String", name := "<init>", desc := "([C)V" } : Jvm.MethodName) jdk_42_method_3_code (2 : Nat) (Option.none : Option Jvm.ClassFile.FieldType)).before args0 about1 = true := code_word (m := ⟨7, 1⟩) (meth := k7m1) (c := k7c1) (by decide +kernel) rfl rfl rfl (by decide +kernel)
set_option maxRecDepth 65536 in
theorem w_c2 : (Jvm.Cond.code ({ cls := "java/lang/String", name := "<init>", desc := "([CIILjava/lang/Void;)V" } : Jvm.MethodName) jdk_42_method_149_code (6 : Nat) (Option.none : Option Jvm.ClassFile.FieldType)).before args0 about1 = true := code_word (m := ⟨7, 8⟩) (meth := k7m8) (c := k7c8) (by decide +kernel) rfl rfl rfl (by decide +kernel)
set_option maxRecDepth 65536 in
theorem w_c3 : (Jvm.Cond.code ({ cls := "java/lang/Object", name := "<init>", desc := "()V" } : Jvm.MethodName) object_method_1_code (1 : Nat) (Option.none : Option Jvm.ClassFile.FieldType)).before args0 about1 = true := code_word (m := ⟨0, 0⟩) (meth := k0m0) (c := k0c0) (by decide +kernel) rfl rfl rfl (by decide +kernel)
set_option maxRecDepth 65536 in
theorem w_c4 : (Jvm.Cond.code ({ cls := "java/lang/StringUTF16", name := "compress", desc := "([CII)[B" } : Jvm.MethodName) jdk_52_method_16_code (6 : Nat) (Option.some (Jvm.ClassFile.FieldType.array Jvm.ClassFile.FieldType.byte))).before args0 about1 = true := code_word (m := ⟨8, 8⟩) (meth := k8m8) (c := k8c8) (by decide +kernel) rfl rfl rfl (by decide +kernel)
set_option maxRecDepth 65536 in
theorem w_c5 : (Jvm.Cond.code ({ cls := "java/lang/StringUTF16", name := "compress", desc := "([CI[BII)I" } : Jvm.MethodName) jdk_52_method_21_code (7 : Nat) (Option.some Jvm.ClassFile.FieldType.int)).before args0 about1 = true := code_word (m := ⟨8, 9⟩) (meth := k8m9) (c := k8c9) (by decide +kernel) rfl rfl rfl (by decide +kernel)
set_option maxRecDepth 65536 in
theorem w_c6 : (Jvm.Cond.code ({ cls := "java/lang/StringUTF16", name := "coderFromArrayLen", desc := "([BI)B" } : Jvm.MethodName) jdk_52_method_15_code (2 : Nat) (Option.some Jvm.ClassFile.FieldType.byte)).before args0 about1 = true := code_word (m := ⟨8, 7⟩) (meth := k8m7) (c := k8c7) (by decide +kernel) rfl rfl rfl (by decide +kernel)
set_option maxRecDepth 65536 in
theorem w_c7 : (Jvm.Cond.code ({ cls := "com/example/kalends/kalends/FileNames", name := "whyNotFound", desc := "(Ljava/lang/String;Ljava/lang/String;)Ljava/lang/String;" } : Jvm.MethodName) prog_30_method_2_code (2 : Nat) (Option.some (Jvm.ClassFile.FieldType.object "java/lang/String"))).before args0 about1 = true := code_word (m := ⟨9, 1⟩) (meth := k9m1) (c := k9c1) (by decide +kernel) rfl rfl rfl (by decide +kernel)
set_option maxRecDepth 65536 in
theorem w_c8 : (Jvm.Cond.code ({ cls := "com/example/kalends/kalends/FileNames", name := "undecoded", desc := "(Ljava/lang/String;)Z" } : Jvm.MethodName) prog_30_method_4_code (1 : Nat) (Option.some Jvm.ClassFile.FieldType.boolean)).before args0 about1 = true := code_word (m := ⟨9, 2⟩) (meth := k9m2) (c := k9c2) (by decide +kernel) rfl rfl rfl (by decide +kernel)
set_option maxRecDepth 65536 in
theorem w_c9 : (Jvm.Cond.code ({ cls := "java/lang/String", name := "indexOf", desc := "(I)I" } : Jvm.MethodName) jdk_42_method_79_code (2 : Nat) (Option.some Jvm.ClassFile.FieldType.int)).before args0 about1 = true := code_word (m := ⟨7, 5⟩) (meth := k7m5) (c := k7c5) (by decide +kernel) rfl rfl rfl (by decide +kernel)
set_option maxRecDepth 65536 in
theorem w_c10 : (Jvm.Cond.code ({ cls := "java/lang/String", name := "indexOf", desc := "(II)I" } : Jvm.MethodName) jdk_42_method_80_code (3 : Nat) (Option.some Jvm.ClassFile.FieldType.int)).before args0 about1 = true := code_word (m := ⟨7, 6⟩) (meth := k7m6) (c := k7c6) (by decide +kernel) rfl rfl rfl (by decide +kernel)
set_option maxRecDepth 65536 in
theorem w_c11 : (Jvm.Cond.code ({ cls := "java/lang/String", name := "isLatin1", desc := "()Z" } : Jvm.MethodName) jdk_42_method_154_code (1 : Nat) (Option.some Jvm.ClassFile.FieldType.boolean)).before args0 about1 = true := code_word (m := ⟨7, 11⟩) (meth := k7m11) (c := k7c11) (by decide +kernel) rfl rfl rfl (by decide +kernel)
set_option maxRecDepth 65536 in
theorem w_c12 : (Jvm.Cond.code ({ cls := "java/lang/String", name := "length", desc := "()I" } : Jvm.MethodName) jdk_42_method_54_code (1 : Nat) (Option.some Jvm.ClassFile.FieldType.int)).before args0 about1 = true := code_word (m := ⟨7, 3⟩) (meth := k7m3) (c := k7c3) (by decide +kernel) rfl rfl rfl (by decide +kernel)
set_option maxRecDepth 65536 in
theorem w_c13 : (Jvm.Cond.code ({ cls := "java/lang/String", name := "coder", desc := "()B" } : Jvm.MethodName) jdk_42_method_152_code (1 : Nat) (Option.some Jvm.ClassFile.FieldType.byte)).before args0 about1 = true := code_word (m := ⟨7, 10⟩) (meth := k7m10) (c := k7c10) (by decide +kernel) rfl rfl rfl (by decide +kernel)
set_option maxRecDepth 65536 in
theorem w_c14 : (Jvm.Cond.code ({ cls := "java/lang/StringLatin1", name := "indexOf", desc := "([BIII)I" } : Jvm.MethodName) jdk_43_method_22_code (4 : Nat) (Option.some Jvm.ClassFile.FieldType.int)).before args0 about1 = true := code_word (m := ⟨10, 3⟩) (meth := k10m3) (c := k10c3) (by decide +kernel) rfl rfl rfl (by decide +kernel)
set_option maxRecDepth 65536 in
theorem w_c15 : (Jvm.Cond.code ({ cls := "java/lang/StringLatin1", name := "canEncode", desc := "(I)Z" } : Jvm.MethodName) jdk_43_method_4_code (1 : Nat) (Option.some Jvm.ClassFile.FieldType.boolean)).before args0 about1 = true := code_word (m := ⟨10, 1⟩) (meth := k10m1) (c := k10c1) (by decide +kernel) rfl rfl rfl (by decide +kernel)
set_option maxRecDepth 65536 in
theorem w_c16 : (Jvm.Cond.code ({ cls := "java/lang/StringBuilder", name := "<init>", desc := "()V" } : Jvm.MethodName) jdk_67_method_1_code (1 : Nat) (Option.none : Option Jvm.ClassFile.FieldType)).before args0 about1 = true := code_word (m := ⟨13, 0⟩) (meth := k13m0) (c := k13c0) (by decide +kernel) rfl rfl rfl (by decide +kernel)
set_option maxRecDepth 65536 in
theorem w_c17 : (Jvm.Cond.code ({ cls := "java/lang/AbstractStringBuilder", name := "<init>", desc := "(I)V" } : Jvm.MethodName) jdk_68_method_2_code (2 : Nat) (Option.none : Option Jvm.ClassFile.FieldType)).before args0 about1 = true := code_word (m := ⟨12, 1⟩) (meth := k12m1) (c := k12c1) (by decide +kernel) rfl rfl rfl (by decide +kernel)
set_option maxRecDepth 65536 in
theorem w_c18 : (Jvm.Cond.code ({ cls := "java/lang/StringBuilder", name := "append", desc := "(Ljava/lang/String;)Ljava/lang/StringBuilder;" } : Jvm.MethodName) jdk_67_method_7_code (2 : Nat) (Option.some (Jvm.ClassFile.FieldType.object "java/lang/StringBuilder"))).before args0 about1 = true := code_word (m := ⟨13, 1⟩) (meth := k13m1) (c := k13c1) (by decide +kernel) rfl rfl rfl (by decide +kernel)
set_option maxRecDepth 65536 in
theorem w_c19 : (Jvm.Cond.code ({ cls := "java/lang/AbstractStringBuilder", name := "append", desc := "(Ljava/lang/String;)Ljava/lang/AbstractStringBuilder;" } : Jvm.MethodName) jdk_68_method_22_code (3 : Nat) (Option.some (Jvm.ClassFile.FieldType.object "java/lang/AbstractStringBuilder"))).before args0 about1 = true := code_word (m := ⟨12, 6⟩) (meth := k12m6) (c := k12c6) (by decide +kernel) rfl rfl rfl (by decide +kernel)
set_option maxRecDepth 65536 in
theorem w_c20 : (Jvm.Cond.code ({ cls := "java/lang/AbstractStringBuilder", name := "ensureCapacityInternal", desc := "(I)V" } : Jvm.MethodName) jdk_68_method_9_code (3 : Nat) (Option.none : Option Jvm.ClassFile.FieldType)).before args0 about1 = true := code_word (m := ⟨12, 3⟩) (meth := k12m3) (c := k12c3) (by decide +kernel) rfl rfl rfl (by decide +kernel)
set_option maxRecDepth 65536 in
theorem w_c21 : (Jvm.Cond.code ({ cls := "java/lang/AbstractStringBuilder", name := "newCapacity", desc := "(I)I" } : Jvm.MethodName) jdk_68_method_10_code (6 : Nat) (Option.some Jvm.ClassFile.FieldType.int)).before args0 about1 = true := code_word (m := ⟨12, 4⟩) (meth := k12m4) (c := k12c4) (by decide +kernel) rfl rfl rfl (by decide +kernel)
set_option maxRecDepth 65536 in
theorem w_c22 : (Jvm.Cond.code ({ cls := "jdk/internal/util/ArraysSupport", name := "newLength", desc := "(III)I" } : Jvm.MethodName) jdk_48_method_27_code (4 : Nat) (Option.some Jvm.ClassFile.FieldType.int)).before args0 about1 = true := code_word (m := ⟨14, 1⟩) (meth := k14m1) (c := k14c1) (by decide +kernel) rfl rfl rfl (by decide +kernel)
set_option maxRecDepth 65536 in
theorem w_c23 : (Jvm.Cond.code ({ cls := "java/lang/Math", name := "max", desc := "(II)I" } : Jvm.MethodName) jdk_29_method_65_code (2 : Nat) (Option.some Jvm.ClassFile.FieldType.int)).before args0 about1 = true := code_word (m := ⟨15, 1⟩) (meth := k15m1) (c := k15c1) (by decide +kernel) rfl rfl rfl (by decide +kernel)
set_option maxRecDepth 65536 in
theorem w_c24 : (Jvm.Cond.code ({ cls := "java/util/Arrays", name := "copyOf", desc := "([BI)[B" } : Jvm.MethodName) jdk_65_method_121_code (3 : Nat) (Option.some (Jvm.ClassFile.FieldType.array Jvm.ClassFile.FieldType.byte))).before args0 about1 = true := code_word (m := ⟨16, 1⟩) (meth := k16m1) (c := k16c1) (by decide +kernel) rfl rfl rfl (by decide +kernel)
set_option maxRecDepth 65536 in
theorem w_c25 : (Jvm.Cond.code ({ cls := "java/lang/Math", name := "min", desc := "(II)I" } : Jvm.MethodName) jdk_29_method_69_code (2 : Nat) (Option.some Jvm.ClassFile.FieldType.int)).before args0 about1 = true := code_word (m := ⟨15, 2⟩) (meth := k15m2) (c := k15c2) (by decide +kernel) rfl rfl rfl (by decide +kernel)
set_option maxRecDepth 65536 in
theorem w_c26 : (Jvm.Cond.code ({ cls := "java/lang/AbstractStringBuilder", name := "putStringAt", desc := "(ILjava/lang/String;)V" } : Jvm.MethodName) jdk_68_method_73_code (3 : Nat) (Option.none : Option Jvm.ClassFile.FieldType)).before args0 about1 = true := code_word (m := ⟨12, 10⟩) (meth := k12m10) (c := k12c10) (by decide +kernel) rfl rfl rfl (by decide +kernel)
set_option maxRecDepth 65536 in
theorem w_c27 : (Jvm.Cond.code ({ cls := "java/lang/AbstractStringBuilder", name := "inflateIfNeededFor", desc := "(Ljava/lang/String;)V" } : Jvm.MethodName) jdk_68_method_71_code (2 : Nat) (Option.none : Option Jvm.ClassFile.FieldType)).before args0 about1 = true := code_word (m := ⟨12, 9⟩) (meth := k12m9) (c := k12c9) (by decide +kernel) rfl rfl rfl (by decide +kernel)
set_option maxRecDepth 65536 in
theorem w_c28 : (Jvm.Cond.code ({ cls := "java/lang/String", name := "getBytes", desc := "([BIB)V" } : Jvm.MethodName) jdk_42_method_147_code (4 : Nat) (Option.none : Option Jvm.ClassFile.FieldType)).before args0 about1 = true := code_word (m := ⟨7, 7⟩) (meth := k7m7) (c := k7c7) (by decide +kernel) rfl rfl rfl (by decide +kernel)
set_option maxRecDepth 65536 in
theorem w_c29 : (Jvm.Cond.code ({ cls := "java/lang/StringBuilder", name := "toString", desc := "()Ljava/lang/String;" } : Jvm.MethodName) jdk_67_method_42_code (1 : Nat) (Option.some (Jvm.ClassFile.FieldType.object "java/lang/String"))).before args0 about1 = true := code_word (m := ⟨13, 2⟩) (meth := k13m2) (c := k13c2) (by decide +kernel) rfl rfl rfl (by decide +kernel)
set_option maxRecDepth 65536 in
theorem w_c30 : (Jvm.Cond.code ({ cls := "java/lang/String", name := "<init>", desc := "(Ljava/lang/StringBuilder;)V" } : Jvm.MethodName) jdk_42_method_53_code (2 : Nat) (Option.none : Option Jvm.ClassFile.FieldType)).before args0 about1 = true := code_word (m := ⟨7, 2⟩) (meth := k7m2) (c := k7c2) (by decide +kernel) rfl rfl rfl (by decide +kernel)
set_option maxRecDepth 65536 in
theorem w_c31 : (Jvm.Cond.code ({ cls := "java/lang/String", name := "<init>", desc := "(Ljava/lang/AbstractStringBuilder;Ljava/lang/Void;)V" } : Jvm.MethodName) jdk_42_method_150_code (5 : Nat) (Option.none : Option Jvm.ClassFile.FieldType)).before args0 about1 = true := code_word (m := ⟨7, 9⟩) (meth := k7m9) (c := k7c9) (by decide +kernel) rfl rfl rfl (by decide +kernel)
set_option maxRecDepth 65536 in
theorem w_c32 : (Jvm.Cond.code ({ cls := "java/lang/AbstractStringBuilder", name := "getValue", desc := "()[B" } : Jvm.MethodName) jdk_68_method_64_code (1 : Nat) (Option.some (Jvm.ClassFile.FieldType.array Jvm.ClassFile.FieldType.byte))).before args0 about1 = true := code_word (m := ⟨12, 7⟩) (meth := k12m7) (c := k12c7) (by decide +kernel) rfl rfl rfl (by decide +kernel)
set_option maxRecDepth 65536 in
theorem w_c33 : (Jvm.Cond.code ({ cls := "java/lang/StringBuilder", name := "length", desc := "()I" } : Jvm.MethodName) jdk_67_method_93_code (1 : Nat) (Option.some Jvm.ClassFile.FieldType.int)).before args0 about1 = true := code_word (m := ⟨13, 3⟩) (meth := k13m3) (c := k13c3) (by decide +kernel) rfl rfl rfl (by decide +kernel)
set_option maxRecDepth 65536 in
theorem w_c34 : (Jvm.Cond.code ({ cls := "java/lang/AbstractStringBuilder", name := "length", desc := "()I" } : Jvm.MethodName) jdk_68_method_6_code (1 : Nat) (Option.some Jvm.ClassFile.FieldType.int)).before args0 about1 = true := code_word (m := ⟨12, 2⟩) (meth := k12m2) (c := k12c2) (by decide +kernel) rfl rfl rfl (by decide +kernel)
set_option maxRecDepth 65536 in
theorem w_c35 : (Jvm.Cond.code ({ cls := "java/lang/AbstractStringBuilder", name := "isLatin1", desc := "()Z" } : Jvm.MethodName) jdk_68_method_68_code (1 : Nat) (Option.some Jvm.ClassFile.FieldType.boolean)).before args0 about1 = true := code_word (m := ⟨12, 8⟩) (meth := k12m8) (c := k12c8) (by decide +kernel) rfl rfl rfl (by decide +kernel)
set_option maxRecDepth 65536 in
theorem w_c36 : (Jvm.Cond.code ({ cls := "java/util/Arrays", name := "copyOfRange", desc := "([BII)[B" } : Jvm.MethodName) jdk_65_method_132_code (3 : Nat) (Option.some (Jvm.ClassFile.FieldType.array Jvm.ClassFile.FieldType.byte))).before args0 about1 = true := code_word (m := ⟨16, 3⟩) (meth := k16m3) (c := k16c3) (by decide +kernel) rfl rfl rfl (by decide +kernel)
set_option maxRecDepth 65536 in
theorem w_c37 : (Jvm.Cond.code ({ cls := "java/util/Arrays", name := "copyOfRangeByte", desc := "([BII)[B" } : Jvm.MethodName) jdk_65_method_133_code (5 : Nat) (Option.some (Jvm.ClassFile.FieldType.array Jvm.ClassFile.FieldType.byte))).before args0 about1 = true := code_word (m := ⟨16, 4⟩) (meth := k16m4) (c := k16c4) (by decide +kernel) rfl rfl rfl (by decide +kernel)
set_option maxRecDepth 65536 in
theorem w_c38 : (Jvm.Cond.code ({ cls := "java/util/Arrays", name := "checkLength", desc := "(II)V" } : Jvm.MethodName) jdk_65_method_131_code (2 : Nat) (Option.none : Option Jvm.ClassFile.FieldType)).before args0 about1 = true := code_word (m := ⟨16, 2⟩) (meth := k16m2) (c := k16c2) (by decide +kernel) rfl rfl rfl (by decide +kernel)
set_option maxRecDepth 65536 in
theorem w_c39 : (Jvm.Cond.code ({ cls := "java/lang/String", name := "equals", desc := "(Ljava/lang/Object;)Z" } : Jvm.MethodName) jdk_42_method_66_code (3 : Nat) (Option.some Jvm.ClassFile.FieldType.boolean)).before args0 about1 = true := code_word (m := ⟨7, 4⟩) (meth := k7m4) (c := k7c4) (by decide +kernel) rfl rfl rfl (by decide +kernel)
set_option maxRecDepth 65536 in
theorem w_c40 : (Jvm.Cond.code ({ cls := "java/lang/StringLatin1", name := "equals", desc := "([B[B)Z" } : Jvm.MethodName) jdk_43_method_13_code (3 : Nat) (Option.some Jvm.ClassFile.FieldType.boolean)).before args0 about1 = true := code_word (m := ⟨10, 2⟩) (meth := k10m2) (c := k10c2) (by decide +kernel) rfl rfl rfl (by decide +kernel)
set_option maxRecDepth 65536 in
theorem w_c41 : (Jvm.Cond.code ({ cls := "java/lang/StringUTF16", name := "toBytes", desc := "([CII)[B" } : Jvm.MethodName) jdk_52_method_14_code (5 : Nat) (Option.some (Jvm.ClassFile.FieldType.array Jvm.ClassFile.FieldType.byte))).before args0 about1 = true := code_word (m := ⟨8, 6⟩) (meth := k8m6) (c := k8c6) (by decide +kernel) rfl rfl rfl (by decide +kernel)
set_option maxRecDepth 65536 in
theorem w_c42 : (Jvm.Cond.code ({ cls := "java/lang/StringUTF16", name := "newBytesFor", desc := "(I)[B" } : Jvm.MethodName) jdk_52_method_2_code (1 : Nat) (Option.some (Jvm.ClassFile.FieldType.array Jvm.ClassFile.FieldType.byte))).before args0 about1 = true := code_word (m := ⟨8, 1⟩) (meth := k8m1) (c := k8c1) (by decide +kernel) rfl rfl rfl (by decide +kernel)
set_option maxRecDepth 65536 in
theorem w_c43 : (Jvm.Cond.code ({ cls := "java/lang/StringUTF16", name := "newBytesLength", desc := "(I)I" } : Jvm.MethodName) jdk_52_method_3_code (1 : Nat) (Option.some Jvm.ClassFile.FieldType.int)).before args0 about1 = true := code_word (m := ⟨8, 2⟩) (meth := k8m2) (c := k8c2) (by decide +kernel) rfl rfl rfl (by decide +kernel)
set_option maxRecDepth 65536 in
theorem w_c44 : (Jvm.Cond.code ({ cls := "java/lang/StringUTF16", name := "putChar", desc := "([BII)V" } : Jvm.MethodName) jdk_52_method_4_code (3 : Nat) (Option.none : Option Jvm.ClassFile.FieldType)).before args0 about1 = true := code_word (m := ⟨8, 3⟩) (meth := k8m3) (c := k8c3) (by decide +kernel) rfl rfl rfl (by decide +kernel)
set_option maxRecDepth 65536 in
theorem w_c45 : (Jvm.Cond.code ({ cls := "java/lang/StringUTF16", name := "getChar", desc := "([BI)C" } : Jvm.MethodName) jdk_52_method_5_code (2 : Nat) (Option.some Jvm.ClassFile.FieldType.char)).before args0 about1 = true := code_word (m := ⟨8, 4⟩) (meth := k8m4) (c := k8c4) (by decide +kernel) rfl rfl rfl (by decide +kernel)
set_option maxRecDepth 65536 in
theorem w_c46 : (Jvm.Cond.code ({ cls := "java/lang/StringUTF16", name := "indexOf", desc := "([BIII)I" } : Jvm.MethodName) jdk_52_method_40_code (4 : Nat) (Option.some Jvm.ClassFile.FieldType.int)).before args0 about1 = true := code_word (m := ⟨8, 10⟩) (meth := k8m10) (c := k8c10) (by decide +kernel) rfl rfl rfl (by decide +kernel)
set_option maxRecDepth 65536 in
theorem w_c47 : (Jvm.Cond.code ({ cls := "java/lang/StringUTF16", name := "indexOfChar", desc := "([BIII)I" } : Jvm.MethodName) jdk_52_method_47_code (4 : Nat) (Option.some Jvm.ClassFile.FieldType.int)).before args0 about1 = true := code_word (m := ⟨8, 11⟩) (meth := k8m11) (c := k8c11) (by decide +kernel) rfl rfl rfl (by decide +kernel)
set_option maxRecDepth 65536 in
theorem w_c48 : (Jvm.Cond.code ({ cls := "java/lang/StringUTF16", name := "checkBoundsBeginEnd", desc := "(II[B)V" } : Jvm.MethodName) jdk_52_method_93_code (3 : Nat) (Option.none : Option Jvm.ClassFile.FieldType)).before args0 about1 = true := code_word (m := ⟨8, 14⟩) (meth := k8m14) (c := k8c14) (by decide +kernel) rfl rfl rfl (by decide +kernel)
set_option maxRecDepth 65536 in
theorem w_c49 : (Jvm.Cond.code ({ cls := "java/lang/StringUTF16", name := "length", desc := "([B)I" } : Jvm.MethodName) jdk_52_method_6_code (1 : Nat) (Option.some Jvm.ClassFile.FieldType.int)).before args0 about1 = true := code_word (m := ⟨8, 5⟩) (meth := k8m5) (c := k8c5) (by decide +kernel) rfl rfl rfl (by decide +kernel)
set_option maxRecDepth 65536 in
theorem w_c50 : (Jvm.Cond.code ({ cls := "java/lang/String", name := "checkBoundsBeginEnd", desc := "(III)V" } : Jvm.MethodName) jdk_42_method_158_code (3 : Nat) (Option.none : Option Jvm.ClassFile.FieldType)).before args0 about1 = true := code_word (m := ⟨7, 13⟩) (meth := k7m13) (c := k7c13) (by decide +kernel) rfl rfl rfl (by decide +kernel)
set_option maxRecDepth 65536 in
theorem w_c51 : (Jvm.Cond.code ({ cls := "jdk/internal/util/Preconditions", name := "checkFromToIndex", desc := "(IIILjava/util/function/BiFunction;)I" } : Jvm.MethodName) jdk_41_method_12_code (4 : Nat) (Option.some Jvm.ClassFile.FieldType.int)).before args0 about1 = true := code_word (m := ⟨18, 1⟩) (meth := k18m1) (c := k18c1) (by decide +kernel) rfl rfl rfl (by decide +kernel)
set_option maxRecDepth 65536 in
theorem w_c52 : (Jvm.Cond.code ({ cls := "java/lang/StringUTF16", name := "indexOfCharUnsafe", desc := "([BIII)I" } : Jvm.MethodName) jdk_52_method_48_code (5 : Nat) (Option.some Jvm.ClassFile.FieldType.int)).before args0 about1 = true := code_word (m := ⟨8, 12⟩) (meth := k8m12) (c := k8c12) (by decide +kernel) rfl rfl rfl (by decide +kernel)
set_option maxRecDepth 65536 in
theorem w_c53 : (Jvm.Cond.code ({ cls := "java/lang/AbstractStringBuilder", name := "inflate", desc := "()V" } : Jvm.MethodName) jdk_68_method_11_code (2 : Nat) (Option.none : Option Jvm.ClassFile.FieldType)).before args0 about1 = true := code_word (m := ⟨12, 5⟩) (meth := k12m5) (c := k12c5) (by decide +kernel) rfl rfl rfl (by decide +kernel)
set_option maxRecDepth 65536 in
theorem w_c54 : (Jvm.Cond.code ({ cls := "java/lang/StringLatin1", name := "inflate", desc := "([BI[BII)V" } : Jvm.MethodName) jdk_43_method_50_code (5 : Nat) (Option.none : Option Jvm.ClassFile.FieldType)).before args0 about1 = true := code_word (m := ⟨10, 4⟩) (meth := k10m4) (c := k10c4) (by decide +kernel) rfl rfl rfl (by decide +kernel)
set_option maxRecDepth 65536 in
theorem w_c55 : (Jvm.Cond.code ({ cls := "java/lang/StringUTF16", name := "inflate", desc := "([BI[BII)V" } : Jvm.MethodName) jdk_52_method_86_code (6 : Nat) (Option.none : Option Jvm.ClassFile.FieldType)).before args0 about1 = true := code_word (m := ⟨8, 13⟩) (meth := k8m13) (c := k8c13) (by decide +kernel) rfl rfl rfl (by decide +kernel)
set_option maxRecDepth 65536 in
theorem w_c56 : (Jvm.Cond.code ({ cls := "java/lang/StringUTF16", name := "checkBoundsOffCount", desc := "(II[B)V" } : Jvm.MethodName) jdk_52_method_94_code (3 : Nat) (Option.none : Option Jvm.ClassFile.FieldType)).before args0 about1 = true := code_word (m := ⟨8, 15⟩) (meth := k8m15) (c := k8c15) (by decide +kernel) rfl rfl rfl (by decide +kernel)
set_option maxRecDepth 65536 in
theorem w_c57 : (Jvm.Cond.code ({ cls := "java/lang/String", name := "checkBoundsOffCount", desc := "(III)I" } : Jvm.MethodName) jdk_42_method_157_code (3 : Nat) (Option.some Jvm.ClassFile.FieldType.int)).before args0 about1 = true := code_word (m := ⟨7, 12⟩) (meth := k7m12) (c := k7c12) (by decide +kernel) rfl rfl rfl (by decide +kernel)
set_option maxRecDepth 65536 in
theorem w_c58 : (Jvm.Cond.code ({ cls := "jdk/internal/util/Preconditions", name := "checkFromIndexSize", desc := "(IIILjava/util/function/BiFunction;)I" } : Jvm.MethodName) jdk_41_method_13_code (4 : Nat) (Option.some Jvm.ClassFile.FieldType.int)).before args0 about1 = true := code_word (m := ⟨18, 2⟩) (meth := k18m2) (c := k18c2) (by decide +kernel) rfl rfl rfl (by decide +kernel)
def codes1 : List Jvm.Cond := [Jvm.Cond.code x code maxLocals ret, Jvm.Cond.code ({ cls := "java/lang/String", name := "<init>", desc := "([C)V" } : Jvm.MethodName) jdk_42_method_3_code (2 : Nat) (Option.none : Option Jvm.ClassFile.FieldType), Jvm.Cond.code ({ cls := "java/lang/String", name := "<init>", desc := "([CIILjava/lang/Void;)V" } : Jvm.MethodName) jdk_42_method_149_code (6 : Nat) (Option.none : Option Jvm.ClassFile.FieldType), Jvm.Cond.code ({ cls := "java/lang/Object", name := "<init>", desc := "()V" } : Jvm.MethodName) object_method_1_code (1 : Nat) (Option.none : Option Jvm.ClassFile.FieldType), Jvm.Cond.code ({ cls := "java/lang/StringUTF16", name := "compress", desc := "([CII)[B" } : Jvm.MethodName) jdk_52_method_16_code (6 : Nat) (Option.some (Jvm.ClassFile.FieldType.array Jvm.ClassFile.FieldType.byte)), Jvm.Cond.code ({ cls := "java/lang/StringUTF16", name := "compress", desc := "([CI[BII)I" } : Jvm.MethodName) jdk_52_method_21_code (7 : Nat) (Option.some Jvm.ClassFile.FieldType.int), Jvm.Cond.code ({ cls := "java/lang/StringUTF16", name := "coderFromArrayLen", desc := "([BI)B" } : Jvm.MethodName) jdk_52_method_15_code (2 : Nat) (Option.some Jvm.ClassFile.FieldType.byte), Jvm.Cond.code ({ cls := "com/example/kalends/kalends/FileNames", name := "whyNotFound", desc := "(Ljava/lang/String;Ljava/lang/String;)Ljava/lang/String;" } : Jvm.MethodName) prog_30_method_2_code (2 : Nat) (Option.some (Jvm.ClassFile.FieldType.object "java/lang/String")), Jvm.Cond.code ({ cls := "com/example/kalends/kalends/FileNames", name := "undecoded", desc := "(Ljava/lang/String;)Z" } : Jvm.MethodName) prog_30_method_4_code (1 : Nat) (Option.some Jvm.ClassFile.FieldType.boolean), Jvm.Cond.code ({ cls := "java/lang/String", name := "indexOf", desc := "(I)I" } : Jvm.MethodName) jdk_42_method_79_code (2 : Nat) (Option.some Jvm.ClassFile.FieldType.int), Jvm.Cond.code ({ cls := "java/lang/String", name := "indexOf", desc := "(II)I" } : Jvm.MethodName) jdk_42_method_80_code (3 : Nat) (Option.some Jvm.ClassFile.FieldType.int), Jvm.Cond.code ({ cls := "java/lang/String", name := "isLatin1", desc := "()Z" } : Jvm.MethodName) jdk_42_method_154_code (1 : Nat) (Option.some Jvm.ClassFile.FieldType.boolean), Jvm.Cond.code ({ cls := "java/lang/String", name := "length", desc := "()I" } : Jvm.MethodName) jdk_42_method_54_code (1 : Nat) (Option.some Jvm.ClassFile.FieldType.int), Jvm.Cond.code ({ cls := "java/lang/String", name := "coder", desc := "()B" } : Jvm.MethodName) jdk_42_method_152_code (1 : Nat) (Option.some Jvm.ClassFile.FieldType.byte), Jvm.Cond.code ({ cls := "java/lang/StringLatin1", name := "indexOf", desc := "([BIII)I" } : Jvm.MethodName) jdk_43_method_22_code (4 : Nat) (Option.some Jvm.ClassFile.FieldType.int), Jvm.Cond.code ({ cls := "java/lang/StringLatin1", name := "canEncode", desc := "(I)Z" } : Jvm.MethodName) jdk_43_method_4_code (1 : Nat) (Option.some Jvm.ClassFile.FieldType.boolean), Jvm.Cond.code ({ cls := "java/lang/StringBuilder", name := "<init>", desc := "()V" } : Jvm.MethodName) jdk_67_method_1_code (1 : Nat) (Option.none : Option Jvm.ClassFile.FieldType), Jvm.Cond.code ({ cls := "java/lang/AbstractStringBuilder", name := "<init>", desc := "(I)V" } : Jvm.MethodName) jdk_68_method_2_code (2 : Nat) (Option.none : Option Jvm.ClassFile.FieldType), Jvm.Cond.code ({ cls := "java/lang/StringBuilder", name := "append", desc := "(Ljava/lang/String;)Ljava/lang/StringBuilder;" } : Jvm.MethodName) jdk_67_method_7_code (2 : Nat) (Option.some (Jvm.ClassFile.FieldType.object "java/lang/StringBuilder")), Jvm.Cond.code ({ cls := "java/lang/AbstractStringBuilder", name := "append", desc := "(Ljava/lang/String;)Ljava/lang/AbstractStringBuilder;" } : Jvm.MethodName) jdk_68_method_22_code (3 : Nat) (Option.some (Jvm.ClassFile.FieldType.object "java/lang/AbstractStringBuilder")), Jvm.Cond.code ({ cls := "java/lang/AbstractStringBuilder", name := "ensureCapacityInternal", desc := "(I)V" } : Jvm.MethodName) jdk_68_method_9_code (3 : Nat) (Option.none : Option Jvm.ClassFile.FieldType), Jvm.Cond.code ({ cls := "java/lang/AbstractStringBuilder", name := "newCapacity", desc := "(I)I" } : Jvm.MethodName) jdk_68_method_10_code (6 : Nat) (Option.some Jvm.ClassFile.FieldType.int), Jvm.Cond.code ({ cls := "jdk/internal/util/ArraysSupport", name := "newLength", desc := "(III)I" } : Jvm.MethodName) jdk_48_method_27_code (4 : Nat) (Option.some Jvm.ClassFile.FieldType.int), Jvm.Cond.code ({ cls := "java/lang/Math", name := "max", desc := "(II)I" } : Jvm.MethodName) jdk_29_method_65_code (2 : Nat) (Option.some Jvm.ClassFile.FieldType.int), Jvm.Cond.code ({ cls := "java/util/Arrays", name := "copyOf", desc := "([BI)[B" } : Jvm.MethodName) jdk_65_method_121_code (3 : Nat) (Option.some (Jvm.ClassFile.FieldType.array Jvm.ClassFile.FieldType.byte)), Jvm.Cond.code ({ cls := "java/lang/Math", name := "min", desc := "(II)I" } : Jvm.MethodName) jdk_29_method_69_code (2 : Nat) (Option.some Jvm.ClassFile.FieldType.int), Jvm.Cond.code ({ cls := "java/lang/AbstractStringBuilder", name := "putStringAt", desc := "(ILjava/lang/String;)V" } : Jvm.MethodName) jdk_68_method_73_code (3 : Nat) (Option.none : Option Jvm.ClassFile.FieldType), Jvm.Cond.code ({ cls := "java/lang/AbstractStringBuilder", name := "inflateIfNeededFor", desc := "(Ljava/lang/String;)V" } : Jvm.MethodName) jdk_68_method_71_code (2 : Nat) (Option.none : Option Jvm.ClassFile.FieldType), Jvm.Cond.code ({ cls := "java/lang/String", name := "getBytes", desc := "([BIB)V" } : Jvm.MethodName) jdk_42_method_147_code (4 : Nat) (Option.none : Option Jvm.ClassFile.FieldType), Jvm.Cond.code ({ cls := "java/lang/StringBuilder", name := "toString", desc := "()Ljava/lang/String;" } : Jvm.MethodName) jdk_67_method_42_code (1 : Nat) (Option.some (Jvm.ClassFile.FieldType.object "java/lang/String")), Jvm.Cond.code ({ cls := "java/lang/String", name := "<init>", desc := "(Ljava/lang/StringBuilder;)V" } : Jvm.MethodName) jdk_42_method_53_code (2 : Nat) (Option.none : Option Jvm.ClassFile.FieldType), Jvm.Cond.code ({ cls := "java/lang/String", name := "<init>", desc := "(Ljava/lang/AbstractStringBuilder;Ljava/lang/Void;)V" } : Jvm.MethodName) jdk_42_method_150_code (5 : Nat) (Option.none : Option Jvm.ClassFile.FieldType), Jvm.Cond.code ({ cls := "java/lang/AbstractStringBuilder", name := "getValue", desc := "()[B" } : Jvm.MethodName) jdk_68_method_64_code (1 : Nat) (Option.some (Jvm.ClassFile.FieldType.array Jvm.ClassFile.FieldType.byte)), Jvm.Cond.code ({ cls := "java/lang/StringBuilder", name := "length", desc := "()I" } : Jvm.MethodName) jdk_67_method_93_code (1 : Nat) (Option.some Jvm.ClassFile.FieldType.int), Jvm.Cond.code ({ cls := "java/lang/AbstractStringBuilder", name := "length", desc := "()I" } : Jvm.MethodName) jdk_68_method_6_code (1 : Nat) (Option.some Jvm.ClassFile.FieldType.int), Jvm.Cond.code ({ cls := "java/lang/AbstractStringBuilder", name := "isLatin1", desc := "()Z" } : Jvm.MethodName) jdk_68_method_68_code (1 : Nat) (Option.some Jvm.ClassFile.FieldType.boolean), Jvm.Cond.code ({ cls := "java/util/Arrays", name := "copyOfRange", desc := "([BII)[B" } : Jvm.MethodName) jdk_65_method_132_code (3 : Nat) (Option.some (Jvm.ClassFile.FieldType.array Jvm.ClassFile.FieldType.byte)), Jvm.Cond.code ({ cls := "java/util/Arrays", name := "copyOfRangeByte", desc := "([BII)[B" } : Jvm.MethodName) jdk_65_method_133_code (5 : Nat) (Option.some (Jvm.ClassFile.FieldType.array Jvm.ClassFile.FieldType.byte)), Jvm.Cond.code ({ cls := "java/util/Arrays", name := "checkLength", desc := "(II)V" } : Jvm.MethodName) jdk_65_method_131_code (2 : Nat) (Option.none : Option Jvm.ClassFile.FieldType), Jvm.Cond.code ({ cls := "java/lang/String", name := "equals", desc := "(Ljava/lang/Object;)Z" } : Jvm.MethodName) jdk_42_method_66_code (3 : Nat) (Option.some Jvm.ClassFile.FieldType.boolean), Jvm.Cond.code ({ cls := "java/lang/StringLatin1", name := "equals", desc := "([B[B)Z" } : Jvm.MethodName) jdk_43_method_13_code (3 : Nat) (Option.some Jvm.ClassFile.FieldType.boolean), Jvm.Cond.code ({ cls := "java/lang/StringUTF16", name := "toBytes", desc := "([CII)[B" } : Jvm.MethodName) jdk_52_method_14_code (5 : Nat) (Option.some (Jvm.ClassFile.FieldType.array Jvm.ClassFile.FieldType.byte)), Jvm.Cond.code ({ cls := "java/lang/StringUTF16", name := "newBytesFor", desc := "(I)[B" } : Jvm.MethodName) jdk_52_method_2_code (1 : Nat) (Option.some (Jvm.ClassFile.FieldType.array Jvm.ClassFile.FieldType.byte)), Jvm.Cond.code ({ cls := "java/lang/StringUTF16", name := "newBytesLength", desc := "(I)I" } : Jvm.MethodName) jdk_52_method_3_code (1 : Nat) (Option.some Jvm.ClassFile.FieldType.int), Jvm.Cond.code ({ cls := "java/lang/StringUTF16", name := "putChar", desc := "([BII)V" } : Jvm.MethodName) jdk_52_method_4_code (3 : Nat) (Option.none : Option Jvm.ClassFile.FieldType), Jvm.Cond.code ({ cls := "java/lang/StringUTF16", name := "getChar", desc := "([BI)C" } : Jvm.MethodName) jdk_52_method_5_code (2 : Nat) (Option.some Jvm.ClassFile.FieldType.char), Jvm.Cond.code ({ cls := "java/lang/StringUTF16", name := "indexOf", desc := "([BIII)I" } : Jvm.MethodName) jdk_52_method_40_code (4 : Nat) (Option.some Jvm.ClassFile.FieldType.int), Jvm.Cond.code ({ cls := "java/lang/StringUTF16", name := "indexOfChar", desc := "([BIII)I" } : Jvm.MethodName) jdk_52_method_47_code (4 : Nat) (Option.some Jvm.ClassFile.FieldType.int), Jvm.Cond.code ({ cls := "java/lang/StringUTF16", name := "checkBoundsBeginEnd", desc := "(II[B)V" } : Jvm.MethodName) jdk_52_method_93_code (3 : Nat) (Option.none : Option Jvm.ClassFile.FieldType), Jvm.Cond.code ({ cls := "java/lang/StringUTF16", name := "length", desc := "([B)I" } : Jvm.MethodName) jdk_52_method_6_code (1 : Nat) (Option.some Jvm.ClassFile.FieldType.int), Jvm.Cond.code ({ cls := "java/lang/String", name := "checkBoundsBeginEnd", desc := "(III)V" } : Jvm.MethodName) jdk_42_method_158_code (3 : Nat) (Option.none : Option Jvm.ClassFile.FieldType), Jvm.Cond.code ({ cls := "jdk/internal/util/Preconditions", name := "checkFromToIndex", desc := "(IIILjava/util/function/BiFunction;)I" } : Jvm.MethodName) jdk_41_method_12_code (4 : Nat) (Option.some Jvm.ClassFile.FieldType.int), Jvm.Cond.code ({ cls := "java/lang/StringUTF16", name := "indexOfCharUnsafe", desc := "([BIII)I" } : Jvm.MethodName) jdk_52_method_48_code (5 : Nat) (Option.some Jvm.ClassFile.FieldType.int), Jvm.Cond.code ({ cls := "java/lang/AbstractStringBuilder", name := "inflate", desc := "()V" } : Jvm.MethodName) jdk_68_method_11_code (2 : Nat) (Option.none : Option Jvm.ClassFile.FieldType), Jvm.Cond.code ({ cls := "java/lang/StringLatin1", name := "inflate", desc := "([BI[BII)V" } : Jvm.MethodName) jdk_43_method_50_code (5 : Nat) (Option.none : Option Jvm.ClassFile.FieldType), Jvm.Cond.code ({ cls := "java/lang/StringUTF16", name := "inflate", desc := "([BI[BII)V" } : Jvm.MethodName) jdk_52_method_86_code (6 : Nat) (Option.none : Option Jvm.ClassFile.FieldType), Jvm.Cond.code ({ cls := "java/lang/StringUTF16", name := "checkBoundsOffCount", desc := "(II[B)V" } : Jvm.MethodName) jdk_52_method_94_code (3 : Nat) (Option.none : Option Jvm.ClassFile.FieldType), Jvm.Cond.code ({ cls := "java/lang/String", name := "checkBoundsOffCount", desc := "(III)I" } : Jvm.MethodName) jdk_42_method_157_code (3 : Nat) (Option.some Jvm.ClassFile.FieldType.int), Jvm.Cond.code ({ cls := "jdk/internal/util/Preconditions", name := "checkFromIndexSize", desc := "(IIILjava/util/function/BiFunction;)I" } : Jvm.MethodName) jdk_41_method_13_code (4 : Nat) (Option.some Jvm.ClassFile.FieldType.int)]
set_option maxRecDepth 65536 in
theorem codes_eq : words1.filter isCode = codes1 := rfl
theorem w_codes : ∀ c ∈ words1.filter isCode, c.before args0 about1 = true := by
  rw [codes_eq]
  intro c hc
  simp only [codes1, List.mem_cons, List.not_mem_nil, or_false] at hc
  rcases hc with rfl | rfl | rfl | rfl | rfl | rfl | rfl | rfl | rfl | rfl | rfl | rfl | rfl | rfl | rfl | rfl | rfl | rfl | rfl | rfl | rfl | rfl | rfl | rfl | rfl | rfl | rfl | rfl | rfl | rfl | rfl | rfl | rfl | rfl | rfl | rfl | rfl | rfl | rfl | rfl | rfl | rfl | rfl | rfl | rfl | rfl | rfl | rfl | rfl | rfl | rfl | rfl | rfl | rfl | rfl | rfl | rfl | rfl | rfl
  · exact w_c0
  · exact w_c1
  · exact w_c2
  · exact w_c3
  · exact w_c4
  · exact w_c5
  · exact w_c6
  · exact w_c7
  · exact w_c8
  · exact w_c9
  · exact w_c10
  · exact w_c11
  · exact w_c12
  · exact w_c13
  · exact w_c14
  · exact w_c15
  · exact w_c16
  · exact w_c17
  · exact w_c18
  · exact w_c19
  · exact w_c20
  · exact w_c21
  · exact w_c22
  · exact w_c23
  · exact w_c24
  · exact w_c25
  · exact w_c26
  · exact w_c27
  · exact w_c28
  · exact w_c29
  · exact w_c30
  · exact w_c31
  · exact w_c32
  · exact w_c33
  · exact w_c34
  · exact w_c35
  · exact w_c36
  · exact w_c37
  · exact w_c38
  · exact w_c39
  · exact w_c40
  · exact w_c41
  · exact w_c42
  · exact w_c43
  · exact w_c44
  · exact w_c45
  · exact w_c46
  · exact w_c47
  · exact w_c48
  · exact w_c49
  · exact w_c50
  · exact w_c51
  · exact w_c52
  · exact w_c53
  · exact w_c54
  · exact w_c55
  · exact w_c56
  · exact w_c57
  · exact w_c58
set_option maxRecDepth 65536 in
theorem w_t1 : (words1.take 24).all (fun c => isCode c || c.before args0 about1) = true := by decide +kernel
set_option maxRecDepth 65536 in
theorem w_t2 : ((words1.drop 24).take 24).all (fun c => isCode c || c.before args0 about1) = true := by decide +kernel
set_option maxRecDepth 65536 in
theorem w_t3 : (((words1.drop 24).drop 24).take 24).all (fun c => isCode c || c.before args0 about1) = true := by decide +kernel
set_option maxRecDepth 65536 in
theorem w_t4 : ((((words1.drop 24).drop 24).drop 24).take 24).all (fun c => isCode c || c.before args0 about1) = true := by decide +kernel
set_option maxRecDepth 65536 in
theorem w_t5 : (((((words1.drop 24).drop 24).drop 24).drop 24).take 24).all (fun c => isCode c || c.before args0 about1) = true := by decide +kernel
set_option maxRecDepth 65536 in
theorem w_t6 : ((((((words1.drop 24).drop 24).drop 24).drop 24).drop 24).take 24).all (fun c => isCode c || c.before args0 about1) = true := by decide +kernel
set_option maxRecDepth 65536 in
theorem w_t7 : (((((((words1.drop 24).drop 24).drop 24).drop 24).drop 24).drop 24).take 24).all (fun c => isCode c || c.before args0 about1) = true := by decide +kernel
set_option maxRecDepth 65536 in
theorem w_t8 : ((((((((words1.drop 24).drop 24).drop 24).drop 24).drop 24).drop 24).drop 24).take 24).all (fun c => isCode c || c.before args0 about1) = true := by decide +kernel
set_option maxRecDepth 65536 in
theorem w_t9 : (((((((((words1.drop 24).drop 24).drop 24).drop 24).drop 24).drop 24).drop 24).drop 24).take 24).all (fun c => isCode c || c.before args0 about1) = true := by decide +kernel
set_option maxRecDepth 65536 in
theorem w_t10 : ((((((((((words1.drop 24).drop 24).drop 24).drop 24).drop 24).drop 24).drop 24).drop 24).drop 24).take 24).all (fun c => isCode c || c.before args0 about1) = true := by decide +kernel
set_option maxRecDepth 65536 in
theorem w_t11 : (((((((((((words1.drop 24).drop 24).drop 24).drop 24).drop 24).drop 24).drop 24).drop 24).drop 24).drop 24).take 24).all (fun c => isCode c || c.before args0 about1) = true := by decide +kernel
set_option maxRecDepth 65536 in
theorem w_t12 : (((((((((((words1.drop 24).drop 24).drop 24).drop 24).drop 24).drop 24).drop 24).drop 24).drop 24).drop 24).drop 24).all (fun c => isCode c || c.before args0 about1) = true := by decide +kernel
theorem w_tables : (allAtoms (Jvm.Cond.code x code maxLocals ret :: tables_1)).before args0 about1 = true := by
  rw [allAtoms_all]
  show words1.all (fun c => c.before args0 about1) = true
  refine all_split ?_ w_codes
  rw [← List.take_append_drop 24 words1, List.all_append, w_t1, ← List.take_append_drop 24 (words1.drop 24), List.all_append, w_t2, ← List.take_append_drop 24 ((words1.drop 24).drop 24), List.all_append, w_t3, ← List.take_append_drop 24 (((words1.drop 24).drop 24).drop 24), List.all_append, w_t4, ← List.take_append_drop 24 ((((words1.drop 24).drop 24).drop 24).drop 24), List.all_append, w_t5, ← List.take_append_drop 24 (((((words1.drop 24).drop 24).drop 24).drop 24).drop 24), List.all_append, w_t6, ← List.take_append_drop 24 ((((((words1.drop 24).drop 24).drop 24).drop 24).drop 24).drop 24), List.all_append, w_t7, ← List.take_append_drop 24 (((((((words1.drop 24).drop 24).drop 24).drop 24).drop 24).drop 24).drop 24), List.all_append, w_t8, ← List.take_append_drop 24 ((((((((words1.drop 24).drop 24).drop 24).drop 24).drop 24).drop 24).drop 24).drop 24), List.all_append, w_t9, ← List.take_append_drop 24 (((((((((words1.drop 24).drop 24).drop 24).drop 24).drop 24).drop 24).drop 24).drop 24).drop 24), List.all_append, w_t10, ← List.take_append_drop 24 ((((((((((words1.drop 24).drop 24).drop 24).drop 24).drop 24).drop 24).drop 24).drop 24).drop 24).drop 24), List.all_append, w_t11, w_t12]
  rfl
set_option maxRecDepth 65536 in
theorem w_rest : rest_1_c.before args0 about1 = true := by decide +kernel
set_option maxRecDepth 65536 in
theorem w_case : (Jvm.Cond.and given_1 narrow_1).before args0 about1 = true := by decide +kernel
set_option maxRecDepth 65536 in
theorem w_consts : constsHeld consts_1 about1 := Jvm.Lit.constsHeldB_iff.mp (by decide +kernel)
theorem w_applies : (headSpec (Jvm.Cond.code x code maxLocals ret :: tables_1) room_1).applies x e0.platform about1 = true :=
  (Spec.applies_iff w_frames).mpr ⟨w_running, w_runnable, w_alone, w_named, w_hears, w_ripe, w_room, w_tables⟩
theorem atStart : AtStart classFile x code maxLocals ret World_1 tables_1 room_1 Calls_1 rest_1 Pre_1 launch0 p0 e0 about1 theMethod args0 below0 :=
  ⟨lists_1, trivial, launch0.admits_env _ _ _, launch0.least_env, fairChoices_fair.cas, fairChoices_fair.clock, w_frames, w_args, w_heap, w_applies, ⟨w_consts, trivial⟩, w_rest, w_case⟩
end start1
theorem witness_1 : WitnessClaimed_1 := ⟨start1.p0, start1.e0, start1.about1, start1.theMethod, start1.args0, start1.below0, start1.atStart⟩
end Jvm.Pilot.@@N@@
