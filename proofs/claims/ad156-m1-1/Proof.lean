import JvmDerived
import JvmDerived.Pilot.@@N@@Statement
import JvmDerived.Pilot.@@N@@Code
set_option linter.unusedVariables false
set_option linter.unusedSimpArgs false
namespace Jvm.OwnW
open Sem ClassFile Op Lib Jvm.Free Jvm.Stand Jvm.LawKit Jvm.RoadKit
/-- what stays the same all through one invocation -/
abbrev Ctx : Type := Program × Env × State × MethodId × Array Value × List Frame × Method × Code
abbrev Ctx.p (C : Ctx) : Program := C.1
abbrev Ctx.e (C : Ctx) : Env := C.2.1
abbrev Ctx.s (C : Ctx) : State := C.2.2.1
abbrev Ctx.m (C : Ctx) : MethodId := C.2.2.2.1
abbrev Ctx.args (C : Ctx) : Array Value := C.2.2.2.2.1
abbrev Ctx.below (C : Ctx) : List Frame := C.2.2.2.2.2.1
abbrev Ctx.meth (C : Ctx) : Method := C.2.2.2.2.2.2.1
abbrev Ctx.c (C : Ctx) : Code := C.2.2.2.2.2.2.2
/-- each place of the list lies in a cell of ws, or in one made since -/
def Wok (b : Nat) (ws : List Addr) (L : List Loc) : Prop := ∀ y ∈ L, y.base ∈ ws ∨ b ≤ y.base
theorem Wok.nil (b : Nat) (ws : List Addr) : Wok b ws [] := fun _ q => nomatch q
theorem Wok.app {b : Nat} {ws : List Addr} {L L' : List Loc} (N : Wok b ws L) (N' : Wok b ws L') : Wok b ws (L ++ L') := fun y q => (List.mem_append.mp q).elim (N y) (N' y)
theorem Wok.snoc {b : Nat} {ws : List Addr} {L : List Loc} {a : Addr} {sl : Nat} (N : Wok b ws L) (q : a ∈ ws ∨ b ≤ a) : Wok b ws (L ++ [⟨a, sl⟩]) := N.app fun y hy => by cases List.mem_singleton.mp hy; exact q
theorem keep_of_same {s t : State} {L : List Loc} {ws : List Addr} {k n : Nat} (h : s.sameButNew t L k n) (N : Wok s.heap.size ws L) : Keep s.heap t.heap ws := by
  obtain ⟨-, h2, -, -, -, h6⟩ := h
  refine ⟨h2, fun x c hx hn => ?_, fun x c hx => ?_⟩
  · obtain ⟨c', q1, q2, q3, q4⟩ := h6 x c hx
    have hlt := (Array.getElem?_eq_some_iff.mp hx).1
    have : c'.slots = c.slots := Array.ext_getElem? fun i => q4 i fun hm => (N _ hm).elim hn fun z => absurd hlt (Nat.not_lt.mpr z)
    rw [q1, q2, this]
  · obtain ⟨c', q1, q2, q3, q4⟩ := h6 x c hx
    exact ⟨c', q1, by rw [q2], by rw [q2], q3⟩
theorem eq_of_same {s t : State} {L : List Loc} {n : Nat} (h : s.sameButNew t L 0 n) (N : Wok s.heap.size [] L) : t.heap = s.heap := by
  have K := keep_of_same h N
  obtain ⟨-, h2, h3, -⟩ := h
  refine Array.ext_getElem? fun i => ?_
  cases hi : s.heap[i]? with
  | some c => exact K.2.1 i c hi (fun q => nomatch q)
  | none =>
    rw [Array.getElem?_eq_none_iff] at hi ⊢
    omega
/-- where the run stands: the invocation's state T with heap h; of what is older than the invocation only ws has been written -/
def On (l : Launch) (Z : State) (ws : List Addr) (R : Room) (own nm : String) (bytes : ByteArray) (maxL : Nat) (ret : Option FieldType) (C : Ctx) (T : State) (h : Heap) (cells slots : Nat) : Prop :=
  (C.p.tables.exec = Jvm.exec ∧ Z.Warmed39 C.s.vm ∧ C.c.code = bytes ∧ C.c.maxLocals = maxL ∧ C.s.vm.findClass own = some C.m.cls ∧ C.meth.name = nm ∧ C.meth.sig.returnType = ret ∧ C.meth.locks = false) ∧
  (∃ locs, Stand C.p l C.e R C.s C.m C.args C.below C.meth C.c T locs cells slots ∧ Wok C.s.heap.size ws locs) ∧ T.heap = h
def Post (ws : List Addr) (rc : Nat) (h0 : Heap) (Q : Option Value → Heap → Prop) (v : Option Value) (h : Heap) (L : List Loc) : Prop := Wok h0.size ws L ∧ Keep h0 h ws ∧ (rc = 0 → ws = [] → h = h0) ∧ Q v h
/-- from the state A the invocation comes to its end, with Q of what it returns and of the heap it leaves -/
def Go (C : Ctx) (ws : List Addr) (Q : Option Value → Heap → Prop) (k n : Nat) (A : State) : Prop :=
  ∃ U o, Steps C.p.tables C.e C.below A U ∧ U.status = .running ∧ Ended U C.below o ∧ ∃ v L, o = .returned v ∧ Post ws k C.s.heap Q v U.heap L ∧ FrameEnd C.s o U L k n
def Met (l : Launch) (Z : State) (y : MethodName) (bytes : ByteArray) (maxL : Nat) (ret : Option FieldType) (wds : List Cond) (rm : Room) (as' : Array Value) (ws : List Addr) (h0 : Heap) (Q : Option Value → Heap → Prop) : Prop :=
  MetFree l y (head1 (Cond.code y bytes maxL ret :: wds) rm) (fun a U => a = as' ∧ Z.Warmed39 U.vm ∧ U.heap = h0) (fun _ _ _ _ _ => True) (fun _ U o U' => ∃ v L, o = .returned v ∧ Post ws rm.cells h0 Q v U'.heap L ∧ FrameEnd U o U' L rm.cells rm.slots)
theorem Met.mk {l : Launch} {Z : State} {y : MethodName} {bytes : ByteArray} {maxL : Nat} {ret : Option FieldType} {wds : List Cond} {rm : Room} {as' : Array Value} {ws : List Addr} {h0 : Heap} {Q : Option Value → Heap → Prop} {Ls : Array Slot}
    (hp : plainFor y = true) (ef : ∀ m, entryFrame m as' maxL = mkF m 0 Ls [])
    (H : ∀ (C : Ctx) (T : State), C.s.heap = h0 → On l Z ws rm y.cls y.name bytes maxL ret C T h0 0 0 → Go C ws Q rm.cells rm.slots (T.setTop (mkF C.m 0 Ls []))) : Met l Z y bytes maxL ret wds rm as' ws h0 Q := by
  refine MetFree.of_bodySF hp hisR ?_
  intro p e s m args below meth c s₁ Bd hml0 hP hK
  obtain ⟨rfl, hZ, hh⟩ := hP
  have e0 : s₁.heap = h0 := by rw [← hh, Bd.state]; rfl
  have := H (p, e, s, m, args, below, meth, c) s₁ hh ⟨⟨Bd.exec, hZ, Bd.bytes, hml0, findClass_of_methodNamed Bd.named, (name_of_methodNamed Bd.named Bd.method).1, Bd.returns, Bd.notSynchronized⟩, ⟨[], Stand.of_body Bd, Wok.nil _ _⟩, e0⟩
  obtain ⟨U, o, h1, h2, h3, v, L, h4, h5, h6⟩ := this
  refine ⟨U, o, castTop (ef m) h1, h2, h3, v, L, h4, ?_, h6⟩
  rw [← hh]; exact h5
theorem Go.of {C : Ctx} {ws : List Addr} {Q : Option Value → Heap → Prop} {k n : Nat} {A B : State} (g : Go C ws Q k n B) (h : ∀ t, Steps C.p.tables C.e C.below B t → Steps C.p.tables C.e C.below A t) : Go C ws Q k n A := by
  obtain ⟨U, o, h1, r⟩ := g; exact ⟨U, o, h _ h1, r⟩
theorem Go.via {C : Ctx} {ws : List Addr} {Q : Option Value → Heap → Prop} {k n : Nat} {A B : State} (g : Go C ws Q k n B) (h : Steps C.p.tables C.e C.below A B) : Go C ws Q k n A := by
  obtain ⟨U, o, h1, r⟩ := g; exact ⟨U, o, h.trans h1, r⟩
section Steps
variable {l : Launch} {Z : State} {a0 : Array Value} {ws : List Addr} {R : Room} {own nm : String} {bytes : ByteArray} {maxL : Nat} {ret : Option FieldType} {C : Ctx} {T : State} {h : Heap} {cells slots k n : Nat} {Q : Option Value → Heap → Prop} {pc q : Nat} {Ls L' : Array Slot} {st : List Value}
theorem On.size (O : On l Z ws R own nm bytes maxL ret C T h cells slots) : C.s.heap.size ≤ h.size := by
  obtain ⟨-, ⟨_, X, -⟩, rfl⟩ := O; exact X.same.2.1
theorem On.kept (O : On l Z ws R own nm bytes maxL ret C T h cells slots) : Keep C.s.heap h ws := by
  obtain ⟨-, ⟨_, X, N⟩, rfl⟩ := O; exact keep_of_same (t := T.setVm C.s.vm) X.same N
theorem fin (O : On l Z ws R own nm bytes maxL ret C T h cells slots) {v : Option Value} (hv : ret = none → v = none) (hk : cells ≤ k) (hn : slots ≤ n) (hQ : Q v h)
    (stp : ∀ X : State, ∀ fs, (∀ (f : JFrame) (acts : List Action), f.method = C.m → f.locked = none → f.entered = [] → (doReturn C.e (T.setTop f) acts v).1 = T.setFrames fs) → X = T.setFrames fs → Steps C.p.tables C.e C.below (T.setTop (mkF C.m pc Ls st)) X) : Go C ws Q k n (T.setTop (mkF C.m pc Ls st)) := by
  obtain ⟨⟨hx, hZ, -, -, -, -, hret, hlk⟩, ⟨L, X, N⟩, eT⟩ := O
  obtain ⟨fs, hr, hrun, hended, hW, hsame⟩ := X.leave (v := v) (fun q => hv (hret ▸ q)) hlk
  refine ⟨_, _, stp _ fs hr rfl, hrun, hended, v, L, rfl, ⟨N, ?_, ?_, ?_⟩, ⟨_, rfl⟩, hW, hsame.mono hk hn⟩
  · exact keep_of_same (t := T.setVm C.s.vm) X.same N
  · rintro rfl rfl
    exact eq_of_same (t := T.setVm C.s.vm) (X.same.mono hk (Nat.le_refl _)) N
  · show Q v T.heap; rw [eT]; exact hQ
theorem ret0 (O : On l Z ws R own nm bytes maxL none C T h cells slots) (hd : decode bytes pc = .ok (.return_, 1)) (hk : cells ≤ k) (hn : slots ≤ n) (hQ : Q none h) : Go C ws Q k n (T.setTop (mkF C.m pc Ls [])) := by
  refine fin O (fun _ => rfl) hk hn hQ ?_
  obtain ⟨⟨hx, hZ, rfl, -, -, -, hret, hlk⟩, ⟨L, X, N⟩, eT⟩ := O
  rintro _ fs hr rfl
  exact X.returnOut hx hret hd hr
theorem retV {t : FieldType} {w w' : Value} {i : Instr} {rest : List Value} (O : On l Z ws R own nm bytes maxL (some t) C T h cells slots) (hd : decode bytes pc = .ok (i, 1)) (hw : w' = w) (hnw : narrow t w = w)
    (hi : (i = .ireturn ∧ (t = .int ∨ t = .boolean ∨ t = .byte ∨ t = .char ∨ t = .short) ∧ ∃ z, w = .int z) ∨ (i = .lreturn ∧ t = .long ∧ ∃ z, w = .long z) ∨ (i = .dreturn ∧ t = .double ∧ ∃ z, w = .double z) ∨ (i = .freturn ∧ t = .float ∧ ∃ z, w = .float z) ∨ (i = .areturn ∧ t.isReference = true ∧ w.isRef = true))
    (hk : cells ≤ k) (hn : slots ≤ n) (hQ : Q (some w) h) : Go C ws Q k n (T.setTop (mkF C.m pc Ls (w' :: rest))) := by
  subst hw
  refine fin O (fun q => nomatch q) hk hn hQ ?_
  obtain ⟨⟨hx, hZ, rfl, -, -, -, hret, hlk⟩, ⟨L, X, N⟩, eT⟩ := O
  rintro _ fs hr rfl
  exact retOut X hx hret hnw hi hd hr
theorem retI {z z' : Int32} {rest : List Value} (O : On l Z ws R own nm bytes maxL (some .int) C T h cells slots) (hd : decode bytes pc = .ok (.ireturn, 1)) (hz : z = z') (hk : cells ≤ k) (hn : slots ≤ n) (hQ : Q (some (.int z')) h) : Go C ws Q k n (T.setTop (mkF C.m pc Ls (.int z :: rest))) :=
  retV O hd (congrArg Value.int hz) rfl (Or.inl ⟨rfl, Or.inl rfl, _, rfl⟩) hk hn hQ
theorem retB {z z' : Int32} {rest : List Value} (O : On l Z ws R own nm bytes maxL (some .boolean) C T h cells slots) (hd : decode bytes pc = .ok (.ireturn, 1)) (hz : z = z') (h01 : z' = 0 ∨ z' = 1) (hk : cells ≤ k) (hn : slots ≤ n) (hQ : Q (some (.int z')) h) : Go C ws Q k n (T.setTop (mkF C.m pc Ls (.int z :: rest))) :=
  retV O hd (congrArg Value.int hz) (by rcases h01 with rfl | rfl <;> rfl) (Or.inl ⟨rfl, Or.inr (Or.inl rfl), _, rfl⟩) hk hn hQ
theorem retY {z z' : Int32} {rest : List Value} (O : On l Z ws R own nm bytes maxL (some .byte) C T h cells slots) (hd : decode bytes pc = .ok (.ireturn, 1)) (hz : z = z') (hb : z'.toInt8.toInt32 = z') (hk : cells ≤ k) (hn : slots ≤ n) (hQ : Q (some (.int z')) h) : Go C ws Q k n (T.setTop (mkF C.m pc Ls (.int z :: rest))) :=
  retV O hd (congrArg Value.int hz) (congrArg Value.int hb) (Or.inl ⟨rfl, Or.inr (Or.inr (Or.inl rfl)), _, rfl⟩) hk hn hQ
theorem retL {z z' : Int64} {rest : List Value} (O : On l Z ws R own nm bytes maxL (some .long) C T h cells slots) (hd : decode bytes pc = .ok (.lreturn, 1)) (hz : z = z') (hk : cells ≤ k) (hn : slots ≤ n) (hQ : Q (some (.long z')) h) : Go C ws Q k n (T.setTop (mkF C.m pc Ls (.long z :: rest))) :=
  retV O hd (congrArg Value.long hz) rfl (Or.inr (Or.inl ⟨rfl, rfl, _, rfl⟩)) hk hn hQ
theorem retA {t : FieldType} {w : Value} {rest : List Value} (O : On l Z ws R own nm bytes maxL (some t) C T h cells slots) (hd : decode bytes pc = .ok (.areturn, 1)) (ht : t.isReference = true) (hw : w.isRef = true) (hnw : narrow t w = w) (hk : cells ≤ k) (hn : slots ≤ n) (hQ : Q (some w) h) : Go C ws Q k n (T.setTop (mkF C.m pc Ls (w :: rest))) :=
  retV O hd rfl hnw (Or.inr (Or.inr (Or.inr (Or.inr ⟨rfl, ht, hw⟩)))) hk hn hQ
theorem iload (O : On l Z ws R own nm bytes maxL ret C T h cells slots) {i : Nat} {v : Int32} (hd : decode bytes pc = .ok (.iload i, 2)) (hl : Ls[i]? = some (.val (.int v))) (hq : pc + 2 = q)
    (K : Go C ws Q k n (T.setTop (mkF C.m q Ls (.int v :: st)))) : Go C ws Q k n (T.setTop (mkF C.m pc Ls (st))) := by
  obtain ⟨⟨hx, -, rfl, -⟩, ⟨_, X, -⟩, -⟩ := O; subst hq
  exact K.of fun _ kk => XS.iload X.here hx rfl hd hl kk
theorem iloadN (O : On l Z ws R own nm bytes maxL ret C T h cells slots) {i : Fin 4} {v : Int32} (hd : decode bytes pc = .ok (.iload_n i, 1)) (hl : Ls[i.val]? = some (.val (.int v))) (hq : pc + 1 = q)
    (K : Go C ws Q k n (T.setTop (mkF C.m q Ls (.int v :: st)))) : Go C ws Q k n (T.setTop (mkF C.m pc Ls (st))) := by
  obtain ⟨⟨hx, -, rfl, -⟩, ⟨_, X, -⟩, -⟩ := O; subst hq
  exact K.of fun _ kk => XS.iloadN X.here hx rfl hd hl kk
theorem lload (O : On l Z ws R own nm bytes maxL ret C T h cells slots) {i : Nat} {v : Int64} (hd : decode bytes pc = .ok (.lload i, 2)) (hl : Ls[i]? = some (.val (.long v))) (hq : pc + 2 = q)
    (K : Go C ws Q k n (T.setTop (mkF C.m q Ls (.long v :: st)))) : Go C ws Q k n (T.setTop (mkF C.m pc Ls (st))) := by
  obtain ⟨⟨hx, -, rfl, -⟩, ⟨_, X, -⟩, -⟩ := O; subst hq
  exact K.of fun _ kk => XS.lload X.here hx rfl hd hl kk
theorem lloadN (O : On l Z ws R own nm bytes maxL ret C T h cells slots) {i : Fin 4} {v : Int64} (hd : decode bytes pc = .ok (.lload_n i, 1)) (hl : Ls[i.val]? = some (.val (.long v))) (hq : pc + 1 = q)
    (K : Go C ws Q k n (T.setTop (mkF C.m q Ls (.long v :: st)))) : Go C ws Q k n (T.setTop (mkF C.m pc Ls (st))) := by
  obtain ⟨⟨hx, -, rfl, -⟩, ⟨_, X, -⟩, -⟩ := O; subst hq
  exact K.of fun _ kk => XS.lloadN X.here hx rfl hd hl kk
theorem aload (O : On l Z ws R own nm bytes maxL ret C T h cells slots) {i : Nat} {v : Value} (hd : decode bytes pc = .ok (.aload i, 2)) (hl : Ls[i]? = some (.val v)) (hv : v.isRef = true) (hq : pc + 2 = q)
    (K : Go C ws Q k n (T.setTop (mkF C.m q Ls (v :: st)))) : Go C ws Q k n (T.setTop (mkF C.m pc Ls (st))) := by
  obtain ⟨⟨hx, -, rfl, -⟩, ⟨_, X, -⟩, -⟩ := O; subst hq
  exact K.of fun _ kk => XS.aload X.here hx rfl hd hl hv kk
theorem aloadN (O : On l Z ws R own nm bytes maxL ret C T h cells slots) {i : Fin 4} {v : Value} (hd : decode bytes pc = .ok (.aload_n i, 1)) (hl : Ls[i.val]? = some (.val v)) (hv : v.isRef = true) (hq : pc + 1 = q)
    (K : Go C ws Q k n (T.setTop (mkF C.m q Ls (v :: st)))) : Go C ws Q k n (T.setTop (mkF C.m pc Ls (st))) := by
  obtain ⟨⟨hx, -, rfl, -⟩, ⟨_, X, -⟩, -⟩ := O; subst hq
  exact K.of fun _ kk => XS.aloadN X.here hx rfl hd hl hv kk
theorem istore (O : On l Z ws R own nm bytes maxL ret C T h cells slots) {i : Nat} {v : Int32} (hd : decode bytes pc = .ok (.istore i, 2)) (hl : storeLocals Ls i (.int v) = some L') (hq : pc + 2 = q)
    (K : Go C ws Q k n (T.setTop (mkF C.m q L' (st)))) : Go C ws Q k n (T.setTop (mkF C.m pc Ls (.int v :: st))) := by
  obtain ⟨⟨hx, -, rfl, -⟩, ⟨_, X, -⟩, -⟩ := O; subst hq
  exact K.of fun _ kk => XS.istore X.here hx rfl hd rfl hl kk
theorem istoreN (O : On l Z ws R own nm bytes maxL ret C T h cells slots) {i : Fin 4} {v : Int32} (hd : decode bytes pc = .ok (.istore_n i, 1)) (hl : storeLocals Ls i.val (.int v) = some L') (hq : pc + 1 = q)
    (K : Go C ws Q k n (T.setTop (mkF C.m q L' (st)))) : Go C ws Q k n (T.setTop (mkF C.m pc Ls (.int v :: st))) := by
  obtain ⟨⟨hx, -, rfl, -⟩, ⟨_, X, -⟩, -⟩ := O; subst hq
  exact K.of fun _ kk => XS.istoreN X.here hx rfl hd rfl hl kk
theorem lstore (O : On l Z ws R own nm bytes maxL ret C T h cells slots) {i : Nat} {v : Int64} (hd : decode bytes pc = .ok (.lstore i, 2)) (hl : storeLocals Ls i (.long v) = some L') (hq : pc + 2 = q)
    (K : Go C ws Q k n (T.setTop (mkF C.m q L' (st)))) : Go C ws Q k n (T.setTop (mkF C.m pc Ls (.long v :: st))) := by
  obtain ⟨⟨hx, -, rfl, -⟩, ⟨_, X, -⟩, -⟩ := O; subst hq
  exact K.of fun _ kk => XS.lstore X.here hx rfl hd rfl hl kk
theorem lstoreN (O : On l Z ws R own nm bytes maxL ret C T h cells slots) {i : Fin 4} {v : Int64} (hd : decode bytes pc = .ok (.lstore_n i, 1)) (hl : storeLocals Ls i.val (.long v) = some L') (hq : pc + 1 = q)
    (K : Go C ws Q k n (T.setTop (mkF C.m q L' (st)))) : Go C ws Q k n (T.setTop (mkF C.m pc Ls (.long v :: st))) := by
  obtain ⟨⟨hx, -, rfl, -⟩, ⟨_, X, -⟩, -⟩ := O; subst hq
  exact K.of fun _ kk => XS.lstoreN X.here hx rfl hd rfl hl kk
theorem astore (O : On l Z ws R own nm bytes maxL ret C T h cells slots) {i : Nat} {v : Value} (hd : decode bytes pc = .ok (.astore i, 2)) (hv : v.isRef = true) (hl : storeLocals Ls i v = some L') (hq : pc + 2 = q)
    (K : Go C ws Q k n (T.setTop (mkF C.m q L' (st)))) : Go C ws Q k n (T.setTop (mkF C.m pc Ls (v :: st))) := by
  obtain ⟨⟨hx, -, rfl, -⟩, ⟨_, X, -⟩, -⟩ := O; subst hq
  exact K.of fun _ kk => XS.astore X.here hx rfl hd rfl hv hl kk
theorem astoreN (O : On l Z ws R own nm bytes maxL ret C T h cells slots) {i : Fin 4} {v : Value} (hd : decode bytes pc = .ok (.astore_n i, 1)) (hv : v.isRef = true) (hl : storeLocals Ls i.val v = some L') (hq : pc + 1 = q)
    (K : Go C ws Q k n (T.setTop (mkF C.m q L' (st)))) : Go C ws Q k n (T.setTop (mkF C.m pc Ls (v :: st))) := by
  obtain ⟨⟨hx, -, rfl, -⟩, ⟨_, X, -⟩, -⟩ := O; subst hq
  exact K.of fun _ kk => XS.astoreN X.here hx rfl hd rfl hv hl kk
theorem iconst (O : On l Z ws R own nm bytes maxL ret C T h cells slots) {i : Int} {r : Int32} (hd : decode bytes pc = .ok (.iconst i, 1)) (hr : Int32.ofInt i = r) (hq : pc + 1 = q)
    (K : Go C ws Q k n (T.setTop (mkF C.m q Ls (.int r :: st)))) : Go C ws Q k n (T.setTop (mkF C.m pc Ls (st))) := by
  obtain ⟨⟨hx, -, rfl, -⟩, ⟨_, X, -⟩, -⟩ := O; subst hq hr
  exact K.of fun _ kk => XS.iconst X.here hx rfl hd kk
theorem bipush (O : On l Z ws R own nm bytes maxL ret C T h cells slots) {i : Int} {r : Int32} (hd : decode bytes pc = .ok (.bipush i, 2)) (hr : (Int8.ofInt i).toInt32 = r) (hq : pc + 2 = q)
    (K : Go C ws Q k n (T.setTop (mkF C.m q Ls (.int r :: st)))) : Go C ws Q k n (T.setTop (mkF C.m pc Ls (st))) := by
  obtain ⟨⟨hx, -, rfl, -⟩, ⟨_, X, -⟩, -⟩ := O; subst hq hr
  exact K.of fun _ kk => XS.bipush X.here hx rfl hd kk
theorem sipush (O : On l Z ws R own nm bytes maxL ret C T h cells slots) {i : Int} {r : Int32} (hd : decode bytes pc = .ok (.sipush i, 3)) (hr : (Int16.ofInt i).toInt32 = r) (hq : pc + 3 = q)
    (K : Go C ws Q k n (T.setTop (mkF C.m q Ls (.int r :: st)))) : Go C ws Q k n (T.setTop (mkF C.m pc Ls (st))) := by
  obtain ⟨⟨hx, -, rfl, -⟩, ⟨_, X, -⟩, -⟩ := O; subst hq hr
  exact K.of fun _ kk => XS.sipush X.here hx rfl hd kk
theorem lconst (O : On l Z ws R own nm bytes maxL ret C T h cells slots) {i : Fin 2} {r : Int64} (hd : decode bytes pc = .ok (.lconst i, 1)) (hr : Int64.ofNat i = r) (hq : pc + 1 = q)
    (K : Go C ws Q k n (T.setTop (mkF C.m q Ls (.long r :: st)))) : Go C ws Q k n (T.setTop (mkF C.m pc Ls (st))) := by
  obtain ⟨⟨hx, -, rfl, -⟩, ⟨_, X, -⟩, -⟩ := O; subst hq hr
  exact K.of fun _ kk => XS.lconst X.here hx rfl hd kk
theorem aconst_null (O : On l Z ws R own nm bytes maxL ret C T h cells slots)  (hd : decode bytes pc = .ok (.aconst_null, 1))  (hq : pc + 1 = q)
    (K : Go C ws Q k n (T.setTop (mkF C.m q Ls (.null :: st)))) : Go C ws Q k n (T.setTop (mkF C.m pc Ls (st))) := by
  obtain ⟨⟨hx, -, rfl, -⟩, ⟨_, X, -⟩, -⟩ := O; subst hq
  exact K.of fun _ kk => XS.aconstNull X.here hx rfl hd kk
theorem iadd (O : On l Z ws R own nm bytes maxL ret C T h cells slots) {x y r : Int32} (hd : decode bytes pc = .ok (.iadd, 1)) (hr : x + y = r) (hq : pc + 1 = q)
    (K : Go C ws Q k n (T.setTop (mkF C.m q Ls (.int r :: st)))) : Go C ws Q k n (T.setTop (mkF C.m pc Ls (.int y :: .int x :: st))) := by
  obtain ⟨⟨hx, -, rfl, -⟩, ⟨_, X, -⟩, -⟩ := O; subst hq hr
  exact K.of fun _ kk => XS.iadd X.here hx rfl hd rfl kk
theorem isub (O : On l Z ws R own nm bytes maxL ret C T h cells slots) {x y r : Int32} (hd : decode bytes pc = .ok (.isub, 1)) (hr : x - y = r) (hq : pc + 1 = q)
    (K : Go C ws Q k n (T.setTop (mkF C.m q Ls (.int r :: st)))) : Go C ws Q k n (T.setTop (mkF C.m pc Ls (.int y :: .int x :: st))) := by
  obtain ⟨⟨hx, -, rfl, -⟩, ⟨_, X, -⟩, -⟩ := O; subst hq hr
  exact K.of fun _ kk => XS.isub X.here hx rfl hd rfl kk
theorem imul (O : On l Z ws R own nm bytes maxL ret C T h cells slots) {x y r : Int32} (hd : decode bytes pc = .ok (.imul, 1)) (hr : x * y = r) (hq : pc + 1 = q)
    (K : Go C ws Q k n (T.setTop (mkF C.m q Ls (.int r :: st)))) : Go C ws Q k n (T.setTop (mkF C.m pc Ls (.int y :: .int x :: st))) := by
  obtain ⟨⟨hx, -, rfl, -⟩, ⟨_, X, -⟩, -⟩ := O; subst hq hr
  exact K.of fun _ kk => XS.imul X.here hx rfl hd rfl kk
theorem iand (O : On l Z ws R own nm bytes maxL ret C T h cells slots) {x y r : Int32} (hd : decode bytes pc = .ok (.iand, 1)) (hr : x &&& y = r) (hq : pc + 1 = q)
    (K : Go C ws Q k n (T.setTop (mkF C.m q Ls (.int r :: st)))) : Go C ws Q k n (T.setTop (mkF C.m pc Ls (.int y :: .int x :: st))) := by
  obtain ⟨⟨hx, -, rfl, -⟩, ⟨_, X, -⟩, -⟩ := O; subst hq hr
  exact K.of fun _ kk => XS.iand X.here hx rfl hd rfl kk
theorem ior (O : On l Z ws R own nm bytes maxL ret C T h cells slots) {x y r : Int32} (hd : decode bytes pc = .ok (.ior, 1)) (hr : x ||| y = r) (hq : pc + 1 = q)
    (K : Go C ws Q k n (T.setTop (mkF C.m q Ls (.int r :: st)))) : Go C ws Q k n (T.setTop (mkF C.m pc Ls (.int y :: .int x :: st))) := by
  obtain ⟨⟨hx, -, rfl, -⟩, ⟨_, X, -⟩, -⟩ := O; subst hq hr
  exact K.of fun _ kk => XS.ior X.here hx rfl hd rfl kk
theorem ixor (O : On l Z ws R own nm bytes maxL ret C T h cells slots) {x y r : Int32} (hd : decode bytes pc = .ok (.ixor, 1)) (hr : x ^^^ y = r) (hq : pc + 1 = q)
    (K : Go C ws Q k n (T.setTop (mkF C.m q Ls (.int r :: st)))) : Go C ws Q k n (T.setTop (mkF C.m pc Ls (.int y :: .int x :: st))) := by
  obtain ⟨⟨hx, -, rfl, -⟩, ⟨_, X, -⟩, -⟩ := O; subst hq hr
  exact K.of fun _ kk => XS.ixor X.here hx rfl hd rfl kk
theorem ishl (O : On l Z ws R own nm bytes maxL ret C T h cells slots) {x y r : Int32} (hd : decode bytes pc = .ok (.ishl, 1)) (hr : x <<< (y &&& 31) = r) (hq : pc + 1 = q)
    (K : Go C ws Q k n (T.setTop (mkF C.m q Ls (.int r :: st)))) : Go C ws Q k n (T.setTop (mkF C.m pc Ls (.int y :: .int x :: st))) := by
  obtain ⟨⟨hx, -, rfl, -⟩, ⟨_, X, -⟩, -⟩ := O; subst hq hr
  exact K.of fun _ kk => XS.ishl X.here hx rfl hd rfl kk
theorem ishr (O : On l Z ws R own nm bytes maxL ret C T h cells slots) {x y r : Int32} (hd : decode bytes pc = .ok (.ishr, 1)) (hr : x >>> (y &&& 31) = r) (hq : pc + 1 = q)
    (K : Go C ws Q k n (T.setTop (mkF C.m q Ls (.int r :: st)))) : Go C ws Q k n (T.setTop (mkF C.m pc Ls (.int y :: .int x :: st))) := by
  obtain ⟨⟨hx, -, rfl, -⟩, ⟨_, X, -⟩, -⟩ := O; subst hq hr
  exact K.of fun _ kk => XS.ishr X.here hx rfl hd rfl kk
theorem iushr (O : On l Z ws R own nm bytes maxL ret C T h cells slots) {x y r : Int32} (hd : decode bytes pc = .ok (.iushr, 1)) (hr : (x.toUInt32 >>> (y &&& 31).toUInt32).toInt32 = r) (hq : pc + 1 = q)
    (K : Go C ws Q k n (T.setTop (mkF C.m q Ls (.int r :: st)))) : Go C ws Q k n (T.setTop (mkF C.m pc Ls (.int y :: .int x :: st))) := by
  obtain ⟨⟨hx, -, rfl, -⟩, ⟨_, X, -⟩, -⟩ := O; subst hq hr
  exact K.of fun _ kk => XS.iushr X.here hx rfl hd rfl kk
theorem idiv (O : On l Z ws R own nm bytes maxL ret C T h cells slots) {x y r : Int32} (hd : decode bytes pc = .ok (.idiv, 1)) (hy : y ≠ 0) (hr : x / y = r) (hq : pc + 1 = q)
    (K : Go C ws Q k n (T.setTop (mkF C.m q Ls (.int r :: st)))) : Go C ws Q k n (T.setTop (mkF C.m pc Ls (.int y :: .int x :: st))) := by
  obtain ⟨⟨hx, -, rfl, -⟩, ⟨_, X, -⟩, -⟩ := O; subst hq hr
  exact K.of fun _ kk => XS.idiv X.here hx rfl hd rfl hy kk
theorem irem (O : On l Z ws R own nm bytes maxL ret C T h cells slots) {x y r : Int32} (hd : decode bytes pc = .ok (.irem, 1)) (hy : y ≠ 0) (hr : x % y = r) (hq : pc + 1 = q)
    (K : Go C ws Q k n (T.setTop (mkF C.m q Ls (.int r :: st)))) : Go C ws Q k n (T.setTop (mkF C.m pc Ls (.int y :: .int x :: st))) := by
  obtain ⟨⟨hx, -, rfl, -⟩, ⟨_, X, -⟩, -⟩ := O; subst hq hr; rw [← irem_eq_mod] at K
  exact K.of fun _ kk => XS.irem X.here hx rfl hd rfl hy kk
theorem ladd (O : On l Z ws R own nm bytes maxL ret C T h cells slots) {x y r : Int64} (hd : decode bytes pc = .ok (.ladd, 1)) (hr : x + y = r) (hq : pc + 1 = q)
    (K : Go C ws Q k n (T.setTop (mkF C.m q Ls (.long r :: st)))) : Go C ws Q k n (T.setTop (mkF C.m pc Ls (.long y :: .long x :: st))) := by
  obtain ⟨⟨hx, -, rfl, -⟩, ⟨_, X, -⟩, -⟩ := O; subst hq hr
  exact K.of fun _ kk => XS.ladd X.here hx rfl hd rfl kk
theorem lsub (O : On l Z ws R own nm bytes maxL ret C T h cells slots) {x y r : Int64} (hd : decode bytes pc = .ok (.lsub, 1)) (hr : x - y = r) (hq : pc + 1 = q)
    (K : Go C ws Q k n (T.setTop (mkF C.m q Ls (.long r :: st)))) : Go C ws Q k n (T.setTop (mkF C.m pc Ls (.long y :: .long x :: st))) := by
  obtain ⟨⟨hx, -, rfl, -⟩, ⟨_, X, -⟩, -⟩ := O; subst hq hr
  exact K.of fun _ kk => XS.lsub X.here hx rfl hd rfl kk
theorem lmul (O : On l Z ws R own nm bytes maxL ret C T h cells slots) {x y r : Int64} (hd : decode bytes pc = .ok (.lmul, 1)) (hr : x * y = r) (hq : pc + 1 = q)
    (K : Go C ws Q k n (T.setTop (mkF C.m q Ls (.long r :: st)))) : Go C ws Q k n (T.setTop (mkF C.m pc Ls (.long y :: .long x :: st))) := by
  obtain ⟨⟨hx, -, rfl, -⟩, ⟨_, X, -⟩, -⟩ := O; subst hq hr
  exact K.of fun _ kk => XS.lmul X.here hx rfl hd rfl kk
theorem land (O : On l Z ws R own nm bytes maxL ret C T h cells slots) {x y r : Int64} (hd : decode bytes pc = .ok (.land, 1)) (hr : x &&& y = r) (hq : pc + 1 = q)
    (K : Go C ws Q k n (T.setTop (mkF C.m q Ls (.long r :: st)))) : Go C ws Q k n (T.setTop (mkF C.m pc Ls (.long y :: .long x :: st))) := by
  obtain ⟨⟨hx, -, rfl, -⟩, ⟨_, X, -⟩, -⟩ := O; subst hq hr
  exact K.of fun _ kk => XS.land X.here hx rfl hd rfl kk
theorem lor (O : On l Z ws R own nm bytes maxL ret C T h cells slots) {x y r : Int64} (hd : decode bytes pc = .ok (.lor, 1)) (hr : x ||| y = r) (hq : pc + 1 = q)
    (K : Go C ws Q k n (T.setTop (mkF C.m q Ls (.long r :: st)))) : Go C ws Q k n (T.setTop (mkF C.m pc Ls (.long y :: .long x :: st))) := by
  obtain ⟨⟨hx, -, rfl, -⟩, ⟨_, X, -⟩, -⟩ := O; subst hq hr
  exact K.of fun _ kk => XS.lor X.here hx rfl hd rfl kk
theorem lxor (O : On l Z ws R own nm bytes maxL ret C T h cells slots) {x y r : Int64} (hd : decode bytes pc = .ok (.lxor, 1)) (hr : x ^^^ y = r) (hq : pc + 1 = q)
    (K : Go C ws Q k n (T.setTop (mkF C.m q Ls (.long r :: st)))) : Go C ws Q k n (T.setTop (mkF C.m pc Ls (.long y :: .long x :: st))) := by
  obtain ⟨⟨hx, -, rfl, -⟩, ⟨_, X, -⟩, -⟩ := O; subst hq hr
  exact K.of fun _ kk => XS.lxor X.here hx rfl hd rfl kk
theorem ldiv (O : On l Z ws R own nm bytes maxL ret C T h cells slots) {x y r : Int64} (hd : decode bytes pc = .ok (.ldiv, 1)) (hy : y ≠ 0) (hr : x / y = r) (hq : pc + 1 = q)
    (K : Go C ws Q k n (T.setTop (mkF C.m q Ls (.long r :: st)))) : Go C ws Q k n (T.setTop (mkF C.m pc Ls (.long y :: .long x :: st))) := by
  obtain ⟨⟨hx, -, rfl, -⟩, ⟨_, X, -⟩, -⟩ := O; subst hq hr
  exact K.of fun _ kk => XS.ldiv X.here hx rfl hd rfl hy kk
theorem lrem (O : On l Z ws R own nm bytes maxL ret C T h cells slots) {x y r : Int64} (hd : decode bytes pc = .ok (.lrem, 1)) (hy : y ≠ 0) (hr : x % y = r) (hq : pc + 1 = q)
    (K : Go C ws Q k n (T.setTop (mkF C.m q Ls (.long r :: st)))) : Go C ws Q k n (T.setTop (mkF C.m pc Ls (.long y :: .long x :: st))) := by
  obtain ⟨⟨hx, -, rfl, -⟩, ⟨_, X, -⟩, -⟩ := O; subst hq hr; rw [← lrem_mod] at K
  exact K.of fun _ kk => XS.lrem X.here hx rfl hd rfl hy kk
theorem lshl (O : On l Z ws R own nm bytes maxL ret C T h cells slots) {x r : Int64} {y : Int32} (hd : decode bytes pc = .ok (.lshl, 1)) (hr : x <<< (y &&& 0x3f).toInt64 = r) (hq : pc + 1 = q)
    (K : Go C ws Q k n (T.setTop (mkF C.m q Ls (.long r :: st)))) : Go C ws Q k n (T.setTop (mkF C.m pc Ls (.int y :: .long x :: st))) := by
  obtain ⟨⟨hx, -, rfl, -⟩, ⟨_, X, -⟩, -⟩ := O; subst hq hr
  exact K.of fun _ kk => XS.lshl X.here hx rfl hd rfl kk
theorem lshr (O : On l Z ws R own nm bytes maxL ret C T h cells slots) {x r : Int64} {y : Int32} (hd : decode bytes pc = .ok (.lshr, 1)) (hr : x >>> (y &&& 0x3f).toInt64 = r) (hq : pc + 1 = q)
    (K : Go C ws Q k n (T.setTop (mkF C.m q Ls (.long r :: st)))) : Go C ws Q k n (T.setTop (mkF C.m pc Ls (.int y :: .long x :: st))) := by
  obtain ⟨⟨hx, -, rfl, -⟩, ⟨_, X, -⟩, -⟩ := O; subst hq hr
  exact K.of fun _ kk => XS.lshr X.here hx rfl hd rfl kk
theorem lushr (O : On l Z ws R own nm bytes maxL ret C T h cells slots) {x r : Int64} {y : Int32} (hd : decode bytes pc = .ok (.lushr, 1)) (hr : (x.toUInt64 >>> (y &&& 0x3f).toInt64.toUInt64).toInt64 = r) (hq : pc + 1 = q)
    (K : Go C ws Q k n (T.setTop (mkF C.m q Ls (.long r :: st)))) : Go C ws Q k n (T.setTop (mkF C.m pc Ls (.int y :: .long x :: st))) := by
  obtain ⟨⟨hx, -, rfl, -⟩, ⟨_, X, -⟩, -⟩ := O; subst hq hr
  exact K.of fun _ kk => XS.lushr X.here hx rfl hd rfl kk
theorem ineg (O : On l Z ws R own nm bytes maxL ret C T h cells slots) {x : Int32} {r : Int32} (hd : decode bytes pc = .ok (.ineg, 1)) (hr : -x = r) (hq : pc + 1 = q)
    (K : Go C ws Q k n (T.setTop (mkF C.m q Ls (.int r :: st)))) : Go C ws Q k n (T.setTop (mkF C.m pc Ls (.int x :: st))) := by
  obtain ⟨⟨hx, -, rfl, -⟩, ⟨_, X, -⟩, -⟩ := O; subst hq hr
  exact K.of fun _ kk => XS.ineg X.here hx rfl hd rfl kk
theorem lneg (O : On l Z ws R own nm bytes maxL ret C T h cells slots) {x : Int64} {r : Int64} (hd : decode bytes pc = .ok (.lneg, 1)) (hr : -x = r) (hq : pc + 1 = q)
    (K : Go C ws Q k n (T.setTop (mkF C.m q Ls (.long r :: st)))) : Go C ws Q k n (T.setTop (mkF C.m pc Ls (.long x :: st))) := by
  obtain ⟨⟨hx, -, rfl, -⟩, ⟨_, X, -⟩, -⟩ := O; subst hq hr
  exact K.of fun _ kk => XS.lneg X.here hx rfl hd rfl kk
theorem i2l (O : On l Z ws R own nm bytes maxL ret C T h cells slots) {x : Int32} {r : Int64} (hd : decode bytes pc = .ok (.i2l, 1)) (hr : x.toInt64 = r) (hq : pc + 1 = q)
    (K : Go C ws Q k n (T.setTop (mkF C.m q Ls (.long r :: st)))) : Go C ws Q k n (T.setTop (mkF C.m pc Ls (.int x :: st))) := by
  obtain ⟨⟨hx, -, rfl, -⟩, ⟨_, X, -⟩, -⟩ := O; subst hq hr
  exact K.of fun _ kk => XS.i2l X.here hx rfl hd rfl kk
theorem l2i (O : On l Z ws R own nm bytes maxL ret C T h cells slots) {x : Int64} {r : Int32} (hd : decode bytes pc = .ok (.l2i, 1)) (hr : x.toInt32 = r) (hq : pc + 1 = q)
    (K : Go C ws Q k n (T.setTop (mkF C.m q Ls (.int r :: st)))) : Go C ws Q k n (T.setTop (mkF C.m pc Ls (.long x :: st))) := by
  obtain ⟨⟨hx, -, rfl, -⟩, ⟨_, X, -⟩, -⟩ := O; subst hq hr
  exact K.of fun _ kk => XS.l2i X.here hx rfl hd rfl kk
theorem i2b (O : On l Z ws R own nm bytes maxL ret C T h cells slots) {x : Int32} {r : Int32} (hd : decode bytes pc = .ok (.i2b, 1)) (hr : x.toInt8.toInt32 = r) (hq : pc + 1 = q)
    (K : Go C ws Q k n (T.setTop (mkF C.m q Ls (.int r :: st)))) : Go C ws Q k n (T.setTop (mkF C.m pc Ls (.int x :: st))) := by
  obtain ⟨⟨hx, -, rfl, -⟩, ⟨_, X, -⟩, -⟩ := O; subst hq hr
  exact K.of fun _ kk => XS.i2b X.here hx rfl hd rfl kk
theorem i2c (O : On l Z ws R own nm bytes maxL ret C T h cells slots) {x : Int32} {r : Int32} (hd : decode bytes pc = .ok (.i2c, 1)) (hr : x.toUInt32.toUInt16.toUInt32.toInt32 = r) (hq : pc + 1 = q)
    (K : Go C ws Q k n (T.setTop (mkF C.m q Ls (.int r :: st)))) : Go C ws Q k n (T.setTop (mkF C.m pc Ls (.int x :: st))) := by
  obtain ⟨⟨hx, -, rfl, -⟩, ⟨_, X, -⟩, -⟩ := O; subst hq hr
  exact K.of fun _ kk => XS.i2c X.here hx rfl hd rfl kk
theorem i2s (O : On l Z ws R own nm bytes maxL ret C T h cells slots) {x : Int32} {r : Int32} (hd : decode bytes pc = .ok (.i2s, 1)) (hr : x.toInt16.toInt32 = r) (hq : pc + 1 = q)
    (K : Go C ws Q k n (T.setTop (mkF C.m q Ls (.int r :: st)))) : Go C ws Q k n (T.setTop (mkF C.m pc Ls (.int x :: st))) := by
  obtain ⟨⟨hx, -, rfl, -⟩, ⟨_, X, -⟩, -⟩ := O; subst hq hr
  exact K.of fun _ kk => XS.i2s X.here hx rfl hd rfl kk
theorem lcmp (O : On l Z ws R own nm bytes maxL ret C T h cells slots) {x y : Int64} {r : Int32} (hd : decode bytes pc = .ok (.lcmp, 1)) (hr : lcmpW x y = r) (hq : pc + 1 = q)
    (K : Go C ws Q k n (T.setTop (mkF C.m q Ls (.int r :: st)))) : Go C ws Q k n (T.setTop (mkF C.m pc Ls (.long y :: .long x :: st))) := by
  obtain ⟨⟨hx, -, rfl, -⟩, ⟨_, X, -⟩, -⟩ := O; subst hq hr
  exact K.of fun _ kk => XS.lcmp X.here hx rfl hd rfl kk
theorem iinc (O : On l Z ws R own nm bytes maxL ret C T h cells slots) {i : Nat} {cst : Int} {x : Int32} (hd : decode bytes pc = .ok (.iinc i cst, 3)) (hl : Ls[i]? = some (.val (.int x))) (hl' : storeLocals Ls i (.int (x + Int32.ofInt cst)) = some L') (hq : pc + 3 = q)
    (K : Go C ws Q k n (T.setTop (mkF C.m q L' (st)))) : Go C ws Q k n (T.setTop (mkF C.m pc Ls (st))) := by
  obtain ⟨⟨hx, -, rfl, -⟩, ⟨_, X, -⟩, -⟩ := O; subst hq
  exact K.of fun _ kk => XS.iinc X.here hx rfl hd hl hl' kk
theorem dup (O : On l Z ws R own nm bytes maxL ret C T h cells slots) {v : Value} (hd : decode bytes pc = .ok (.dup, 1)) (hc : v.category = 1) (hq : pc + 1 = q)
    (K : Go C ws Q k n (T.setTop (mkF C.m q Ls (v :: v :: st)))) : Go C ws Q k n (T.setTop (mkF C.m pc Ls (v :: st))) := by
  obtain ⟨⟨hx, -, rfl, -⟩, ⟨_, X, -⟩, -⟩ := O; subst hq
  exact K.of fun _ kk => XS.dup X.here hx rfl hd rfl hc kk
theorem pop (O : On l Z ws R own nm bytes maxL ret C T h cells slots) {v : Value} (hd : decode bytes pc = .ok (.pop, 1)) (hc : v.category = 1) (hq : pc + 1 = q)
    (K : Go C ws Q k n (T.setTop (mkF C.m q Ls (st)))) : Go C ws Q k n (T.setTop (mkF C.m pc Ls (v :: st))) := by
  obtain ⟨⟨hx, -, rfl, -⟩, ⟨_, X, -⟩, -⟩ := O; subst hq
  exact K.of fun _ kk => XS.pop X.here hx rfl hd rfl hc kk
theorem dup_x1 (O : On l Z ws R own nm bytes maxL ret C T h cells slots) {v w : Value} (hd : decode bytes pc = .ok (.dup_x1, 1)) (hc : v.category = 1) (hc' : w.category = 1) (hq : pc + 1 = q)
    (K : Go C ws Q k n (T.setTop (mkF C.m q Ls (v :: w :: v :: st)))) : Go C ws Q k n (T.setTop (mkF C.m pc Ls (v :: w :: st))) := by
  obtain ⟨⟨hx, -, rfl, -⟩, ⟨_, X, -⟩, -⟩ := O; subst hq
  exact K.of fun _ kk => XS.dupX1 X.here hx rfl hd rfl hc hc' kk
theorem dup2 (O : On l Z ws R own nm bytes maxL ret C T h cells slots) {v w : Value} (hd : decode bytes pc = .ok (.dup2, 1)) (hc : v.category = 1) (hc' : w.category = 1) (hq : pc + 1 = q)
    (K : Go C ws Q k n (T.setTop (mkF C.m q Ls (v :: w :: v :: w :: st)))) : Go C ws Q k n (T.setTop (mkF C.m pc Ls (v :: w :: st))) := by
  obtain ⟨⟨hx, -, rfl, -⟩, ⟨_, X, -⟩, -⟩ := O; subst hq
  exact K.of fun _ kk => XT.dup2 X.here hx rfl hd rfl hc hc' kk
theorem dup2L (O : On l Z ws R own nm bytes maxL ret C T h cells slots) {v : Int64} (hd : decode bytes pc = .ok (.dup2, 1))  (hq : pc + 1 = q)
    (K : Go C ws Q k n (T.setTop (mkF C.m q Ls (.long v :: .long v :: st)))) : Go C ws Q k n (T.setTop (mkF C.m pc Ls (.long v :: st))) := by
  obtain ⟨⟨hx, -, rfl, -⟩, ⟨_, X, -⟩, -⟩ := O; subst hq
  exact K.of fun _ kk => XT.dup2L X.here hx rfl hd rfl kk
theorem goto (O : On l Z ws R own nm bytes maxL ret C T h cells slots)  {o : Int} (hd : decode bytes pc = .ok (.goto o, 3))  (ho : 0 ≤ (pc : Int) + o) (hq : ((pc : Int) + o).toNat = q)
    (K : Go C ws Q k n (T.setTop (mkF C.m q Ls st))) : Go C ws Q k n (T.setTop (mkF C.m pc Ls (st))) := by
  obtain ⟨⟨hx, -, rfl, -⟩, ⟨_, X, -⟩, -⟩ := O
  exact K.of fun _ kk => XS.goto X.here hx rfl (pc0 := pc) (pc' := q) rfl hd  ho hq kk
theorem ifYes (O : On l Z ws R own nm bytes maxL ret C T h cells slots) {cd : ClassFile.Cond} {x : Int32} {o : Int} (hd : decode bytes pc = .ok (.ifCond cd o, 3)) (hc : ifCond.holds cd x = true) (ho : 0 ≤ (pc : Int) + o) (hq : ((pc : Int) + o).toNat = q)
    (K : Go C ws Q k n (T.setTop (mkF C.m q Ls st))) : Go C ws Q k n (T.setTop (mkF C.m pc Ls (.int x :: st))) := by
  obtain ⟨⟨hx, -, rfl, -⟩, ⟨_, X, -⟩, -⟩ := O
  exact K.of fun _ kk => XS.ifYes X.here hx rfl (pc0 := pc) (pc' := q) rfl hd rfl hc ho hq kk
theorem icmpYes (O : On l Z ws R own nm bytes maxL ret C T h cells slots) {cd : ClassFile.Cond} {x y : Int32} {o : Int} (hd : decode bytes pc = .ok (.if_icmp cd o, 3)) (hc : if_icmp.holds cd x y = true) (ho : 0 ≤ (pc : Int) + o) (hq : ((pc : Int) + o).toNat = q)
    (K : Go C ws Q k n (T.setTop (mkF C.m q Ls st))) : Go C ws Q k n (T.setTop (mkF C.m pc Ls (.int y :: .int x :: st))) := by
  obtain ⟨⟨hx, -, rfl, -⟩, ⟨_, X, -⟩, -⟩ := O
  exact K.of fun _ kk => XS.icmpYes X.here hx rfl (pc0 := pc) (pc' := q) rfl hd rfl hc ho hq kk
theorem ifnullYes (O : On l Z ws R own nm bytes maxL ret C T h cells slots)  {o : Int} (hd : decode bytes pc = .ok (.ifnull o, 3))  (ho : 0 ≤ (pc : Int) + o) (hq : ((pc : Int) + o).toNat = q)
    (K : Go C ws Q k n (T.setTop (mkF C.m q Ls st))) : Go C ws Q k n (T.setTop (mkF C.m pc Ls (.null :: st))) := by
  obtain ⟨⟨hx, -, rfl, -⟩, ⟨_, X, -⟩, -⟩ := O
  exact K.of fun _ kk => XS.ifnullYes X.here hx rfl (pc0 := pc) (pc' := q) rfl hd rfl ho hq kk
theorem ifnonnullYes (O : On l Z ws R own nm bytes maxL ret C T h cells slots) {b : Addr} {o : Int} (hd : decode bytes pc = .ok (.ifnonnull o, 3))  (ho : 0 ≤ (pc : Int) + o) (hq : ((pc : Int) + o).toNat = q)
    (K : Go C ws Q k n (T.setTop (mkF C.m q Ls st))) : Go C ws Q k n (T.setTop (mkF C.m pc Ls (.ref b :: st))) := by
  obtain ⟨⟨hx, -, rfl, -⟩, ⟨_, X, -⟩, -⟩ := O
  exact K.of fun _ kk => XS.ifnonnullYes X.here hx rfl (pc0 := pc) (pc' := q) rfl hd rfl ho hq kk
theorem ifNo (O : On l Z ws R own nm bytes maxL ret C T h cells slots) {cd : ClassFile.Cond} {x : Int32} {o : Int} (hd : decode bytes pc = .ok (.ifCond cd o, 3)) (hc : ifCond.holds cd x = false) (hq : pc + 3 = q)
    (K : Go C ws Q k n (T.setTop (mkF C.m q Ls (st)))) : Go C ws Q k n (T.setTop (mkF C.m pc Ls (.int x :: st))) := by
  obtain ⟨⟨hx, -, rfl, -⟩, ⟨_, X, -⟩, -⟩ := O; subst hq
  exact K.of fun _ kk => XS.ifNo X.here hx rfl hd rfl hc kk
theorem icmpNo (O : On l Z ws R own nm bytes maxL ret C T h cells slots) {cd : ClassFile.Cond} {x y : Int32} {o : Int} (hd : decode bytes pc = .ok (.if_icmp cd o, 3)) (hc : if_icmp.holds cd x y = false) (hq : pc + 3 = q)
    (K : Go C ws Q k n (T.setTop (mkF C.m q Ls (st)))) : Go C ws Q k n (T.setTop (mkF C.m pc Ls (.int y :: .int x :: st))) := by
  obtain ⟨⟨hx, -, rfl, -⟩, ⟨_, X, -⟩, -⟩ := O; subst hq
  exact K.of fun _ kk => XS.icmpNo X.here hx rfl hd rfl hc kk
theorem ifnullNo (O : On l Z ws R own nm bytes maxL ret C T h cells slots) {b : Addr} {o : Int} (hd : decode bytes pc = .ok (.ifnull o, 3))  (hq : pc + 3 = q)
    (K : Go C ws Q k n (T.setTop (mkF C.m q Ls (st)))) : Go C ws Q k n (T.setTop (mkF C.m pc Ls (.ref b :: st))) := by
  obtain ⟨⟨hx, -, rfl, -⟩, ⟨_, X, -⟩, -⟩ := O; subst hq
  exact K.of fun _ kk => XS.ifnullNo X.here hx rfl hd rfl kk
theorem ifnonnullNo (O : On l Z ws R own nm bytes maxL ret C T h cells slots) {o : Int} (hd : decode bytes pc = .ok (.ifnonnull o, 3))  (hq : pc + 3 = q)
    (K : Go C ws Q k n (T.setTop (mkF C.m q Ls (st)))) : Go C ws Q k n (T.setTop (mkF C.m pc Ls (.null :: st))) := by
  obtain ⟨⟨hx, -, rfl, -⟩, ⟨_, X, -⟩, -⟩ := O; subst hq
  exact K.of fun _ kk => XS.ifnonnullNo X.here hx rfl hd rfl kk
theorem acmp (O : On l Z ws R own nm bytes maxL ret C T h cells slots) {cd : ACond} {x y : Value} {o : Int} {same : Bool} (hd : decode bytes pc = .ok (.if_acmp cd o, 3)) (h1 : x.isRef = true) (h2 : y.isRef = true) (hs : decide (x = y) = same) (ho : 0 ≤ (pc : Int) + o) (hq : q = if acV cd same = true then ((pc : Int) + o).toNat else pc + 3)
    (K : Go C ws Q k n (T.setTop (mkF C.m q Ls st))) : Go C ws Q k n (T.setTop (mkF C.m pc Ls (y :: x :: st))) := by
  obtain ⟨⟨hx, -, rfl, -⟩, ⟨_, X, -⟩, -⟩ := O
  exact K.of fun _ kk => Jvm.RoadKit.acmp (g := mkF C.m pc Ls (y :: x :: st)) X hx rfl h1 h2 (pc0 := pc) (pc' := q) rfl hd rfl hs ho hq kk
theorem ldcI (O : On l Z ws R own nm bytes maxL ret C T h cells slots) {i : Nat} {v : Int32} (hd : decode bytes pc = .ok (.ldc i, 2)) (w : (Cond.constant own i v).before a0 Z = true) (hq : pc + 2 = q)
    (K : Go C ws Q k n (T.setTop (mkF C.m q Ls (.int v :: st)))) : Go C ws Q k n (T.setTop (mkF C.m pc Ls st)) := by
  obtain ⟨⟨hx, hZ, rfl, -, hown, -⟩, ⟨_, X, -⟩, -⟩ := O; subst hq
  exact K.of fun _ kk => X.ldcInt hx hown (mvT hZ w) (g := mkF C.m pc Ls st) rfl hd _ kk
theorem ldcwI (O : On l Z ws R own nm bytes maxL ret C T h cells slots) {i : Nat} {v : Int32} (hd : decode bytes pc = .ok (.ldc_w i, 3)) (w : (Cond.constant own i v).before a0 Z = true) (hq : pc + 3 = q)
    (K : Go C ws Q k n (T.setTop (mkF C.m q Ls (.int v :: st)))) : Go C ws Q k n (T.setTop (mkF C.m pc Ls st)) := by
  obtain ⟨⟨hx, hZ, rfl, -, hown, -⟩, ⟨_, X, -⟩, -⟩ := O; subst hq
  exact K.of fun _ kk => X.ldcwInt hx hown (mvT hZ w) (g := mkF C.m pc Ls st) rfl hd _ kk
theorem ldcL (O : On l Z ws R own nm bytes maxL ret C T h cells slots) {i : Nat} {v : Int64} (hd : decode bytes pc = .ok (.ldc2_w i, 3)) (w : (Cond.constantLong own i v).before a0 Z = true) (hq : pc + 3 = q)
    (K : Go C ws Q k n (T.setTop (mkF C.m q Ls (.long v :: st)))) : Go C ws Q k n (T.setTop (mkF C.m pc Ls st)) := by
  obtain ⟨⟨hx, hZ, rfl, -, hown, -⟩, ⟨_, X, -⟩, -⟩ := O; subst hq
  exact K.of fun _ kk => X.ldc2Long hx hown (mvT hZ w) (g := mkF C.m pc Ls st) rfl hd _ kk
theorem getF (O : On l Z ws R own nm bytes maxL ret C T h cells slots) {i : Nat} {R0 D f d host : String} {a : Addr} {v : Value} (hd : decode bytes pc = .ok (.getfield i, 3)) (w : (Cond.fieldLink own i R0 f d).before a0 Z = true ∨ (Cond.fieldLinkNest own i R0 f d host).before a0 Z = true) (via : Via Z R0 D f d) (F : Fld Z h a D f d v) (hq : pc + 3 = q)
    (K : ∀ T', On l Z ws R own nm bytes maxL ret C T' h cells slots → Go C ws Q k n (T'.setTop (mkF C.m q Ls (v :: st)))) : Go C ws Q k n (T.setTop (mkF C.m pc Ls (.ref a :: st))) := by
  obtain ⟨⟨hx, hZ, rfl, r1, hown, r2⟩, ⟨_, X, N⟩, eT⟩ := O; subst hq
  obtain ⟨T', X', e', stp⟩ := Jvm.RoadKit.getF X hx hZ hown w via eT F (g := mkF C.m pc Ls (.ref a :: st)) rfl rfl hd
  exact (K T' ⟨⟨hx, hZ, rfl, r1, hown, r2⟩, ⟨_, X', N⟩, e'⟩).of fun _ kk => stp _ kk
theorem getS (O : On l Z ws R own nm bytes maxL ret C T h cells slots) {i : Nat} {D f d : String} {v : Value} (hd : decode bytes pc = .ok (.getstatic i, 3)) (w : (Cond.fieldLink own i D f d).before a0 Z = true) (F : Sta Z h D f d v) (hq : pc + 3 = q)
    (K : ∀ T', On l Z ws R own nm bytes maxL ret C T' h cells slots → Go C ws Q k n (T'.setTop (mkF C.m q Ls (v :: st)))) : Go C ws Q k n (T.setTop (mkF C.m pc Ls st)) := by
  obtain ⟨⟨hx, hZ, rfl, r1, hown, r2⟩, ⟨_, X, N⟩, eT⟩ := O; subst hq
  obtain ⟨T', X', e', stp⟩ := Jvm.RoadKit.getS (host := "") X hx hZ hown w Via.refl eT F (g := mkF C.m pc Ls st) rfl hd
  exact (K T' ⟨⟨hx, hZ, rfl, r1, hown, r2⟩, ⟨_, X', N⟩, e'⟩).of fun _ kk => stp _ kk
theorem putF (O : On l Z ws R own nm bytes maxL ret C T h cells slots) {i kk : Nat} {R0 D f d host K0 : String} {ty : FieldType} {a : Addr} {v old : Value} (hd : decode bytes pc = .ok (.putfield i, 3)) (w : (Cond.fieldLink own i R0 f d).before a0 Z = true ∨ (Cond.fieldLinkNest own i R0 f d host).before a0 Z = true) (via : Via Z R0 D f d)
    (F : Fld Z h a D f d old) (E : Exa Z h a K0) (L : (Cond.lays K0 D f d).before a0 Z = true ∨ ((Cond.laysFinal K0 D f d).before a0 Z = true ∧ own = D ∧ nm = "<init>")) (wi : (Cond.instantiable K0 kk).before a0 Z = true) (hty : parseFieldDescriptor d = some ty) (hn : narrow ty v = v) (hf : fits ty v = true) (ha : a ∈ ws ∨ C.s.heap.size ≤ a) (hq : pc + 3 = q)
    (K : ∀ T' h', On l Z ws R own nm bytes maxL ret C T' h' cells slots → Wr h h' a (Jvm.RoadKit.slotOf Z D f d) v → Go C ws Q k n (T'.setTop (mkF C.m q Ls st))) : Go C ws Q k n (T.setTop (mkF C.m pc Ls (v :: .ref a :: st))) := by
  obtain ⟨⟨hx, hZ, rfl, r1, hown, hnm, r2⟩, ⟨_, X, N⟩, eT⟩ := O; subst hq
  obtain ⟨T', h', X', e', W, stp⟩ := Jvm.RoadKit.putF X hx hZ hown w via eT F E (L.imp id fun q => ⟨q.1, q.2.1, hnm.trans q.2.2⟩) wi hty hn hf (g := mkF C.m pc Ls (v :: .ref a :: st)) rfl rfl hd
  exact (K T' h' ⟨⟨hx, hZ, rfl, r1, hown, hnm, r2⟩, ⟨_, X', N.snoc ha⟩, e'⟩ W).of fun _ kk => stp _ kk
theorem newO (O : On l Z ws R own nm bytes maxL ret C T h cells slots) {i ns c2 s2 : Nat} {K0 : String} (hd : decode bytes pc = .ok (.new i, 3)) (w : (Cond.classLink own i K0).before a0 Z = true) (wi : (Cond.instantiable K0 ns).before a0 Z = true) (wz : (Cond.initialized K0).before a0 Z = true) (hc2 : cells + 1 = c2) (hs2 : slots + ns = s2) (hc : c2 ≤ R.cells) (hl : s2 ≤ R.slots) (hq : pc + 3 = q)
    (K : ∀ a T' h', a = h.size → C.s.heap.size ≤ a → On l Z ws R own nm bytes maxL ret C T' h' c2 s2 → Ext h h' → Exa Z h' a K0 → (∀ {O nm d : String} {ty : FieldType}, Laid Z a0 K0 O nm d → parseFieldDescriptor d = some ty → Fld Z h' a O nm d (defaultValue ty)) → Go C ws Q k n (T'.setTop (mkF C.m q Ls (.ref a :: st)))) : Go C ws Q k n (T.setTop (mkF C.m pc Ls st)) := by
  obtain ⟨⟨hx, hZ, rfl, r1, hown, r2⟩, ⟨_, X, N⟩, eT⟩ := O; subst hq hc2 hs2
  obtain ⟨T', h', X', e', E, A, D, -, stp⟩ := Jvm.RoadKit.newO X hx hZ hown w wi wz eT (g := mkF C.m pc Ls st) rfl hd hc hl
  exact (K _ T' h' rfl (eT ▸ X.same.2.1) ⟨⟨hx, hZ, rfl, r1, hown, r2⟩, ⟨_, X', N⟩, e'⟩ E A D).of fun _ kk => stp _ kk
theorem newP (O : On l Z ws R own nm bytes maxL ret C T h cells slots) {aty : ArrayType} {c2 s2 : Nat} (hd : decode bytes pc = .ok (.newarray aty, 2)) (w : (Cond.arrayClass (newarray.typeOf aty)).before a0 Z = true) {z : Int32} (hn : ¬ z < 0) {cap : Nat} (hcap : z.toNatClampNeg ≤ cap) (hb : cap * 8 ≤ 536870912) (hc2 : cells + 1 = c2) (hs2 : slots + cap = s2) (hc : c2 ≤ R.cells) (hl : s2 ≤ R.slots) (hq : pc + 2 = q)
    (K : ∀ a T' h' cA, a = h.size → C.s.heap.size ≤ a → On l Z ws R own nm bytes maxL ret C T' h' c2 s2 → Ext h h' → Arr Z h' a (newA cA (newarray.typeOf aty) z) (newarray.typeOf aty) → Go C ws Q k n (T'.setTop (mkF C.m q Ls (.ref a :: st)))) : Go C ws Q k n (T.setTop (mkF C.m pc Ls (.int z :: st))) := by
  obtain ⟨⟨hx, hZ, rfl, r1, hown, r2⟩, ⟨_, X, N⟩, eT⟩ := O; subst hq hc2 hs2
  obtain ⟨T', h', cA, X', e', E, A, stp⟩ := Jvm.RoadKit.newP X hx hZ w eT (g := mkF C.m pc Ls (.int z :: st)) rfl hd rfl hn hcap hb hc hl
  exact (K _ T' h' cA rfl (eT ▸ X.same.2.1) ⟨⟨hx, hZ, rfl, r1, hown, r2⟩, ⟨_, X', N⟩, e'⟩ E A).of fun _ kk => stp _ kk
theorem initO (O : On l Z ws R own nm bytes maxL ret C T h cells slots) {i : Nat} {a : Addr} (hd : decode bytes pc = .ok (.invokespecial i, 3)) (w1 : (Cond.methodLink own i Lib.objectInit).before a0 Z = true) (w2 : (Cond.instanceMethod Lib.objectInit).before a0 Z = true) (w3 : (Cond.code Lib.objectInit ⟨#[0xb1]⟩ 1 none).before a0 Z = true) (hsz : Ls.size = maxL) (hf : 1 ≤ R.frames) {W : Nat} (hW : (st.map fun v => v.category).sum ≤ W) (hl : W + 12 ≤ R.locals) (hq : pc + 3 = q)
    (K : ∀ T', On l Z ws R own nm bytes maxL ret C T' h cells slots → Go C ws Q k n (T'.setTop (mkF C.m q Ls st))) : Go C ws Q k n (T.setTop (mkF C.m pc Ls (.ref a :: st))) := by
  obtain ⟨⟨hx, hZ, rfl, r1, hown, r2⟩, ⟨_, X, N⟩, eT⟩ := O; subst hq
  obtain ⟨T', X', e', stp⟩ := Jvm.RoadKit.initO X hx hZ hown w1 w2 w3 eT (g := mkF C.m pc Ls (.ref a :: st)) rfl (hsz.trans r1.symm) rfl hd hf (W := W) (by show 2 * 0 + _ ≤ _; rw [Nat.mul_zero, Nat.zero_add]; exact hW) hl
  exact (K T' ⟨⟨hx, hZ, rfl, r1, hown, r2⟩, ⟨_, X', N⟩, e'⟩).of fun _ kk => stp _ kk
theorem iaload (O : On l Z ws R own nm bytes maxL ret C T h cells slots) {a : Addr} {cl : Cell} {j : Int32} {v : Value} (hd : decode bytes pc = .ok (.iaload, 1)) (A : Arr Z h a cl .int) (hin : ¬ (j < 0 ∨ cl.slots.size ≤ j.toNatClampNeg)) (hv : cl.slots[j.toNatClampNeg]? = some v) (hq : pc + 1 = q)
    (K : Go C ws Q k n (T.setTop (mkF C.m q Ls (v :: st)))) : Go C ws Q k n (T.setTop (mkF C.m pc Ls (.int j :: .ref a :: st))) := by
  obtain ⟨⟨hx, hZ, rfl, -⟩, ⟨_, X, N⟩, eT⟩ := O; subst hq
  exact K.of fun _ kk => X.iaload hx (by rw [eT]; exact A.1) (State.isArrayOf_alike hZ.alike A.2.1) A.2.2 hin hv (g := mkF C.m pc Ls (.int j :: .ref a :: st)) rfl rfl hd _ kk
theorem laload (O : On l Z ws R own nm bytes maxL ret C T h cells slots) {a : Addr} {cl : Cell} {j : Int32} {v : Value} (hd : decode bytes pc = .ok (.laload, 1)) (A : Arr Z h a cl .long) (hin : ¬ (j < 0 ∨ cl.slots.size ≤ j.toNatClampNeg)) (hv : cl.slots[j.toNatClampNeg]? = some v) (hq : pc + 1 = q)
    (K : Go C ws Q k n (T.setTop (mkF C.m q Ls (v :: st)))) : Go C ws Q k n (T.setTop (mkF C.m pc Ls (.int j :: .ref a :: st))) := by
  obtain ⟨⟨hx, hZ, rfl, -⟩, ⟨_, X, N⟩, eT⟩ := O; subst hq
  exact K.of fun _ kk => X.laload hx (by rw [eT]; exact A.1) (State.isArrayOf_alike hZ.alike A.2.1) A.2.2 hin hv (g := mkF C.m pc Ls (.int j :: .ref a :: st)) rfl rfl hd _ kk
theorem baload (O : On l Z ws R own nm bytes maxL ret C T h cells slots) {a : Addr} {cl : Cell} {j : Int32} {v : Value} (hd : decode bytes pc = .ok (.baload, 1)) (A : Arr Z h a cl .byte) (hin : ¬ (j < 0 ∨ cl.slots.size ≤ j.toNatClampNeg)) (hv : cl.slots[j.toNatClampNeg]? = some v) (hq : pc + 1 = q)
    (K : Go C ws Q k n (T.setTop (mkF C.m q Ls (v :: st)))) : Go C ws Q k n (T.setTop (mkF C.m pc Ls (.int j :: .ref a :: st))) := by
  obtain ⟨⟨hx, hZ, rfl, -⟩, ⟨_, X, N⟩, eT⟩ := O; subst hq
  exact K.of fun _ kk => X.baloadBytes hx (by rw [eT]; exact A.1) (State.isArrayOf_alike hZ.alike A.2.1) A.2.2 hin hv (g := mkF C.m pc Ls (.int j :: .ref a :: st)) rfl rfl hd _ kk
theorem aaload (O : On l Z ws R own nm bytes maxL ret C T h cells slots) {a : Addr} {cl : Cell} {ty : FieldType} {j : Int32} {v : Value} (hd : decode bytes pc = .ok (.aaload, 1)) (A : Arr Z h a cl ty) (hty : ty.isReference = true) (hin : ¬ (j < 0 ∨ cl.slots.size ≤ j.toNatClampNeg)) (hv : cl.slots[j.toNatClampNeg]? = some v) (hq : pc + 1 = q)
    (K : Go C ws Q k n (T.setTop (mkF C.m q Ls (v :: st)))) : Go C ws Q k n (T.setTop (mkF C.m pc Ls (.int j :: .ref a :: st))) := by
  obtain ⟨⟨hx, hZ, rfl, -⟩, ⟨_, X, N⟩, eT⟩ := O; subst hq
  exact K.of fun _ kk => X.aaload hx (by rw [eT]; exact A.1) (State.isArrayOf_alike hZ.alike A.2.1) hty A.2.2 hin hv (g := mkF C.m pc Ls (.int j :: .ref a :: st)) rfl rfl hd _ kk
theorem arraylength (O : On l Z ws R own nm bytes maxL ret C T h cells slots) {a : Addr} {cl : Cell} {ty : FieldType} {z : Int32} (hd : decode bytes pc = .ok (.arraylength, 1)) (A : Arr Z h a cl ty) (hz : cl.slots.size.toInt32 = z) (hq : pc + 1 = q)
    (K : Go C ws Q k n (T.setTop (mkF C.m q Ls (.int z :: st)))) : Go C ws Q k n (T.setTop (mkF C.m pc Ls (.ref a :: st))) := by
  obtain ⟨⟨hx, hZ, rfl, -⟩, ⟨_, X, N⟩, eT⟩ := O; subst hq hz
  exact K.of fun _ kk => X.arraylength hx (by rw [eT]; exact A.1) (State.isArrayOf_alike hZ.alike A.2.1) (g := mkF C.m pc Ls (.ref a :: st)) rfl rfl hd _ kk
theorem iastore (O : On l Z ws R own nm bytes maxL ret C T h cells slots) {a : Addr} {cl : Cell} {j : Int32} {x : Int32} (hd : decode bytes pc = .ok (.iastore, 1)) (A : Arr Z h a cl .int) (hin : ¬ (j < 0 ∨ cl.slots.size ≤ j.toNatClampNeg)) (ha : a ∈ ws ∨ C.s.heap.size ≤ a) (hq : pc + 1 = q)
    (K : ∀ T' h', On l Z ws R own nm bytes maxL ret C T' h' cells slots → Wr h h' a j.toNatClampNeg (.int x) → Go C ws Q k n (T'.setTop (mkF C.m q Ls st))) : Go C ws Q k n (T.setTop (mkF C.m pc Ls (.int x :: .int j :: .ref a :: st))) := by
  obtain ⟨⟨hx, hZ, rfl, r1, hown, r2⟩, ⟨_, X, N⟩, eT⟩ := O; subst hq
  obtain ⟨T', h', X', e', W, stp⟩ := Jvm.RoadKit.stI X hx hZ eT A hin (g := mkF C.m pc Ls (.int x :: .int j :: .ref a :: st)) rfl rfl hd
  exact (K T' h' ⟨⟨hx, hZ, rfl, r1, hown, r2⟩, ⟨_, X', N.snoc ha⟩, e'⟩ W).of fun _ kk => stp _ kk
theorem lastore (O : On l Z ws R own nm bytes maxL ret C T h cells slots) {a : Addr} {cl : Cell} {j : Int32} {x : Int64} (hd : decode bytes pc = .ok (.lastore, 1)) (A : Arr Z h a cl .long) (hin : ¬ (j < 0 ∨ cl.slots.size ≤ j.toNatClampNeg)) (ha : a ∈ ws ∨ C.s.heap.size ≤ a) (hq : pc + 1 = q)
    (K : ∀ T' h', On l Z ws R own nm bytes maxL ret C T' h' cells slots → Wr h h' a j.toNatClampNeg (.long x) → Go C ws Q k n (T'.setTop (mkF C.m q Ls st))) : Go C ws Q k n (T.setTop (mkF C.m pc Ls (.long x :: .int j :: .ref a :: st))) := by
  obtain ⟨⟨hx, hZ, rfl, r1, hown, r2⟩, ⟨_, X, N⟩, eT⟩ := O; subst hq
  obtain ⟨T', h', X', e', W, stp⟩ := Jvm.RoadKit.stJ X hx hZ eT A hin (g := mkF C.m pc Ls (.long x :: .int j :: .ref a :: st)) rfl rfl hd
  exact (K T' h' ⟨⟨hx, hZ, rfl, r1, hown, r2⟩, ⟨_, X', N.snoc ha⟩, e'⟩ W).of fun _ kk => stp _ kk
theorem bastore (O : On l Z ws R own nm bytes maxL ret C T h cells slots) {a : Addr} {cl : Cell} {j : Int32} {x : Int32} (hd : decode bytes pc = .ok (.bastore, 1)) (A : Arr Z h a cl .byte) (hin : ¬ (j < 0 ∨ cl.slots.size ≤ j.toNatClampNeg)) (ha : a ∈ ws ∨ C.s.heap.size ≤ a) (hq : pc + 1 = q)
    (K : ∀ T' h', On l Z ws R own nm bytes maxL ret C T' h' cells slots → Wr h h' a j.toNatClampNeg (.int (nar .byte x)) → Go C ws Q k n (T'.setTop (mkF C.m q Ls st))) : Go C ws Q k n (T.setTop (mkF C.m pc Ls (.int x :: .int j :: .ref a :: st))) := by
  obtain ⟨⟨hx, hZ, rfl, r1, hown, r2⟩, ⟨_, X, N⟩, eT⟩ := O; subst hq
  obtain ⟨T', h', X', e', W, stp⟩ := Jvm.RoadKit.stB X hx hZ eT A hin (g := mkF C.m pc Ls (.int x :: .int j :: .ref a :: st)) rfl rfl hd
  exact (K T' h' ⟨⟨hx, hZ, rfl, r1, hown, r2⟩, ⟨_, X', N.snoc ha⟩, e'⟩ W).of fun _ kk => stp _ kk
theorem callS (O : On l Z ws R own nm bytes maxL ret C T h cells slots) {i : Nat} {y : MethodName} {yb : ByteArray} {yl : Nat} {yr : Option FieldType} {rm : Room} {argsL rest : List Value} {wsc : List Addr} {Qc : Option Value → Heap → Prop} {ps : List FieldType} {rr : Option FieldType} {W c2 s2 : Nat}
    (hd : decode bytes pc = .ok (.invokestatic i, 3)) (w1 : (Cond.methodLink own i y).before a0 Z = true) (w2 : (Cond.static y).before a0 Z = true) (w3 : (Cond.initialized y.cls).before a0 Z = true) (w4 : (Cond.code y yb yl yr).before a0 Z = true) (hy : y.cls ≠ "java/lang/invoke/MethodHandle" ∧ y.cls ≠ "java/lang/invoke/VarHandle")
    (hM : Met l Z y yb yl yr [] rm (argsL).toArray wsc h Qc) (hsz : Ls.size = maxL) (hpd : parseMethodDescriptor y.desc = some ⟨ps, rr⟩) (hlen : argsL.length = ps.length) (hst : st = argsL.reverse ++ rest) (hW : (rest.map fun v => v.category).sum ≤ W)
    (hf : rm.frames + 1 ≤ R.frames) (hl : W + (yl + 11) + rm.locals ≤ R.locals) (hc2 : cells + rm.cells = c2) (hs2 : slots + rm.slots = s2) (hcl : c2 ≤ R.cells) (hsl : s2 ≤ R.slots) (hws : ∀ x ∈ wsc, x ∈ ws ∨ C.s.heap.size ≤ x) (hq : pc + 3 = q)
    (K : ∀ v T' h', On l Z ws R own nm bytes maxL ret C T' h' c2 s2 → Keep h h' wsc → Qc v h' → Go C ws Q k n (T'.setTop (mkF C.m q Ls (v.toList ++ rest)))) : Go C ws Q k n (T.setTop (mkF C.m pc Ls st)) := by
  obtain ⟨⟨hx, hZ, rfl, r1, hown, r2⟩, ⟨locs, X, N⟩, eT⟩ := O; subst hq hc2 hs2
  obtain ⟨v, _, ⟨T', L', k', n'⟩, -, X', ⟨Lc, hQ, l', y', z'⟩, stp⟩ := Jvm.LawKit.callS X hx (y := y) hown (mvT hZ w1) (mvT hZ w2) (mvT hZ w3) (mvT hZ w4) hy (backOf (W := W) (Q := Post wsc rm.cells h Qc) hM hZ w4 w3 hf hl) (g := mkF C.m pc Ls st) rfl (hsz.trans r1.symm) (argsL := argsL) (rest := rest) (lenOf hpd hlen) hst (by show 2 * 0 + _ ≤ _; rw [Nat.mul_zero, Nat.zero_add]; exact hW) hd (fun _ _ => ⟨rfl, eT, hcl, hsl⟩)
  dsimp only [Pt.U, Pt.locs, Pt.cells, Pt.slots] at X' l' y' z' stp hQ
  subst l' y' z'
  obtain ⟨hF, hK, hE, hQ⟩ := hQ
  have hb : C.s.heap.size ≤ h.size := eT ▸ X.same.2.1
  exact (K v T' T'.heap ⟨⟨hx, hZ, rfl, r1, hown, r2⟩, ⟨_, X', N.app fun y hy => (hF y hy).elim (hws _) fun z => Or.inr (Nat.le_trans hb z)⟩, rfl⟩ hK hQ).of fun _ kk => stp _ kk
theorem callS0 (O : On l Z ws R own nm bytes maxL ret C T h cells slots) {i : Nat} {y : MethodName} {yb : ByteArray} {yl : Nat} {yr : Option FieldType} {rm : Room} {argsL rest : List Value} {wsc : List Addr} {Qc : Option Value → Heap → Prop} {ps : List FieldType} {rr : Option FieldType} {W c2 s2 : Nat}
    (hd : decode bytes pc = .ok (.invokestatic i, 3)) (w1 : (Cond.methodLink own i y).before a0 Z = true) (w2 : (Cond.static y).before a0 Z = true) (w3 : (Cond.initialized y.cls).before a0 Z = true) (w4 : (Cond.code y yb yl yr).before a0 Z = true) (hy : y.cls ≠ "java/lang/invoke/MethodHandle" ∧ y.cls ≠ "java/lang/invoke/VarHandle")
    (hM : Met l Z y yb yl yr [] rm (argsL).toArray wsc h Qc) (hsz : Ls.size = maxL) (hpd : parseMethodDescriptor y.desc = some ⟨ps, rr⟩) (hlen : argsL.length = ps.length) (hst : st = argsL.reverse ++ rest) (hW : (rest.map fun v => v.category).sum ≤ W)
    (hf : rm.frames + 1 ≤ R.frames) (hl : W + (yl + 11) + rm.locals ≤ R.locals) (hc2 : cells + rm.cells = c2) (hs2 : slots + rm.slots = s2) (hcl : c2 ≤ R.cells) (hsl : s2 ≤ R.slots) (hrc : rm.cells = 0) (hwc : wsc = []) (hq : pc + 3 = q)
    (K : ∀ v T', On l Z ws R own nm bytes maxL ret C T' h c2 s2 → Qc v h → Go C ws Q k n (T'.setTop (mkF C.m q Ls (v.toList ++ rest)))) : Go C ws Q k n (T.setTop (mkF C.m pc Ls st)) := by
  obtain ⟨⟨hx, hZ, rfl, r1, hown, r2⟩, ⟨locs, X, N⟩, eT⟩ := O; subst hq hc2 hs2
  obtain ⟨v, _, ⟨T', L', k', n'⟩, -, X', ⟨Lc, hQ, l', y', z'⟩, stp⟩ := Jvm.LawKit.callS X hx (y := y) hown (mvT hZ w1) (mvT hZ w2) (mvT hZ w3) (mvT hZ w4) hy (backOf (W := W) (Q := Post wsc rm.cells h Qc) hM hZ w4 w3 hf hl) (g := mkF C.m pc Ls st) rfl (hsz.trans r1.symm) (argsL := argsL) (rest := rest) (lenOf hpd hlen) hst (by show 2 * 0 + _ ≤ _; rw [Nat.mul_zero, Nat.zero_add]; exact hW) hd (fun _ _ => ⟨rfl, eT, hcl, hsl⟩)
  dsimp only [Pt.U, Pt.locs, Pt.cells, Pt.slots] at X' l' y' z' stp hQ
  subst l' y' z'
  obtain ⟨hF, hK, hE, hQ⟩ := hQ
  have hb : C.s.heap.size ≤ h.size := eT ▸ X.same.2.1
  have he : T'.heap = h := hE hrc hwc
  refine (K v T' ⟨⟨hx, hZ, rfl, r1, hown, r2⟩, ⟨_, X', N.app fun y hy => (hF y hy).elim (fun z => by rw [hwc] at z; cases z) fun z => Or.inr (Nat.le_trans hb z)⟩, he⟩ (he ▸ hQ)).of fun _ kk => stp _ kk
theorem callI (O : On l Z ws R own nm bytes maxL ret C T h cells slots) {i : Nat} {y : MethodName} {yb : ByteArray} {yl : Nat} {rm : Room} {argsL rest : List Value} {wsc : List Addr} {Qc : Option Value → Heap → Prop} {ps : List FieldType} {rr : Option FieldType} {W c2 s2 : Nat} {a : Addr}
    (hd : decode bytes pc = .ok (.invokespecial i, 3)) (hy1 : y.name = "<init>") (w1 : (Cond.methodLink own i y).before a0 Z = true) (w2 : (Cond.instanceMethod y).before a0 Z = true) (w3 : (Cond.initialized y.cls).before a0 Z = true) (w4 : (Cond.code y yb yl none).before a0 Z = true) (hy : y.cls ≠ "java/lang/invoke/MethodHandle" ∧ y.cls ≠ "java/lang/invoke/VarHandle")
    (hM : Met l Z y yb yl none [] rm (Value.ref a :: argsL).toArray wsc h Qc) (hsz : Ls.size = maxL) (hpd : parseMethodDescriptor y.desc = some ⟨ps, rr⟩) (hlen : argsL.length = ps.length) (hst : st = argsL.reverse ++ .ref a :: rest) (hW : (rest.map fun v => v.category).sum ≤ W)
    (hf : rm.frames + 1 ≤ R.frames) (hl : W + (yl + 11) + rm.locals ≤ R.locals) (hc2 : cells + rm.cells = c2) (hs2 : slots + rm.slots = s2) (hcl : c2 ≤ R.cells) (hsl : s2 ≤ R.slots) (hws : ∀ x ∈ wsc, x ∈ ws ∨ C.s.heap.size ≤ x) (hq : pc + 3 = q)
    (K : ∀ v T' h', On l Z ws R own nm bytes maxL ret C T' h' c2 s2 → Keep h h' wsc → Qc v h' → Go C ws Q k n (T'.setTop (mkF C.m q Ls (v.toList ++ rest)))) : Go C ws Q k n (T.setTop (mkF C.m pc Ls st)) := by
  obtain ⟨⟨hx, hZ, rfl, r1, hown, r2⟩, ⟨locs, X, N⟩, eT⟩ := O; subst hq hc2 hs2
  obtain ⟨v, _, ⟨T', L', k', n'⟩, -, X', ⟨Lc, hQ, l', y', z'⟩, stp⟩ := X.specialBack hx (y := y) hy1 hown (mvT hZ w1) (mvT hZ w2) (mvT hZ w4) hy (backOf (W := W) (Q := Post wsc rm.cells h Qc) hM hZ w4 w3 hf hl) (g := mkF C.m pc Ls st) rfl (hsz.trans r1.symm) (Steps.refl _) (a := a) (argsL := argsL) (rest := rest) (lenOf hpd hlen) hst (by show 2 * 0 + _ ≤ _; rw [Nat.mul_zero, Nat.zero_add]; exact hW) hd (fun _ _ => ⟨rfl, eT, hcl, hsl⟩)
  dsimp only [Pt.U, Pt.locs, Pt.cells, Pt.slots] at X' l' y' z' stp hQ
  subst l' y' z'
  obtain ⟨hF, hK, hE, hQ⟩ := hQ
  have hb : C.s.heap.size ≤ h.size := eT ▸ X.same.2.1
  exact (K v T' T'.heap ⟨⟨hx, hZ, rfl, r1, hown, r2⟩, ⟨_, X', N.app fun y hy => (hF y hy).elim (hws _) fun z => Or.inr (Nat.le_trans hb z)⟩, rfl⟩ hK hQ).via (stp)
theorem callI0 (O : On l Z ws R own nm bytes maxL ret C T h cells slots) {i : Nat} {y : MethodName} {yb : ByteArray} {yl : Nat} {rm : Room} {argsL rest : List Value} {wsc : List Addr} {Qc : Option Value → Heap → Prop} {ps : List FieldType} {rr : Option FieldType} {W c2 s2 : Nat} {a : Addr}
    (hd : decode bytes pc = .ok (.invokespecial i, 3)) (hy1 : y.name = "<init>") (w1 : (Cond.methodLink own i y).before a0 Z = true) (w2 : (Cond.instanceMethod y).before a0 Z = true) (w3 : (Cond.initialized y.cls).before a0 Z = true) (w4 : (Cond.code y yb yl none).before a0 Z = true) (hy : y.cls ≠ "java/lang/invoke/MethodHandle" ∧ y.cls ≠ "java/lang/invoke/VarHandle")
    (hM : Met l Z y yb yl none [] rm (Value.ref a :: argsL).toArray wsc h Qc) (hsz : Ls.size = maxL) (hpd : parseMethodDescriptor y.desc = some ⟨ps, rr⟩) (hlen : argsL.length = ps.length) (hst : st = argsL.reverse ++ .ref a :: rest) (hW : (rest.map fun v => v.category).sum ≤ W)
    (hf : rm.frames + 1 ≤ R.frames) (hl : W + (yl + 11) + rm.locals ≤ R.locals) (hc2 : cells + rm.cells = c2) (hs2 : slots + rm.slots = s2) (hcl : c2 ≤ R.cells) (hsl : s2 ≤ R.slots) (hrc : rm.cells = 0) (hwc : wsc = []) (hq : pc + 3 = q)
    (K : ∀ v T', On l Z ws R own nm bytes maxL ret C T' h c2 s2 → Qc v h → Go C ws Q k n (T'.setTop (mkF C.m q Ls (v.toList ++ rest)))) : Go C ws Q k n (T.setTop (mkF C.m pc Ls st)) := by
  obtain ⟨⟨hx, hZ, rfl, r1, hown, r2⟩, ⟨locs, X, N⟩, eT⟩ := O; subst hq hc2 hs2
  obtain ⟨v, _, ⟨T', L', k', n'⟩, -, X', ⟨Lc, hQ, l', y', z'⟩, stp⟩ := X.specialBack hx (y := y) hy1 hown (mvT hZ w1) (mvT hZ w2) (mvT hZ w4) hy (backOf (W := W) (Q := Post wsc rm.cells h Qc) hM hZ w4 w3 hf hl) (g := mkF C.m pc Ls st) rfl (hsz.trans r1.symm) (Steps.refl _) (a := a) (argsL := argsL) (rest := rest) (lenOf hpd hlen) hst (by show 2 * 0 + _ ≤ _; rw [Nat.mul_zero, Nat.zero_add]; exact hW) hd (fun _ _ => ⟨rfl, eT, hcl, hsl⟩)
  dsimp only [Pt.U, Pt.locs, Pt.cells, Pt.slots] at X' l' y' z' stp hQ
  subst l' y' z'
  obtain ⟨hF, hK, hE, hQ⟩ := hQ
  have hb : C.s.heap.size ≤ h.size := eT ▸ X.same.2.1
  have he : T'.heap = h := hE hrc hwc
  refine (K v T' ⟨⟨hx, hZ, rfl, r1, hown, r2⟩, ⟨_, X', N.app fun y hy => (hF y hy).elim (fun z => by rw [hwc] at z; cases z) fun z => Or.inr (Nat.le_trans hb z)⟩, he⟩ (he ▸ hQ)).via (stp)
theorem callV (O : On l Z ws R own nm bytes maxL ret C T h cells slots) {i : Nat} {y z : MethodName} {yb : ByteArray} {yl : Nat} {yr : Option FieldType} {rm : Room} {argsL rest : List Value} {wsc : List Addr} {Qc : Option Value → Heap → Prop} {ps : List FieldType} {rr : Option FieldType} {W c2 s2 : Nat} {a : Addr} {K0 : String}
    (hd : decode bytes pc = .ok (.invokevirtual i, 3)) (w1 : (Cond.methodLink own i y).before a0 Z = true) (wd : (Cond.declares y).before a0 Z = true) (ws1 : (Cond.selects K0 y z).before a0 Z = true) (hyz : y = z) (w2 : (Cond.instanceMethod z).before a0 Z = true) (w3 : (Cond.initialized z.cls).before a0 Z = true) (w4 : (Cond.code z yb yl yr).before a0 Z = true) (hy : y.cls ≠ "java/lang/invoke/MethodHandle" ∧ y.cls ≠ "java/lang/invoke/VarHandle")
    (hM : Met l Z z yb yl yr [] rm (Value.ref a :: argsL).toArray wsc h Qc) (E : Exa Z h a K0) (hsz : Ls.size = maxL) (hpd : parseMethodDescriptor y.desc = some ⟨ps, rr⟩) (hlen : argsL.length = ps.length) (hst : st = argsL.reverse ++ .ref a :: rest) (hW : (rest.map fun v => v.category).sum ≤ W)
    (hf : rm.frames + 1 ≤ R.frames) (hl : W + (yl + 11) + rm.locals ≤ R.locals) (hc2 : cells + rm.cells = c2) (hs2 : slots + rm.slots = s2) (hcl : c2 ≤ R.cells) (hsl : s2 ≤ R.slots) (hws : ∀ x ∈ wsc, x ∈ ws ∨ C.s.heap.size ≤ x) (hq : pc + 3 = q)
    (K : ∀ v T' h', On l Z ws R own nm bytes maxL ret C T' h' c2 s2 → Keep h h' wsc → Qc v h' → Go C ws Q k n (T'.setTop (mkF C.m q Ls (v.toList ++ rest)))) : Go C ws Q k n (T.setTop (mkF C.m pc Ls st)) := by
  obtain ⟨⟨hx, hZ, rfl, r1, hown, r2⟩, ⟨locs, X, N⟩, eT⟩ := O; subst hq hc2 hs2
  subst hyz
  obtain ⟨_, _, q1, -, q3⟩ := isOf hZ eT E
  obtain ⟨v, _, ⟨T', L', k', n'⟩, -, X', ⟨Lc, hQ, l', y', z'⟩, stp⟩ := X.virtualBack hx (y := y) (z := y) hown (mvT hZ w1) (mvT hZ wd) (notFace_of_selects (args := #[]) (mvT hZ ws1)) (mvT hZ ws1) (mvT hZ w2) hy (backOf (W := W) (Q := Post wsc rm.cells h Qc) hM hZ w4 w3 hf hl) q1 q3 (g := mkF C.m pc Ls st) rfl (hsz.trans r1.symm) (Steps.refl _) (argsL := argsL) (rest := rest) (lenOf hpd hlen) hst (by show 2 * 0 + _ ≤ _; rw [Nat.mul_zero, Nat.zero_add]; exact hW) hd (fun _ _ => ⟨rfl, eT, hcl, hsl⟩)
  dsimp only [Pt.U, Pt.locs, Pt.cells, Pt.slots] at X' l' y' z' stp hQ
  subst l' y' z'
  obtain ⟨hF, hK, hE, hQ⟩ := hQ
  have hb : C.s.heap.size ≤ h.size := eT ▸ X.same.2.1
  exact (K v T' T'.heap ⟨⟨hx, hZ, rfl, r1, hown, r2⟩, ⟨_, X', N.app fun y hy => (hF y hy).elim (hws _) fun z => Or.inr (Nat.le_trans hb z)⟩, rfl⟩ hK hQ).via (stp)
theorem callV0 (O : On l Z ws R own nm bytes maxL ret C T h cells slots) {i : Nat} {y z : MethodName} {yb : ByteArray} {yl : Nat} {yr : Option FieldType} {rm : Room} {argsL rest : List Value} {wsc : List Addr} {Qc : Option Value → Heap → Prop} {ps : List FieldType} {rr : Option FieldType} {W c2 s2 : Nat} {a : Addr} {K0 : String}
    (hd : decode bytes pc = .ok (.invokevirtual i, 3)) (w1 : (Cond.methodLink own i y).before a0 Z = true) (wd : (Cond.declares y).before a0 Z = true) (ws1 : (Cond.selects K0 y z).before a0 Z = true) (hyz : y = z) (w2 : (Cond.instanceMethod z).before a0 Z = true) (w3 : (Cond.initialized z.cls).before a0 Z = true) (w4 : (Cond.code z yb yl yr).before a0 Z = true) (hy : y.cls ≠ "java/lang/invoke/MethodHandle" ∧ y.cls ≠ "java/lang/invoke/VarHandle")
    (hM : Met l Z z yb yl yr [] rm (Value.ref a :: argsL).toArray wsc h Qc) (E : Exa Z h a K0) (hsz : Ls.size = maxL) (hpd : parseMethodDescriptor y.desc = some ⟨ps, rr⟩) (hlen : argsL.length = ps.length) (hst : st = argsL.reverse ++ .ref a :: rest) (hW : (rest.map fun v => v.category).sum ≤ W)
    (hf : rm.frames + 1 ≤ R.frames) (hl : W + (yl + 11) + rm.locals ≤ R.locals) (hc2 : cells + rm.cells = c2) (hs2 : slots + rm.slots = s2) (hcl : c2 ≤ R.cells) (hsl : s2 ≤ R.slots) (hrc : rm.cells = 0) (hwc : wsc = []) (hq : pc + 3 = q)
    (K : ∀ v T', On l Z ws R own nm bytes maxL ret C T' h c2 s2 → Qc v h → Go C ws Q k n (T'.setTop (mkF C.m q Ls (v.toList ++ rest)))) : Go C ws Q k n (T.setTop (mkF C.m pc Ls st)) := by
  obtain ⟨⟨hx, hZ, rfl, r1, hown, r2⟩, ⟨locs, X, N⟩, eT⟩ := O; subst hq hc2 hs2
  subst hyz
  obtain ⟨_, _, q1, -, q3⟩ := isOf hZ eT E
  obtain ⟨v, _, ⟨T', L', k', n'⟩, -, X', ⟨Lc, hQ, l', y', z'⟩, stp⟩ := X.virtualBack hx (y := y) (z := y) hown (mvT hZ w1) (mvT hZ wd) (notFace_of_selects (args := #[]) (mvT hZ ws1)) (mvT hZ ws1) (mvT hZ w2) hy (backOf (W := W) (Q := Post wsc rm.cells h Qc) hM hZ w4 w3 hf hl) q1 q3 (g := mkF C.m pc Ls st) rfl (hsz.trans r1.symm) (Steps.refl _) (argsL := argsL) (rest := rest) (lenOf hpd hlen) hst (by show 2 * 0 + _ ≤ _; rw [Nat.mul_zero, Nat.zero_add]; exact hW) hd (fun _ _ => ⟨rfl, eT, hcl, hsl⟩)
  dsimp only [Pt.U, Pt.locs, Pt.cells, Pt.slots] at X' l' y' z' stp hQ
  subst l' y' z'
  obtain ⟨hF, hK, hE, hQ⟩ := hQ
  have hb : C.s.heap.size ≤ h.size := eT ▸ X.same.2.1
  have he : T'.heap = h := hE hrc hwc
  refine (K v T' ⟨⟨hx, hZ, rfl, r1, hown, r2⟩, ⟨_, X', N.app fun y hy => (hF y hy).elim (fun z => by rw [hwc] at z; cases z) fun z => Or.inr (Nat.le_trans hb z)⟩, he⟩ (he ▸ hQ)).via (stp)
theorem tltL {x y : Int64} (h : x < y) : ifCond.holds .lt (lcmpW x y) = true ∧ ifCond.holds .ge (lcmpW x y) = false ∧ ifCond.holds .gt (lcmpW y x) = true ∧ ifCond.holds .le (lcmpW y x) = false := by
  rw [if0, if0, if0, if0]
  exact ⟨(tlt ((lw_lt x y).mpr h)).1, (tlt ((lw_lt x y).mpr h)).2.1, (tlt ((lw_gt y x).mpr h)).2.2.1, (tlt ((lw_gt y x).mpr h)).2.2.2⟩
theorem fltL {x y : Int64} (h : ¬ x < y) : ifCond.holds .lt (lcmpW x y) = false ∧ ifCond.holds .ge (lcmpW x y) = true ∧ ifCond.holds .gt (lcmpW y x) = false ∧ ifCond.holds .le (lcmpW y x) = true := by
  rw [if0, if0, if0, if0]
  have h1 : ¬ lcmpW x y < 0 := fun q => h ((lw_lt x y).mp q)
  have h2 : ¬ 0 < lcmpW y x := fun q => h ((lw_gt y x).mp q)
  exact ⟨(flt h1).1, (flt h1).2.1, (flt h2).2.2.1, (flt h2).2.2.2⟩
theorem teqL {x y : Int64} (h : x = y) : ifCond.holds .eq (lcmpW x y) = true ∧ ifCond.holds .ne (lcmpW x y) = false := by
  rw [if0, if0]; exact teq ((lw_eq x y).mpr h)
theorem feqL {x y : Int64} (h : ¬ x = y) : ifCond.holds .eq (lcmpW x y) = false ∧ ifCond.holds .ne (lcmpW x y) = true := by
  rw [if0, if0]; exact feq fun q => h ((lw_eq x y).mp q)
theorem tlt0 {x : Int32} (h : x < 0) : ifCond.holds .lt x = true ∧ ifCond.holds .ge x = false := by rw [if0, if0]; exact ⟨(tlt h).1, (tlt h).2.1⟩
theorem flt0 {x : Int32} (h : ¬ x < 0) : ifCond.holds .lt x = false ∧ ifCond.holds .ge x = true := by rw [if0, if0]; exact ⟨(flt h).1, (flt h).2.1⟩
theorem tgt0 {x : Int32} (h : 0 < x) : ifCond.holds .gt x = true ∧ ifCond.holds .le x = false := by rw [if0, if0]; exact ⟨(tlt h).2.2.1, (tlt h).2.2.2⟩
theorem fgt0 {x : Int32} (h : ¬ 0 < x) : ifCond.holds .gt x = false ∧ ifCond.holds .le x = true := by rw [if0, if0]; exact ⟨(flt h).2.2.1, (flt h).2.2.2⟩
theorem teq0 {x : Int32} (h : x = 0) : ifCond.holds .eq x = true ∧ ifCond.holds .ne x = false := by rw [if0, if0]; exact teq h
theorem feq0 {x : Int32} (h : ¬ x = 0) : ifCond.holds .eq x = false ∧ ifCond.holds .ne x = true := by rw [if0, if0]; exact feq h
end Steps
end Jvm.OwnW

namespace Jvm.OwnW
open Sem ClassFile Op Lib Jvm.Free Jvm.Stand Jvm.LawKit Jvm.RoadKit
/-- an array of n places of the kind ty; place j holds f j -/
def Ar (Z : State) (h : Heap) (a : Addr) (ty : FieldType) (n : Nat) (f : Nat → Value) : Prop := ∃ cl : Cell, Arr Z h a cl ty ∧ cl.slots.size = n ∧ n < 2147483648 ∧ ∀ j, j < n → cl.slots[j]? = some (f j)
/-- the values of a list by their places -/
def lf (vs : List Value) : Nat → Value := fun j => vs.getD j .null
def updV (f : Nat → Value) (i : Nat) (v : Value) : Nat → Value := fun j => if j = i then v else f j
section Arrs
variable {Z : State} {h h' : Heap} {a b : Addr} {ty : FieldType} {n i sl : Nat} {f g : Nat → Value} {v : Value} {ws : List Addr} {vs : List Value}
theorem Ar.lt (F : Ar Z h a ty n f) : a < h.size := by obtain ⟨_, A, -⟩ := F; exact A.lt
theorem Ar.ext (F : Ar Z h a ty n f) (E : Ext h h') : Ar Z h' a ty n f := by obtain ⟨c, A, r⟩ := F; exact ⟨c, A.ext E, r⟩
theorem Ar.keep (F : Ar Z h a ty n f) (K : Keep h h' ws) (q : a ∉ ws) : Ar Z h' a ty n f := by obtain ⟨c, A, r⟩ := F; exact ⟨c, ⟨K.2.1 a c A.1 q, A.2⟩, r⟩
theorem Ar.other (F : Ar Z h b ty n f) (W : Wr h h' a sl v) (q : b ≠ a) : Ar Z h' b ty n f := by obtain ⟨c, A, r⟩ := F; exact ⟨c, A.other W q, r⟩
theorem Ar.congr (F : Ar Z h a ty n f) (q : ∀ j, j < n → f j = g j) : Ar Z h a ty n g := by obtain ⟨c, A, r1, r2, r3⟩ := F; exact ⟨c, A, r1, r2, fun j hj => by rw [r3 j hj, q j hj]⟩
theorem Ar.small (F : Ar Z h a ty n f) : n < 2147483648 := by obtain ⟨c, A, r1, r2, r3⟩ := F; exact r2
theorem toNat_of {z : Int32} {n : Nat} (hz : z.toInt = n) : z.toNatClampNeg = n := by simp only [Int32.toNatClampNeg, hz, Int.toNat_natCast]
theorem Ar.new {k : ClassId} {z : Int32} (A : Arr Z h a (newA k ty z) ty) (hz : z.toInt = n) : Ar Z h a ty n (fun _ => defaultValue ty) := by
  have q := toNat_of hz
  refine ⟨_, A, by rw [sz_new, q], ?_, fun j hj => ?_⟩
  · have := z.toInt_lt; omega
  · simp [newA, q, hj]
theorem Ar.set (F : Ar Z h a ty n f) (W : Wr h h' a i v) (hi : i < n) : Ar Z h' a ty n (updV f i v) := by
  obtain ⟨c, A, r1, r2, r3⟩ := F
  refine ⟨_, A.same W, by rw [sz_set]; exact r1, r2, fun j hj => ?_⟩
  by_cases e : j = i
  · subst e; simp [Cell.setSlot, updV, r1, hi]
  · simp only [Cell.setSlot, updV, if_neg e]; rw [Array.getElem?_setIfInBounds_ne (Ne.symm e)]; exact r3 j hj
theorem Ar.setL (F : Ar Z h a ty n (lf vs)) (W : Wr h h' a i v) (hi : i < n) (hl : i < vs.length) : Ar Z h' a ty n (lf (vs.set i v)) := (F.set W hi).congr fun j _ => by
  simp only [updV, lf, List.getD_eq_getElem?_getD]
  by_cases e : j = i
  · subst e; simp [hl]
  · rw [if_neg e, List.getElem?_set_ne (Ne.symm e)]
theorem lf_rep (n : Nat) (d : Value) (j : Nat) (hj : j < n) : d = lf (List.replicate n d) j := by simp [lf, hj]
theorem updV_lf (L : List Value) (hi : i < L.length) : updV (lf L) i v = lf (L.set i v) := by
  funext j
  simp only [updV, lf, List.getD_eq_getElem?_getD]
  by_cases e : j = i
  · subst e; simp [hi]
  · rw [if_neg e, List.getElem?_set_ne (Ne.symm e)]
theorem fill_step (N : Nat → Value) (d : Value) (i j : Nat) : updV (fun j => if j < i then N j else d) i (N i) j = if j < i + 1 then N j else d := by
  simp only [updV]
  by_cases e : j = i
  · subst e; rw [if_pos rfl, if_pos (Nat.lt_succ_self j)]
  · rw [if_neg e]
    by_cases q : j < i
    · rw [if_pos q, if_pos (by omega)]
    · rw [if_neg q, if_neg (by omega)]
theorem Ar.of_arr {cl : Cell} (A : Arr Z h a cl ty) (hn : cl.slots.size = n) (h31 : n < 2147483648) : ∃ f, Ar Z h a ty n f :=
  ⟨fun j => cl.slots.getD j .null, cl, A, hn, h31, fun j hj => by simp [Array.getD, hn, hj]⟩
theorem staKeep {D n d : String} (F : Sta Z h D n d v) (K : Keep h h' []) : Sta Z h' D n d v := by
  obtain ⟨cf, i, k, f, st, cell, h1, h2, h3, h4, h5, r⟩ := F
  exact ⟨cf, i, k, f, st, cell, h1, h2, h3, h4, K.2.1 _ _ h5 (fun q => nomatch q), r⟩
theorem lenEq {t : Term} {args : Array Value} {s : State} {cl : Cell} {z : Int32} (et : t.eval args s none [] s = some (.ref a)) (ha : s.arrayAt? a = some cl) (hc : (Cond.eq (.length t) (.int z)).value args s none s [] = some true) : cl.slots.size.toInt32 = z ∧ cl.slots.size < 2147483648 := by
  by_cases hb : cl.slots.size < 2 ^ 31
  · exact ⟨gotT (Cond.eq_ints (len_f et ha hb) (Term.int_eval z)) hc, hb⟩
  · obtain ⟨x, y, q1, -⟩ := cmp_v (Or.inl hc)
    simp [Term.eval, et, ha, hb] at q1
theorem inb {z : Int32} {m : Nat} (hz : z.toInt = (i : Int)) (hm : m = n) (hi : i < n) : ¬ (z < 0 ∨ m ≤ z.toNatClampNeg) := by
  rw [toNat_of hz, Int32.lt_iff_toInt_lt, hz, hm]
  have : (0 : Int32).toInt = 0 := rfl
  rw [this]; omega
theorem len32 {m : Nat} {z : Int32} (hm : m = n) (hn : n < 2147483648) (hz : z.toInt = n) : m.toInt32 = z := by
  apply Int32.toInt_inj.mp; rw [hz, hm]; exact len_toInt hn
end Arrs
section ArrSteps
variable {l : Launch} {Z : State} {a0 : Array Value} {ws : List Addr} {R : Room} {own nm : String} {bytes : ByteArray} {maxL : Nat} {ret : Option FieldType} {C : Ctx} {T : State} {h : Heap} {cells slots k n : Nat} {Q : Option Value → Heap → Prop} {pc q : Nat} {Ls L' : Array Slot} {st : List Value}
  {a : Addr} {j : Int32} {i N : Nat} {f : Nat → Value} {v : Value} {ty : FieldType}
theorem ialA (O : On l Z ws R own nm bytes maxL ret C T h cells slots) (hd : decode bytes pc = .ok (.iaload, 1)) (V : Ar Z h a .int N f) (hj : j.toInt = (i : Int)) (hi : i < N) (hv : f i = v) (hq : pc + 1 = q)
    (K : Go C ws Q k n (T.setTop (mkF C.m q Ls (v :: st)))) : Go C ws Q k n (T.setTop (mkF C.m pc Ls (.int j :: .ref a :: st))) := by
  obtain ⟨c, A, r1, r2, r3⟩ := V
  exact iaload O hd A (inb hj r1 hi) (by rw [toNat_of hj, ← hv]; exact r3 i hi) hq K
theorem lalA (O : On l Z ws R own nm bytes maxL ret C T h cells slots) (hd : decode bytes pc = .ok (.laload, 1)) (V : Ar Z h a .long N f) (hj : j.toInt = (i : Int)) (hi : i < N) (hv : f i = v) (hq : pc + 1 = q)
    (K : Go C ws Q k n (T.setTop (mkF C.m q Ls (v :: st)))) : Go C ws Q k n (T.setTop (mkF C.m pc Ls (.int j :: .ref a :: st))) := by
  obtain ⟨c, A, r1, r2, r3⟩ := V
  exact laload O hd A (inb hj r1 hi) (by rw [toNat_of hj, ← hv]; exact r3 i hi) hq K
theorem balA (O : On l Z ws R own nm bytes maxL ret C T h cells slots) (hd : decode bytes pc = .ok (.baload, 1)) (V : Ar Z h a .byte N f) (hj : j.toInt = (i : Int)) (hi : i < N) (hv : f i = v) (hq : pc + 1 = q)
    (K : Go C ws Q k n (T.setTop (mkF C.m q Ls (v :: st)))) : Go C ws Q k n (T.setTop (mkF C.m pc Ls (.int j :: .ref a :: st))) := by
  obtain ⟨c, A, r1, r2, r3⟩ := V
  exact baload O hd A (inb hj r1 hi) (by rw [toNat_of hj, ← hv]; exact r3 i hi) hq K
theorem aalA (O : On l Z ws R own nm bytes maxL ret C T h cells slots) (hd : decode bytes pc = .ok (.aaload, 1)) (V : Ar Z h a ty N f) (hty : ty.isReference = true) (hj : j.toInt = (i : Int)) (hi : i < N) (hv : f i = v) (hq : pc + 1 = q)
    (K : Go C ws Q k n (T.setTop (mkF C.m q Ls (v :: st)))) : Go C ws Q k n (T.setTop (mkF C.m pc Ls (.int j :: .ref a :: st))) := by
  obtain ⟨c, A, r1, r2, r3⟩ := V
  exact aaload O hd A hty (inb hj r1 hi) (by rw [toNat_of hj, ← hv]; exact r3 i hi) hq K
theorem lenA (O : On l Z ws R own nm bytes maxL ret C T h cells slots) (hd : decode bytes pc = .ok (.arraylength, 1)) (V : Ar Z h a ty N f) {z : Int32} (hz : z.toInt = N) (hq : pc + 1 = q)
    (K : Go C ws Q k n (T.setTop (mkF C.m q Ls (.int z :: st)))) : Go C ws Q k n (T.setTop (mkF C.m pc Ls (.ref a :: st))) := by
  obtain ⟨c, A, r1, r2, r3⟩ := V
  exact arraylength O hd A (len32 r1 r2 hz) hq K
theorem iasA (O : On l Z ws R own nm bytes maxL ret C T h cells slots) {x : Int32} (hd : decode bytes pc = .ok (.iastore, 1)) (V : Ar Z h a .int N f) (hj : j.toInt = (i : Int)) (hi : i < N) (ha : a ∈ ws ∨ C.s.heap.size ≤ a) (hq : pc + 1 = q)
    (K : ∀ T' h', On l Z ws R own nm bytes maxL ret C T' h' cells slots → Wr h h' a i (.int x) → Go C ws Q k n (T'.setTop (mkF C.m q Ls st))) : Go C ws Q k n (T.setTop (mkF C.m pc Ls (.int x :: .int j :: .ref a :: st))) := by
  obtain ⟨c, A, r1, r2, r3⟩ := V
  exact iastore O hd A (inb hj r1 hi) ha hq fun T' h' O' W => K T' h' O' (toNat_of hj ▸ W)
theorem lasA (O : On l Z ws R own nm bytes maxL ret C T h cells slots) {x : Int64} (hd : decode bytes pc = .ok (.lastore, 1)) (V : Ar Z h a .long N f) (hj : j.toInt = (i : Int)) (hi : i < N) (ha : a ∈ ws ∨ C.s.heap.size ≤ a) (hq : pc + 1 = q)
    (K : ∀ T' h', On l Z ws R own nm bytes maxL ret C T' h' cells slots → Wr h h' a i (.long x) → Go C ws Q k n (T'.setTop (mkF C.m q Ls st))) : Go C ws Q k n (T.setTop (mkF C.m pc Ls (.long x :: .int j :: .ref a :: st))) := by
  obtain ⟨c, A, r1, r2, r3⟩ := V
  exact lastore O hd A (inb hj r1 hi) ha hq fun T' h' O' W => K T' h' O' (toNat_of hj ▸ W)
theorem basA (O : On l Z ws R own nm bytes maxL ret C T h cells slots) {x y : Int32} (hd : decode bytes pc = .ok (.bastore, 1)) (V : Ar Z h a .byte N f) (hj : j.toInt = (i : Int)) (hi : i < N) (ha : a ∈ ws ∨ C.s.heap.size ≤ a) (hy : x.toInt8.toInt32 = y) (hq : pc + 1 = q)
    (K : ∀ T' h', On l Z ws R own nm bytes maxL ret C T' h' cells slots → Wr h h' a i (.int y) → Go C ws Q k n (T'.setTop (mkF C.m q Ls st))) : Go C ws Q k n (T.setTop (mkF C.m pc Ls (.int x :: .int j :: .ref a :: st))) := by
  obtain ⟨c, A, r1, r2, r3⟩ := V
  subst hy
  exact bastore O hd A (inb hj r1 hi) ha hq fun T' h' O' W => K T' h' O' (toNat_of hj ▸ W)
theorem newA' (O : On l Z ws R own nm bytes maxL ret C T h cells slots) {aty : ArrayType} {c2 s2 : Nat} (hd : decode bytes pc = .ok (.newarray aty, 2)) (ht : newarray.typeOf aty = ty) (w : (Cond.arrayClass ty).before a0 Z = true) {z : Int32} (hz : z.toInt = N) {cap : Nat} (hcap : N ≤ cap) (hb : cap * 8 ≤ 536870912) (hc2 : cells + 1 = c2) (hs2 : slots + cap = s2) (hc : c2 ≤ R.cells) (hl : s2 ≤ R.slots) (hq : pc + 2 = q)
    (K : ∀ a T' h', a = h.size → C.s.heap.size ≤ a → On l Z ws R own nm bytes maxL ret C T' h' c2 s2 → Ext h h' → Ar Z h' a ty N (fun _ => defaultValue ty) → Go C ws Q k n (T'.setTop (mkF C.m q Ls (.ref a :: st)))) : Go C ws Q k n (T.setTop (mkF C.m pc Ls (.int z :: st))) := by
  subst ht
  refine newP O hd w ?_ (by rw [toNat_of hz]; exact hcap) hb hc2 hs2 hc hl hq fun a T' h' cA e1 e2 O' E A => K a T' h' e1 e2 O' E (Ar.new A hz)
  rw [Int32.lt_iff_toInt_lt, hz]
  have : (0 : Int32).toInt = 0 := rfl
  rw [this]; omega
end ArrSteps
end Jvm.OwnW

namespace Jvm.OwnW
open Jvm.RoadKit
theorem add32 {x y : Int32} (h1 : -2147483648 ≤ x.toInt + y.toInt) (h2 : x.toInt + y.toInt < 2147483648) : (x + y).toInt = x.toInt + y.toInt := by
  have := c_iadd x y; have := rng32 (x + y); omega
theorem sub32 {x y : Int32} (h1 : -2147483648 ≤ x.toInt - y.toInt) (h2 : x.toInt - y.toInt < 2147483648) : (x - y).toInt = x.toInt - y.toInt := by
  have := c_isub x y; have := rng32 (x - y); omega
theorem mul32 {x y : Int32} (h1 : -2147483648 ≤ x.toInt * y.toInt) (h2 : x.toInt * y.toInt < 2147483648) : (x * y).toInt = x.toInt * y.toInt := by
  have := c_imul x y; have := rng32 (x * y); omega
theorem add64 {x y : Int64} (h1 : -9223372036854775808 ≤ x.toInt + y.toInt) (h2 : x.toInt + y.toInt < 9223372036854775808) : (x + y).toInt = x.toInt + y.toInt := by
  have := c_ladd x y; have := rng64 (x + y); omega
theorem sub64 {x y : Int64} (h1 : -9223372036854775808 ≤ x.toInt - y.toInt) (h2 : x.toInt - y.toInt < 9223372036854775808) : (x - y).toInt = x.toInt - y.toInt := by
  have := c_lsub x y; have := rng64 (x - y); omega
theorem mul64 {x y : Int64} (h1 : -9223372036854775808 ≤ x.toInt * y.toInt) (h2 : x.toInt * y.toInt < 9223372036854775808) : (x * y).toInt = x.toInt * y.toInt := by
  have := c_lmul x y; have := rng64 (x * y); omega
theorem ne0_32 {z : Int32} (h : 0 < z.toInt) : z ≠ 0 := fun e => by subst e; exact absurd h (by decide)
theorem ne0_64 {z : Int64} (h : 0 < z.toInt) : z ≠ 0 := fun e => by subst e; exact absurd h (by decide)
theorem lt32 {x y : Int32} (h : x.toInt < y.toInt) : x < y := Int32.lt_iff_toInt_lt.mpr h
theorem nlt32 {x y : Int32} (h : y.toInt ≤ x.toInt) : ¬ x < y := fun q => by rw [Int32.lt_iff_toInt_lt] at q; omega
theorem lt64 {x y : Int64} (h : x.toInt < y.toInt) : x < y := Int64.lt_iff_toInt_lt.mpr h
theorem nlt64 {x y : Int64} (h : y.toInt ≤ x.toInt) : ¬ x < y := fun q => by rw [Int64.lt_iff_toInt_lt] at q; omega
theorem eq32 {x y : Int32} (h : x.toInt = y.toInt) : x = y := Int32.toInt_inj.mp h
theorem ne32 {x y : Int32} (h : x.toInt ≠ y.toInt) : ¬ x = y := fun e => h (congrArg _ e)
theorem ne64 {x y : Int64} (h : x.toInt ≠ y.toInt) : ¬ x = y := fun e => h (congrArg _ e)
theorem inc32 {z : Int32} {i : Nat} (hi : z.toInt = (i : Int)) (hb : i < 2147483647) : (z + 1).toInt = ((i + 1 : Nat) : Int) := by
  have h1 : (1 : Int32).toInt = 1 := rfl
  rw [add32 (by omega) (by omega)]; omega
theorem dec32 {z : Int32} {i : Nat} (hi : z.toInt = (i : Int)) (hb : 1 ≤ i) : (z - 1).toInt = ((i - 1 : Nat) : Int) := by
  have h1 : (1 : Int32).toInt = 1 := rfl
  have := rng32 z
  rw [sub32 (by omega) (by omega)]; omega
/-- (s & 0x7fffffff) % z for a z above 0 -/
theorem rem_in (s z : Int32) (hz : 0 < z.toInt) : ∃ i : Nat, ((s &&& 2147483647) % z).toInt = (i : Int) ∧ (i : Int) < z.toInt := by
  have h1 := c_mask s 2147483647 31 (by decide) (by decide)
  have h2 := (c_iremV (s &&& 2147483647) z).1 (by omega) hz
  exact ⟨((s &&& 2147483647) % z).toInt.toNat, by omega, by omega⟩
theorem b8 (x : Int32) : x.toInt8.toInt32.toInt8.toInt32 = x.toInt8.toInt32 := by
  have h := c_i2b x; have h2 := c_i2b x.toInt8.toInt32
  apply Int32.toInt_inj.mp; omega
theorem lf_int (L : List Int32) (j : Nat) (hj : j < L.length) : lf (L.map Value.int) j = .int (L.getD j 0) := by
  simp [lf, List.getD_eq_getElem?_getD, hj]
theorem lf_long (L : List Int64) (j : Nat) (hj : j < L.length) : lf (L.map Value.long) j = .long (L.getD j 0) := by
  simp [lf, List.getD_eq_getElem?_getD, hj]
end Jvm.OwnW

namespace Jvm.OwnW
open Sem ClassFile Op Lib Jvm.Free Jvm.Stand Jvm.LawKit Jvm.RoadKit
/-- the Class object of the class K0 has been made: it is a -/
def MirO (Z : State) (K0 : String) (a : Addr) : Prop := ∃ c k, Z.vm.findClass K0 = some c ∧ Z.vm.classes[c]? = some k ∧ k.mirror = some a
theorem catR {v : Value} (h : v.isRef = true) : v.category = 1 := by cases v <;> first | rfl | cases h
theorem isRef_ite {c : Prop} [Decidable c] {a b : Value} (ha : a.isRef = true) (hb : b.isRef = true) : (if c then a else b).isRef = true := by split <;> assumption
theorem ite_val {α : Type} {c : Prop} [Decidable c] {a b v : α} (h1 : c → a = v) (h2 : ¬ c → b = v) : (if c then a else b) = v := by
  by_cases h : c
  · rw [if_pos h]; exact h1 h
  · rw [if_neg h]; exact h2 h
section StepsR
variable {l : Launch} {Z : State} {a0 : Array Value} {ws : List Addr} {R : Room} {own nm : String} {bytes : ByteArray} {maxL : Nat} {ret : Option FieldType} {C : Ctx} {T : State} {h : Heap} {cells slots k n : Nat} {Q : Option Value → Heap → Prop} {pc q : Nat} {Ls L' : Array Slot} {st : List Value}
theorem ldcM (O : On l Z ws R own nm bytes maxL ret C T h cells slots) {i : Nat} {K0 : String} {a : Addr} (hd : decode bytes pc = .ok (.ldc i, 2)) (w : (Cond.classLink own i K0).before a0 Z = true) (M : MirO Z K0 a) (hq : pc + 2 = q)
    (K : ∀ T', On l Z ws R own nm bytes maxL ret C T' h cells slots → Go C ws Q k n (T'.setTop (mkF C.m q Ls (.ref a :: st)))) : Go C ws Q k n (T.setTop (mkF C.m pc Ls st)) := by
  obtain ⟨⟨hx, hZ, rfl, r1, hown, r2⟩, ⟨_, X, N⟩, eT⟩ := O; subst hq
  obtain ⟨c, kc, m1, m2, m3⟩ := M
  obtain ⟨k', q1, q2⟩ := hZ.alike.2.2 _ _ m2
  have q3 : C.s.vm.findClass K0 = some c := by rw [hZ.alike.findClass]; exact m1
  have q4 : k'.mirror = some a := by rw [q2]; exact m3
  have hev : (Term.mirror K0).eval C.args C.s none [] C.s = some (.ref a) := by simp [Term.eval, q3, q1, q4]
  obtain ⟨vm', X', stp⟩ := X.ldcMirror hx hown (mvT hZ w) hev (g := mkF C.m pc Ls st) rfl hd
  exact (K _ ⟨⟨hx, hZ, rfl, r1, hown, r2⟩, ⟨_, X', N⟩, eT⟩).of fun _ kk => stp _ kk
theorem lswIn (O : On l Z ws R own nm bytes maxL ret C T h cells slots) {df v : Int} {prs : Array (Int × Int)} {ln : Nat} {x : Int32} {o : Int} (hd : decode bytes pc = .ok (.lookupswitch df prs, ln)) (hs : (prs.toList.zip (prs.toList.drop 1)).all (fun (a, next) => a.1 < next.1) = true) (hf : prs.find? (·.1 == x.toInt) = some (v, o)) (h0 : 0 ≤ (pc : Int) + o) (hq : ((pc : Int) + o).toNat = q)
    (K : Go C ws Q k n (T.setTop (mkF C.m q Ls st))) : Go C ws Q k n (T.setTop (mkF C.m pc Ls (.int x :: st))) := by
  obtain ⟨⟨hx, -, rfl, -⟩, ⟨_, X, -⟩, -⟩ := O; subst hq
  refine K.of fun _ kk => ?_
  jvm_step X.here [X.here.top, hx, hd, lookupswitch.wp_whole, hf, h0]
  refine ⟨by simpa using hs, kk⟩
theorem lswOut (O : On l Z ws R own nm bytes maxL ret C T h cells slots) {o : Int} {prs : Array (Int × Int)} {ln : Nat} {x : Int32} (hd : decode bytes pc = .ok (.lookupswitch o prs, ln)) (hs : (prs.toList.zip (prs.toList.drop 1)).all (fun (a, next) => a.1 < next.1) = true) (hf : prs.find? (·.1 == x.toInt) = none) (h0 : 0 ≤ (pc : Int) + o) (hq : ((pc : Int) + o).toNat = q)
    (K : Go C ws Q k n (T.setTop (mkF C.m q Ls st))) : Go C ws Q k n (T.setTop (mkF C.m pc Ls (.int x :: st))) := by
  obtain ⟨⟨hx, -, rfl, -⟩, ⟨_, X, -⟩, -⟩ := O; subst hq
  refine K.of fun _ kk => ?_
  jvm_step X.here [X.here.top, hx, hd, lookupswitch.wp_whole, hf, h0]
  refine ⟨by simpa using hs, kk⟩
theorem castY (O : On l Z ws R own nm bytes maxL ret C T h cells slots) {i : Nat} {K0 : String} {a : Addr} (hd : decode bytes pc = .ok (.checkcast i, 3)) (w : (Cond.classLink own i K0).before a0 Z = true) (F : Ins Z h a K0 true) (hq : pc + 3 = q)
    (K : ∀ T', On l Z ws R own nm bytes maxL ret C T' h cells slots → Go C ws Q k n (T'.setTop (mkF C.m q Ls (.ref a :: st)))) : Go C ws Q k n (T.setTop (mkF C.m pc Ls (.ref a :: st))) := by
  obtain ⟨⟨hx, hZ, rfl, r1, hown, r2⟩, ⟨_, X, N⟩, eT⟩ := O; subst hq
  obtain ⟨T', X', e', stp⟩ := Jvm.RoadKit.castY X hx hZ hown w eT F (g := mkF C.m pc Ls (.ref a :: st)) rfl rfl hd
  exact (K T' ⟨⟨hx, hZ, rfl, r1, hown, r2⟩, ⟨_, X', N⟩, e'⟩).of fun _ kk => stp _ kk
end StepsR
end Jvm.OwnW

namespace Jvm.Pilot.@@N@@
open Jvm Jvm.ClassFile Sem Op Lib Jvm.Free Jvm.Stand Jvm.LawKit Jvm.RoadKit Bundle Jvm.OwnW Jvm.Pilot.@@N@@.Jvm.D

theorem d1_0 : decode prog_14_method_2_code 0 = .ok (.iload_n 0, 1) := by decide +kernel
theorem d1_1 : decode prog_14_method_2_code 1 = .ok (.lookupswitch 182 #[(18, 147), (19, 147), (20, 147), (178, 152), (179, 152), (180, 152), (181, 152), (182, 157), (183, 162), (184, 162), (185, 167), (186, 172), (187, 177), (189, 177), (192, 177), (193, 177), (197, 177)], 147) := by decide +kernel
theorem d1_148 : decode prog_14_method_2_code 148 = .ok (.ldc 7, 2) := by decide +kernel
theorem d1_150 : decode prog_14_method_2_code 150 = .ok (.goto 34, 3) := by decide +kernel
theorem d1_153 : decode prog_14_method_2_code 153 = .ok (.ldc 9, 2) := by decide +kernel
theorem d1_155 : decode prog_14_method_2_code 155 = .ok (.goto 29, 3) := by decide +kernel
theorem d1_158 : decode prog_14_method_2_code 158 = .ok (.ldc 11, 2) := by decide +kernel
theorem d1_160 : decode prog_14_method_2_code 160 = .ok (.goto 24, 3) := by decide +kernel
theorem d1_163 : decode prog_14_method_2_code 163 = .ok (.ldc 13, 2) := by decide +kernel
theorem d1_165 : decode prog_14_method_2_code 165 = .ok (.goto 19, 3) := by decide +kernel
theorem d1_168 : decode prog_14_method_2_code 168 = .ok (.ldc 15, 2) := by decide +kernel
theorem d1_170 : decode prog_14_method_2_code 170 = .ok (.goto 14, 3) := by decide +kernel
theorem d1_173 : decode prog_14_method_2_code 173 = .ok (.ldc 17, 2) := by decide +kernel
theorem d1_175 : decode prog_14_method_2_code 175 = .ok (.goto 9, 3) := by decide +kernel
theorem d1_178 : decode prog_14_method_2_code 178 = .ok (.ldc 19, 2) := by decide +kernel
theorem d1_180 : decode prog_14_method_2_code 180 = .ok (.goto 4, 3) := by decide +kernel
theorem d1_183 : decode prog_14_method_2_code 183 = .ok (.aconst_null, 1) := by decide +kernel
theorem d1_184 : decode prog_14_method_2_code 184 = .ok (.areturn, 1) := by decide +kernel
def fn_1 (p1 : Int32) (m0 : Addr) (m1 : Addr) (m2 : Addr) (m3 : Addr) (m4 : Addr) (m5 : Addr) (m6 : Addr) : Value := (if p1 = (18 : Int32) then (Value.ref m0) else (if p1 = (19 : Int32) then (Value.ref m0) else (if p1 = (20 : Int32) then (Value.ref m0) else (if p1 = (178 : Int32) then (Value.ref m1) else (if p1 = (179 : Int32) then (Value.ref m1) else (if p1 = (180 : Int32) then (Value.ref m1) else (if p1 = (181 : Int32) then (Value.ref m1) else (if p1 = (182 : Int32) then (Value.ref m2) else (if p1 = (183 : Int32) then (Value.ref m3) else (if p1 = (184 : Int32) then (Value.ref m3) else (if p1 = (185 : Int32) then (Value.ref m4) else (if p1 = (186 : Int32) then (Value.ref m5) else (if p1 = (187 : Int32) then (Value.ref m6) else (if p1 = (189 : Int32) then (Value.ref m6) else (if p1 = (192 : Int32) then (Value.ref m6) else (if p1 = (193 : Int32) then (Value.ref m6) else (if p1 = (197 : Int32) then (Value.ref m6) else Value.null)))))))))))))))))
theorem ef_1 (p1 : Int32) (m0 : Addr) (m1 : Addr) (m2 : Addr) (m3 : Addr) (m4 : Addr) (m5 : Addr) (m6 : Addr) (m : MethodId) : entryFrame m #[(.int p1)] 1 = mkF m 0 #[.val (.int p1)] [] := by first | (simp [entryFrame, mkF, argsToLocals, Value.category, maxLocals]; done) | rfl
theorem pn_1 : plainFor (⟨"com/example/bytepare/bytepare/classfile/Bytecode", "poolOperand", "(I)Ljava/lang/Class;"⟩ : MethodName) = true := by first | exact plainFor_of_name (by first | (simp [plainName, overriddenIn]; done) | decide +kernel) | decide +kernel
set_option maxRecDepth 65536 in
set_option maxHeartbeats 40000000 in
theorem rm_1 (l : Launch) (Z : State) (a0 : Array Value) (hw : ∀ d ∈ tables_1, d.before a0 Z = true) (p1 : Int32) (m0 : Addr) (m1 : Addr) (m2 : Addr) (m3 : Addr) (m4 : Addr) (m5 : Addr) (m6 : Addr) (h0 : Heap) (M0 : MirO Z "com/example/bytepare/bytepare/classfile/Constant" m0) (M1 : MirO Z "com/example/bytepare/bytepare/classfile/Constant$FieldrefInfo" m1) (M2 : MirO Z "com/example/bytepare/bytepare/classfile/Constant$MethodrefInfo" m2) (M3 : MirO Z "com/example/bytepare/bytepare/classfile/Constant$MemberRef" m3) (M4 : MirO Z "com/example/bytepare/bytepare/classfile/Constant$InterfaceMethodrefInfo" m4) (M5 : MirO Z "com/example/bytepare/bytepare/classfile/Constant$InvokeDynamicInfo" m5) (M6 : MirO Z "com/example/bytepare/bytepare/classfile/Constant$ClassInfo" m6) :
    Met l Z (⟨"com/example/bytepare/bytepare/classfile/Bytecode", "poolOperand", "(I)Ljava/lang/Class;"⟩ : MethodName) prog_14_method_2_code 1 (some (.object "java/lang/Class")) [] ({ frames := 0, cells := 0, slots := 0, locals := 0 } : Room) #[(.int p1)] [] h0 (fun v h => v = some ( (fn_1 p1 m0 m1 m2 m3 m4 m5 m6))) := by
  refine Met.mk pn_1 (ef_1 p1 m0 m1 m2 m3 m4 m5 m6) ?_
  intro C T hs0 O
  show Go C [] (fun v h => v = some ( (fn_1 p1 m0 m1 m2 m3 m4 m5 m6))) 0 0 (T.setTop (mkF C.m 0 #[.val (.int p1)] []))
  refine Jvm.OwnW.iloadN O d1_0 rfl (q := 1) rfl ?_
  by_cases hk1_0 : p1 = (18 : Int32)
  · refine Jvm.OwnW.lswIn O d1_1 (by decide) (v := 18) (o := 147) (by rw [hk1_0]; decide) (by decide) (q := 148) rfl ?_
    refine Jvm.OwnW.ldcM O d1_148 (hw _ (List.mem_of_getElem? (i := 11) rfl)) M0 (q := 150) rfl ?_
    intro T1 O1
    refine Jvm.OwnW.goto O1 d1_150 (by decide) (q := 184) rfl ?_
    exact Jvm.OwnW.retA O1 d1_184 rfl rfl (by first | rfl | (cases ((.ref m0)) <;> rfl)) (by decide) (by decide) (by show some ( (Value.ref m0)) = some ( (fn_1 p1 m0 m1 m2 m3 m4 m5 m6)); rw [fn_1, if_pos hk1_0])
  ·
    skip
    by_cases hk1_1 : p1 = (19 : Int32)
    · refine Jvm.OwnW.lswIn O d1_1 (by decide) (v := 19) (o := 147) (by rw [hk1_1]; decide) (by decide) (q := 148) rfl ?_
      refine Jvm.OwnW.ldcM O d1_148 (hw _ (List.mem_of_getElem? (i := 11) rfl)) M0 (q := 150) rfl ?_
      intro T2 O2
      refine Jvm.OwnW.goto O2 d1_150 (by decide) (q := 184) rfl ?_
      exact Jvm.OwnW.retA O2 d1_184 rfl rfl (by first | rfl | (cases ((.ref m0)) <;> rfl)) (by decide) (by decide) (by show some ( (Value.ref m0)) = some ( (fn_1 p1 m0 m1 m2 m3 m4 m5 m6)); rw [fn_1, if_neg hk1_0, if_pos hk1_1])
    ·
      skip
      by_cases hk1_2 : p1 = (20 : Int32)
      · refine Jvm.OwnW.lswIn O d1_1 (by decide) (v := 20) (o := 147) (by rw [hk1_2]; decide) (by decide) (q := 148) rfl ?_
        refine Jvm.OwnW.ldcM O d1_148 (hw _ (List.mem_of_getElem? (i := 11) rfl)) M0 (q := 150) rfl ?_
        intro T3 O3
        refine Jvm.OwnW.goto O3 d1_150 (by decide) (q := 184) rfl ?_
        exact Jvm.OwnW.retA O3 d1_184 rfl rfl (by first | rfl | (cases ((.ref m0)) <;> rfl)) (by decide) (by decide) (by show some ( (Value.ref m0)) = some ( (fn_1 p1 m0 m1 m2 m3 m4 m5 m6)); rw [fn_1, if_neg hk1_0, if_neg hk1_1, if_pos hk1_2])
      ·
        skip
        by_cases hk1_3 : p1 = (178 : Int32)
        · refine Jvm.OwnW.lswIn O d1_1 (by decide) (v := 178) (o := 152) (by rw [hk1_3]; decide) (by decide) (q := 153) rfl ?_
          refine Jvm.OwnW.ldcM O d1_153 (hw _ (List.mem_of_getElem? (i := 17) rfl)) M1 (q := 155) rfl ?_
          intro T4 O4
          refine Jvm.OwnW.goto O4 d1_155 (by decide) (q := 184) rfl ?_
          exact Jvm.OwnW.retA O4 d1_184 rfl rfl (by first | rfl | (cases ((.ref m1)) <;> rfl)) (by decide) (by decide) (by show some ( (Value.ref m1)) = some ( (fn_1 p1 m0 m1 m2 m3 m4 m5 m6)); rw [fn_1, if_neg hk1_0, if_neg hk1_1, if_neg hk1_2, if_pos hk1_3])
        ·
          skip
          by_cases hk1_4 : p1 = (179 : Int32)
          · refine Jvm.OwnW.lswIn O d1_1 (by decide) (v := 179) (o := 152) (by rw [hk1_4]; decide) (by decide) (q := 153) rfl ?_
            refine Jvm.OwnW.ldcM O d1_153 (hw _ (List.mem_of_getElem? (i := 17) rfl)) M1 (q := 155) rfl ?_
            intro T5 O5
            refine Jvm.OwnW.goto O5 d1_155 (by decide) (q := 184) rfl ?_
            exact Jvm.OwnW.retA O5 d1_184 rfl rfl (by first | rfl | (cases ((.ref m1)) <;> rfl)) (by decide) (by decide) (by show some ( (Value.ref m1)) = some ( (fn_1 p1 m0 m1 m2 m3 m4 m5 m6)); rw [fn_1, if_neg hk1_0, if_neg hk1_1, if_neg hk1_2, if_neg hk1_3, if_pos hk1_4])
          ·
            skip
            by_cases hk1_5 : p1 = (180 : Int32)
            · refine Jvm.OwnW.lswIn O d1_1 (by decide) (v := 180) (o := 152) (by rw [hk1_5]; decide) (by decide) (q := 153) rfl ?_
              refine Jvm.OwnW.ldcM O d1_153 (hw _ (List.mem_of_getElem? (i := 17) rfl)) M1 (q := 155) rfl ?_
              intro T6 O6
              refine Jvm.OwnW.goto O6 d1_155 (by decide) (q := 184) rfl ?_
              exact Jvm.OwnW.retA O6 d1_184 rfl rfl (by first | rfl | (cases ((.ref m1)) <;> rfl)) (by decide) (by decide) (by show some ( (Value.ref m1)) = some ( (fn_1 p1 m0 m1 m2 m3 m4 m5 m6)); rw [fn_1, if_neg hk1_0, if_neg hk1_1, if_neg hk1_2, if_neg hk1_3, if_neg hk1_4, if_pos hk1_5])
            ·
              skip
              by_cases hk1_6 : p1 = (181 : Int32)
              · refine Jvm.OwnW.lswIn O d1_1 (by decide) (v := 181) (o := 152) (by rw [hk1_6]; decide) (by decide) (q := 153) rfl ?_
                refine Jvm.OwnW.ldcM O d1_153 (hw _ (List.mem_of_getElem? (i := 17) rfl)) M1 (q := 155) rfl ?_
                intro T7 O7
                refine Jvm.OwnW.goto O7 d1_155 (by decide) (q := 184) rfl ?_
                exact Jvm.OwnW.retA O7 d1_184 rfl rfl (by first | rfl | (cases ((.ref m1)) <;> rfl)) (by decide) (by decide) (by show some ( (Value.ref m1)) = some ( (fn_1 p1 m0 m1 m2 m3 m4 m5 m6)); rw [fn_1, if_neg hk1_0, if_neg hk1_1, if_neg hk1_2, if_neg hk1_3, if_neg hk1_4, if_neg hk1_5, if_pos hk1_6])
              ·
                skip
                by_cases hk1_7 : p1 = (182 : Int32)
                · refine Jvm.OwnW.lswIn O d1_1 (by decide) (v := 182) (o := 157) (by rw [hk1_7]; decide) (by decide) (q := 158) rfl ?_
                  refine Jvm.OwnW.ldcM O d1_158 (hw _ (List.mem_of_getElem? (i := 26) rfl)) M2 (q := 160) rfl ?_
                  intro T8 O8
                  refine Jvm.OwnW.goto O8 d1_160 (by decide) (q := 184) rfl ?_
                  exact Jvm.OwnW.retA O8 d1_184 rfl rfl (by first | rfl | (cases ((.ref m2)) <;> rfl)) (by decide) (by decide) (by show some ( (Value.ref m2)) = some ( (fn_1 p1 m0 m1 m2 m3 m4 m5 m6)); rw [fn_1, if_neg hk1_0, if_neg hk1_1, if_neg hk1_2, if_neg hk1_3, if_neg hk1_4, if_neg hk1_5, if_neg hk1_6, if_pos hk1_7])
                ·
                  skip
                  by_cases hk1_8 : p1 = (183 : Int32)
                  · refine Jvm.OwnW.lswIn O d1_1 (by decide) (v := 183) (o := 162) (by rw [hk1_8]; decide) (by decide) (q := 163) rfl ?_
                    refine Jvm.OwnW.ldcM O d1_163 (hw _ (List.mem_of_getElem? (i := 14) rfl)) M3 (q := 165) rfl ?_
                    intro T9 O9
                    refine Jvm.OwnW.goto O9 d1_165 (by decide) (q := 184) rfl ?_
                    exact Jvm.OwnW.retA O9 d1_184 rfl rfl (by first | rfl | (cases ((.ref m3)) <;> rfl)) (by decide) (by decide) (by show some ( (Value.ref m3)) = some ( (fn_1 p1 m0 m1 m2 m3 m4 m5 m6)); rw [fn_1, if_neg hk1_0, if_neg hk1_1, if_neg hk1_2, if_neg hk1_3, if_neg hk1_4, if_neg hk1_5, if_neg hk1_6, if_neg hk1_7, if_pos hk1_8])
                  ·
                    skip
                    by_cases hk1_9 : p1 = (184 : Int32)
                    · refine Jvm.OwnW.lswIn O d1_1 (by decide) (v := 184) (o := 162) (by rw [hk1_9]; decide) (by decide) (q := 163) rfl ?_
                      refine Jvm.OwnW.ldcM O d1_163 (hw _ (List.mem_of_getElem? (i := 14) rfl)) M3 (q := 165) rfl ?_
                      intro T10 O10
                      refine Jvm.OwnW.goto O10 d1_165 (by decide) (q := 184) rfl ?_
                      exact Jvm.OwnW.retA O10 d1_184 rfl rfl (by first | rfl | (cases ((.ref m3)) <;> rfl)) (by decide) (by decide) (by show some ( (Value.ref m3)) = some ( (fn_1 p1 m0 m1 m2 m3 m4 m5 m6)); rw [fn_1, if_neg hk1_0, if_neg hk1_1, if_neg hk1_2, if_neg hk1_3, if_neg hk1_4, if_neg hk1_5, if_neg hk1_6, if_neg hk1_7, if_neg hk1_8, if_pos hk1_9])
                    ·
                      skip
                      by_cases hk1_10 : p1 = (185 : Int32)
                      · refine Jvm.OwnW.lswIn O d1_1 (by decide) (v := 185) (o := 167) (by rw [hk1_10]; decide) (by decide) (q := 168) rfl ?_
                        refine Jvm.OwnW.ldcM O d1_168 (hw _ (List.mem_of_getElem? (i := 20) rfl)) M4 (q := 170) rfl ?_
                        intro T11 O11
                        refine Jvm.OwnW.goto O11 d1_170 (by decide) (q := 184) rfl ?_
                        exact Jvm.OwnW.retA O11 d1_184 rfl rfl (by first | rfl | (cases ((.ref m4)) <;> rfl)) (by decide) (by decide) (by show some ( (Value.ref m4)) = some ( (fn_1 p1 m0 m1 m2 m3 m4 m5 m6)); rw [fn_1, if_neg hk1_0, if_neg hk1_1, if_neg hk1_2, if_neg hk1_3, if_neg hk1_4, if_neg hk1_5, if_neg hk1_6, if_neg hk1_7, if_neg hk1_8, if_neg hk1_9, if_pos hk1_10])
                      ·
                        skip
                        by_cases hk1_11 : p1 = (186 : Int32)
                        · refine Jvm.OwnW.lswIn O d1_1 (by decide) (v := 186) (o := 172) (by rw [hk1_11]; decide) (by decide) (q := 173) rfl ?_
                          refine Jvm.OwnW.ldcM O d1_173 (hw _ (List.mem_of_getElem? (i := 23) rfl)) M5 (q := 175) rfl ?_
                          intro T12 O12
                          refine Jvm.OwnW.goto O12 d1_175 (by decide) (q := 184) rfl ?_
                          exact Jvm.OwnW.retA O12 d1_184 rfl rfl (by first | rfl | (cases ((.ref m5)) <;> rfl)) (by decide) (by decide) (by show some ( (Value.ref m5)) = some ( (fn_1 p1 m0 m1 m2 m3 m4 m5 m6)); rw [fn_1, if_neg hk1_0, if_neg hk1_1, if_neg hk1_2, if_neg hk1_3, if_neg hk1_4, if_neg hk1_5, if_neg hk1_6, if_neg hk1_7, if_neg hk1_8, if_neg hk1_9, if_neg hk1_10, if_pos hk1_11])
                        ·
                          skip
                          by_cases hk1_12 : p1 = (187 : Int32)
                          · refine Jvm.OwnW.lswIn O d1_1 (by decide) (v := 187) (o := 177) (by rw [hk1_12]; decide) (by decide) (q := 178) rfl ?_
                            refine Jvm.OwnW.ldcM O d1_178 (hw _ (List.mem_of_getElem? (i := 8) rfl)) M6 (q := 180) rfl ?_
                            intro T13 O13
                            refine Jvm.OwnW.goto O13 d1_180 (by decide) (q := 184) rfl ?_
                            exact Jvm.OwnW.retA O13 d1_184 rfl rfl (by first | rfl | (cases ((.ref m6)) <;> rfl)) (by decide) (by decide) (by show some ( (Value.ref m6)) = some ( (fn_1 p1 m0 m1 m2 m3 m4 m5 m6)); rw [fn_1, if_neg hk1_0, if_neg hk1_1, if_neg hk1_2, if_neg hk1_3, if_neg hk1_4, if_neg hk1_5, if_neg hk1_6, if_neg hk1_7, if_neg hk1_8, if_neg hk1_9, if_neg hk1_10, if_neg hk1_11, if_pos hk1_12])
                          ·
                            skip
                            by_cases hk1_13 : p1 = (189 : Int32)
                            · refine Jvm.OwnW.lswIn O d1_1 (by decide) (v := 189) (o := 177) (by rw [hk1_13]; decide) (by decide) (q := 178) rfl ?_
                              refine Jvm.OwnW.ldcM O d1_178 (hw _ (List.mem_of_getElem? (i := 8) rfl)) M6 (q := 180) rfl ?_
                              intro T14 O14
                              refine Jvm.OwnW.goto O14 d1_180 (by decide) (q := 184) rfl ?_
                              exact Jvm.OwnW.retA O14 d1_184 rfl rfl (by first | rfl | (cases ((.ref m6)) <;> rfl)) (by decide) (by decide) (by show some ( (Value.ref m6)) = some ( (fn_1 p1 m0 m1 m2 m3 m4 m5 m6)); rw [fn_1, if_neg hk1_0, if_neg hk1_1, if_neg hk1_2, if_neg hk1_3, if_neg hk1_4, if_neg hk1_5, if_neg hk1_6, if_neg hk1_7, if_neg hk1_8, if_neg hk1_9, if_neg hk1_10, if_neg hk1_11, if_neg hk1_12, if_pos hk1_13])
                            ·
                              skip
                              by_cases hk1_14 : p1 = (192 : Int32)
                              · refine Jvm.OwnW.lswIn O d1_1 (by decide) (v := 192) (o := 177) (by rw [hk1_14]; decide) (by decide) (q := 178) rfl ?_
                                refine Jvm.OwnW.ldcM O d1_178 (hw _ (List.mem_of_getElem? (i := 8) rfl)) M6 (q := 180) rfl ?_
                                intro T15 O15
                                refine Jvm.OwnW.goto O15 d1_180 (by decide) (q := 184) rfl ?_
                                exact Jvm.OwnW.retA O15 d1_184 rfl rfl (by first | rfl | (cases ((.ref m6)) <;> rfl)) (by decide) (by decide) (by show some ( (Value.ref m6)) = some ( (fn_1 p1 m0 m1 m2 m3 m4 m5 m6)); rw [fn_1, if_neg hk1_0, if_neg hk1_1, if_neg hk1_2, if_neg hk1_3, if_neg hk1_4, if_neg hk1_5, if_neg hk1_6, if_neg hk1_7, if_neg hk1_8, if_neg hk1_9, if_neg hk1_10, if_neg hk1_11, if_neg hk1_12, if_neg hk1_13, if_pos hk1_14])
                              ·
                                skip
                                by_cases hk1_15 : p1 = (193 : Int32)
                                · refine Jvm.OwnW.lswIn O d1_1 (by decide) (v := 193) (o := 177) (by rw [hk1_15]; decide) (by decide) (q := 178) rfl ?_
                                  refine Jvm.OwnW.ldcM O d1_178 (hw _ (List.mem_of_getElem? (i := 8) rfl)) M6 (q := 180) rfl ?_
                                  intro T16 O16
                                  refine Jvm.OwnW.goto O16 d1_180 (by decide) (q := 184) rfl ?_
                                  exact Jvm.OwnW.retA O16 d1_184 rfl rfl (by first | rfl | (cases ((.ref m6)) <;> rfl)) (by decide) (by decide) (by show some ( (Value.ref m6)) = some ( (fn_1 p1 m0 m1 m2 m3 m4 m5 m6)); rw [fn_1, if_neg hk1_0, if_neg hk1_1, if_neg hk1_2, if_neg hk1_3, if_neg hk1_4, if_neg hk1_5, if_neg hk1_6, if_neg hk1_7, if_neg hk1_8, if_neg hk1_9, if_neg hk1_10, if_neg hk1_11, if_neg hk1_12, if_neg hk1_13, if_neg hk1_14, if_pos hk1_15])
                                ·
                                  skip
                                  by_cases hk1_16 : p1 = (197 : Int32)
                                  · refine Jvm.OwnW.lswIn O d1_1 (by decide) (v := 197) (o := 177) (by rw [hk1_16]; decide) (by decide) (q := 178) rfl ?_
                                    refine Jvm.OwnW.ldcM O d1_178 (hw _ (List.mem_of_getElem? (i := 8) rfl)) M6 (q := 180) rfl ?_
                                    intro T17 O17
                                    refine Jvm.OwnW.goto O17 d1_180 (by decide) (q := 184) rfl ?_
                                    exact Jvm.OwnW.retA O17 d1_184 rfl rfl (by first | rfl | (cases ((.ref m6)) <;> rfl)) (by decide) (by decide) (by show some ( (Value.ref m6)) = some ( (fn_1 p1 m0 m1 m2 m3 m4 m5 m6)); rw [fn_1, if_neg hk1_0, if_neg hk1_1, if_neg hk1_2, if_neg hk1_3, if_neg hk1_4, if_neg hk1_5, if_neg hk1_6, if_neg hk1_7, if_neg hk1_8, if_neg hk1_9, if_neg hk1_10, if_neg hk1_11, if_neg hk1_12, if_neg hk1_13, if_neg hk1_14, if_neg hk1_15, if_pos hk1_16])
                                  ·
                                    skip
                                    have hmiss : ∀ p ∈ (#[(18, 147), (19, 147), (20, 147), (178, 152), (179, 152), (180, 152), (181, 152), (182, 157), (183, 162), (184, 162), (185, 167), (186, 172), (187, 177), (189, 177), (192, 177), (193, 177), (197, 177)] : Array (Int × Int)).toList, p.1 ≠ p1.toInt := by
                                      intro p hp
                                      have hp : p ∈ [(18, 147), (19, 147), (20, 147), (178, 152), (179, 152), (180, 152), (181, 152), (182, 157), (183, 162), (184, 162), (185, 167), (186, 172), (187, 177), (189, 177), (192, 177), (193, 177), (197, 177)] := hp
                                      simp only [List.mem_cons, List.not_mem_nil, or_false] at hp
                                      rcases hp with rfl | rfl | rfl | rfl | rfl | rfl | rfl | rfl | rfl | rfl | rfl | rfl | rfl | rfl | rfl | rfl | rfl
                                      · exact fun e => hk1_0 (eq32 e.symm)
                                      · exact fun e => hk1_1 (eq32 e.symm)
                                      · exact fun e => hk1_2 (eq32 e.symm)
                                      · exact fun e => hk1_3 (eq32 e.symm)
                                      · exact fun e => hk1_4 (eq32 e.symm)
                                      · exact fun e => hk1_5 (eq32 e.symm)
                                      · exact fun e => hk1_6 (eq32 e.symm)
                                      · exact fun e => hk1_7 (eq32 e.symm)
                                      · exact fun e => hk1_8 (eq32 e.symm)
                                      · exact fun e => hk1_9 (eq32 e.symm)
                                      · exact fun e => hk1_10 (eq32 e.symm)
                                      · exact fun e => hk1_11 (eq32 e.symm)
                                      · exact fun e => hk1_12 (eq32 e.symm)
                                      · exact fun e => hk1_13 (eq32 e.symm)
                                      · exact fun e => hk1_14 (eq32 e.symm)
                                      · exact fun e => hk1_15 (eq32 e.symm)
                                      · exact fun e => hk1_16 (eq32 e.symm)
                                    refine Jvm.OwnW.lswOut O d1_1 (by decide) (find_miss hmiss) (by decide) (q := 183) rfl ?_
                                    refine Jvm.OwnW.aconst_null O d1_183 (q := 184) rfl ?_
                                    exact Jvm.OwnW.retA O d1_184 rfl rfl (by first | rfl | (cases (.null) <;> rfl)) (by decide) (by decide) (by show some ( Value.null) = some ( (fn_1 p1 m0 m1 m2 m3 m4 m5 m6)); rw [fn_1, if_neg hk1_0, if_neg hk1_1, if_neg hk1_2, if_neg hk1_3, if_neg hk1_4, if_neg hk1_5, if_neg hk1_6, if_neg hk1_7, if_neg hk1_8, if_neg hk1_9, if_neg hk1_10, if_neg hk1_11, if_neg hk1_12, if_neg hk1_13, if_neg hk1_14, if_neg hk1_15, if_neg hk1_16])
theorem d2_0 : decode method_2_code 0 = .ok (.iload_n 0, 1) := by decide +kernel
theorem d2_1 : decode method_2_code 1 = .ok (.bipush 18, 2) := by decide +kernel
theorem d2_3 : decode method_2_code 3 = .ok (.if_icmp .lt 12, 3) := by decide +kernel
theorem d2_6 : decode method_2_code 6 = .ok (.iload_n 0, 1) := by decide +kernel
theorem d2_7 : decode method_2_code 7 = .ok (.bipush 20, 2) := by decide +kernel
theorem d2_9 : decode method_2_code 9 = .ok (.if_icmp .gt 6, 3) := by decide +kernel
theorem d2_12 : decode method_2_code 12 = .ok (.ldc 7, 2) := by decide +kernel
theorem d2_14 : decode method_2_code 14 = .ok (.areturn, 1) := by decide +kernel
theorem d2_15 : decode method_2_code 15 = .ok (.iload_n 0, 1) := by decide +kernel
theorem d2_16 : decode method_2_code 16 = .ok (.sipush 178, 3) := by decide +kernel
theorem d2_19 : decode method_2_code 19 = .ok (.if_icmp .lt 13, 3) := by decide +kernel
theorem d2_22 : decode method_2_code 22 = .ok (.iload_n 0, 1) := by decide +kernel
theorem d2_23 : decode method_2_code 23 = .ok (.sipush 181, 3) := by decide +kernel
theorem d2_26 : decode method_2_code 26 = .ok (.if_icmp .gt 6, 3) := by decide +kernel
theorem d2_29 : decode method_2_code 29 = .ok (.ldc 9, 2) := by decide +kernel
theorem d2_31 : decode method_2_code 31 = .ok (.areturn, 1) := by decide +kernel
theorem d2_32 : decode method_2_code 32 = .ok (.iload_n 0, 1) := by decide +kernel
theorem d2_33 : decode method_2_code 33 = .ok (.sipush 182, 3) := by decide +kernel
theorem d2_36 : decode method_2_code 36 = .ok (.if_icmp .ne 6, 3) := by decide +kernel
theorem d2_39 : decode method_2_code 39 = .ok (.ldc 11, 2) := by decide +kernel
theorem d2_41 : decode method_2_code 41 = .ok (.areturn, 1) := by decide +kernel
theorem d2_42 : decode method_2_code 42 = .ok (.iload_n 0, 1) := by decide +kernel
theorem d2_43 : decode method_2_code 43 = .ok (.sipush 183, 3) := by decide +kernel
theorem d2_46 : decode method_2_code 46 = .ok (.if_icmp .eq 10, 3) := by decide +kernel
theorem d2_49 : decode method_2_code 49 = .ok (.iload_n 0, 1) := by decide +kernel
theorem d2_50 : decode method_2_code 50 = .ok (.sipush 184, 3) := by decide +kernel
theorem d2_53 : decode method_2_code 53 = .ok (.if_icmp .ne 6, 3) := by decide +kernel
theorem d2_56 : decode method_2_code 56 = .ok (.ldc 13, 2) := by decide +kernel
theorem d2_58 : decode method_2_code 58 = .ok (.areturn, 1) := by decide +kernel
theorem d2_59 : decode method_2_code 59 = .ok (.iload_n 0, 1) := by decide +kernel
theorem d2_60 : decode method_2_code 60 = .ok (.sipush 185, 3) := by decide +kernel
theorem d2_63 : decode method_2_code 63 = .ok (.if_icmp .ne 6, 3) := by decide +kernel
theorem d2_66 : decode method_2_code 66 = .ok (.ldc 15, 2) := by decide +kernel
theorem d2_68 : decode method_2_code 68 = .ok (.areturn, 1) := by decide +kernel
theorem d2_69 : decode method_2_code 69 = .ok (.iload_n 0, 1) := by decide +kernel
theorem d2_70 : decode method_2_code 70 = .ok (.sipush 186, 3) := by decide +kernel
theorem d2_73 : decode method_2_code 73 = .ok (.if_icmp .ne 6, 3) := by decide +kernel
theorem d2_76 : decode method_2_code 76 = .ok (.ldc 17, 2) := by decide +kernel
theorem d2_78 : decode method_2_code 78 = .ok (.areturn, 1) := by decide +kernel
theorem d2_79 : decode method_2_code 79 = .ok (.iload_n 0, 1) := by decide +kernel
theorem d2_80 : decode method_2_code 80 = .ok (.sipush 187, 3) := by decide +kernel
theorem d2_83 : decode method_2_code 83 = .ok (.if_icmp .eq 31, 3) := by decide +kernel
theorem d2_86 : decode method_2_code 86 = .ok (.iload_n 0, 1) := by decide +kernel
theorem d2_87 : decode method_2_code 87 = .ok (.sipush 189, 3) := by decide +kernel
theorem d2_90 : decode method_2_code 90 = .ok (.if_icmp .eq 24, 3) := by decide +kernel
theorem d2_93 : decode method_2_code 93 = .ok (.iload_n 0, 1) := by decide +kernel
theorem d2_94 : decode method_2_code 94 = .ok (.sipush 192, 3) := by decide +kernel
theorem d2_97 : decode method_2_code 97 = .ok (.if_icmp .eq 17, 3) := by decide +kernel
theorem d2_100 : decode method_2_code 100 = .ok (.iload_n 0, 1) := by decide +kernel
theorem d2_101 : decode method_2_code 101 = .ok (.sipush 193, 3) := by decide +kernel
theorem d2_104 : decode method_2_code 104 = .ok (.if_icmp .eq 10, 3) := by decide +kernel
theorem d2_107 : decode method_2_code 107 = .ok (.iload_n 0, 1) := by decide +kernel
theorem d2_108 : decode method_2_code 108 = .ok (.sipush 197, 3) := by decide +kernel
theorem d2_111 : decode method_2_code 111 = .ok (.if_icmp .ne 6, 3) := by decide +kernel
theorem d2_114 : decode method_2_code 114 = .ok (.ldc 19, 2) := by decide +kernel
theorem d2_116 : decode method_2_code 116 = .ok (.areturn, 1) := by decide +kernel
theorem d2_117 : decode method_2_code 117 = .ok (.aconst_null, 1) := by decide +kernel
theorem d2_118 : decode method_2_code 118 = .ok (.areturn, 1) := by decide +kernel
def fn_2 (p1 : Int32) (m0 : Addr) (m1 : Addr) (m2 : Addr) (m3 : Addr) (m4 : Addr) (m5 : Addr) (m6 : Addr) : Value := (if p1 < (18 : Int32) then (if p1 < (178 : Int32) then (if p1 = (182 : Int32) then (Value.ref m2) else (if p1 = (183 : Int32) then (Value.ref m3) else (if p1 = (184 : Int32) then (Value.ref m3) else (if p1 = (185 : Int32) then (Value.ref m4) else (if p1 = (186 : Int32) then (Value.ref m5) else (if p1 = (187 : Int32) then (Value.ref m6) else (if p1 = (189 : Int32) then (Value.ref m6) else (if p1 = (192 : Int32) then (Value.ref m6) else (if p1 = (193 : Int32) then (Value.ref m6) else (if p1 = (197 : Int32) then (Value.ref m6) else Value.null)))))))))) else (if (181 : Int32) < p1 then (if p1 = (182 : Int32) then (Value.ref m2) else (if p1 = (183 : Int32) then (Value.ref m3) else (if p1 = (184 : Int32) then (Value.ref m3) else (if p1 = (185 : Int32) then (Value.ref m4) else (if p1 = (186 : Int32) then (Value.ref m5) else (if p1 = (187 : Int32) then (Value.ref m6) else (if p1 = (189 : Int32) then (Value.ref m6) else (if p1 = (192 : Int32) then (Value.ref m6) else (if p1 = (193 : Int32) then (Value.ref m6) else (if p1 = (197 : Int32) then (Value.ref m6) else Value.null)))))))))) else (Value.ref m1))) else (if (20 : Int32) < p1 then (if p1 < (178 : Int32) then (if p1 = (182 : Int32) then (Value.ref m2) else (if p1 = (183 : Int32) then (Value.ref m3) else (if p1 = (184 : Int32) then (Value.ref m3) else (if p1 = (185 : Int32) then (Value.ref m4) else (if p1 = (186 : Int32) then (Value.ref m5) else (if p1 = (187 : Int32) then (Value.ref m6) else (if p1 = (189 : Int32) then (Value.ref m6) else (if p1 = (192 : Int32) then (Value.ref m6) else (if p1 = (193 : Int32) then (Value.ref m6) else (if p1 = (197 : Int32) then (Value.ref m6) else Value.null)))))))))) else (if (181 : Int32) < p1 then (if p1 = (182 : Int32) then (Value.ref m2) else (if p1 = (183 : Int32) then (Value.ref m3) else (if p1 = (184 : Int32) then (Value.ref m3) else (if p1 = (185 : Int32) then (Value.ref m4) else (if p1 = (186 : Int32) then (Value.ref m5) else (if p1 = (187 : Int32) then (Value.ref m6) else (if p1 = (189 : Int32) then (Value.ref m6) else (if p1 = (192 : Int32) then (Value.ref m6) else (if p1 = (193 : Int32) then (Value.ref m6) else (if p1 = (197 : Int32) then (Value.ref m6) else Value.null)))))))))) else (Value.ref m1))) else (Value.ref m0)))
theorem ef_2 (p1 : Int32) (m0 : Addr) (m1 : Addr) (m2 : Addr) (m3 : Addr) (m4 : Addr) (m5 : Addr) (m6 : Addr) (m : MethodId) : entryFrame m #[(.int p1)] 1 = mkF m 0 #[.val (.int p1)] [] := by first | (simp [entryFrame, mkF, argsToLocals, Value.category, maxLocals]; done) | rfl
theorem pn_2 : plainFor (⟨"com/example/bytepare/bytepare/classfile/BytecodePoolOperandPinLaw", "expected", "(I)Ljava/lang/Class;"⟩ : MethodName) = true := by first | exact plainFor_of_name (by first | (simp [plainName, overriddenIn]; done) | decide +kernel) | decide +kernel
set_option maxRecDepth 65536 in
set_option maxHeartbeats 40000000 in
theorem rm_2 (l : Launch) (Z : State) (a0 : Array Value) (hw : ∀ d ∈ tables_1, d.before a0 Z = true) (p1 : Int32) (m0 : Addr) (m1 : Addr) (m2 : Addr) (m3 : Addr) (m4 : Addr) (m5 : Addr) (m6 : Addr) (h0 : Heap) (M0 : MirO Z "com/example/bytepare/bytepare/classfile/Constant" m0) (M1 : MirO Z "com/example/bytepare/bytepare/classfile/Constant$FieldrefInfo" m1) (M2 : MirO Z "com/example/bytepare/bytepare/classfile/Constant$MethodrefInfo" m2) (M3 : MirO Z "com/example/bytepare/bytepare/classfile/Constant$MemberRef" m3) (M4 : MirO Z "com/example/bytepare/bytepare/classfile/Constant$InterfaceMethodrefInfo" m4) (M5 : MirO Z "com/example/bytepare/bytepare/classfile/Constant$InvokeDynamicInfo" m5) (M6 : MirO Z "com/example/bytepare/bytepare/classfile/Constant$ClassInfo" m6) :
    Met l Z (⟨"com/example/bytepare/bytepare/classfile/BytecodePoolOperandPinLaw", "expected", "(I)Ljava/lang/Class;"⟩ : MethodName) method_2_code 1 (some (.object "java/lang/Class")) [] ({ frames := 0, cells := 0, slots := 0, locals := 0 } : Room) #[(.int p1)] [] h0 (fun v h => v = some ( (fn_2 p1 m0 m1 m2 m3 m4 m5 m6))) := by
  refine Met.mk pn_2 (ef_2 p1 m0 m1 m2 m3 m4 m5 m6) ?_
  intro C T hs0 O
  show Go C [] (fun v h => v = some ( (fn_2 p1 m0 m1 m2 m3 m4 m5 m6))) 0 0 (T.setTop (mkF C.m 0 #[.val (.int p1)] []))
  refine Jvm.OwnW.iloadN O d2_0 rfl (q := 1) rfl ?_
  refine Jvm.OwnW.bipush O d2_1 (r := (18 : Int32)) rfl (q := 3) rfl ?_
  by_cases hc3 : p1 < (18 : Int32)
  · refine Jvm.OwnW.icmpYes O d2_3 (tlt hc3).1 (by decide) (q := 15) rfl ?_
    refine Jvm.OwnW.iloadN O d2_15 rfl (q := 16) rfl ?_
    refine Jvm.OwnW.sipush O d2_16 (r := (178 : Int32)) rfl (q := 19) rfl ?_
    by_cases hc19 : p1 < (178 : Int32)
    · refine Jvm.OwnW.icmpYes O d2_19 (tlt hc19).1 (by decide) (q := 32) rfl ?_
      refine Jvm.OwnW.iloadN O d2_32 rfl (q := 33) rfl ?_
      refine Jvm.OwnW.sipush O d2_33 (r := (182 : Int32)) rfl (q := 36) rfl ?_
      by_cases hc36 : p1 = (182 : Int32)
      · refine Jvm.OwnW.icmpNo O d2_36 (teq hc36).2 (q := 39) rfl ?_
        refine Jvm.OwnW.ldcM O d2_39 (hw _ (List.mem_of_getElem? (i := 28) rfl)) M2 (q := 41) rfl ?_
        intro T1 O1
        exact Jvm.OwnW.retA O1 d2_41 rfl rfl (by first | rfl | (cases ((.ref m2)) <;> rfl)) (by decide) (by decide) (by show some ( (Value.ref m2)) = some ( (fn_2 p1 m0 m1 m2 m3 m4 m5 m6)); rw [fn_2, if_pos hc3, if_pos hc19, if_pos hc36])
      · refine Jvm.OwnW.icmpYes O d2_36 (feq hc36).2 (by decide) (q := 42) rfl ?_
        refine Jvm.OwnW.iloadN O d2_42 rfl (q := 43) rfl ?_
        refine Jvm.OwnW.sipush O d2_43 (r := (183 : Int32)) rfl (q := 46) rfl ?_
        by_cases hc46 : p1 = (183 : Int32)
        · refine Jvm.OwnW.icmpYes O d2_46 (teq hc46).1 (by decide) (q := 56) rfl ?_
          refine Jvm.OwnW.ldcM O d2_56 (hw _ (List.mem_of_getElem? (i := 16) rfl)) M3 (q := 58) rfl ?_
          intro T2 O2
          exact Jvm.OwnW.retA O2 d2_58 rfl rfl (by first | rfl | (cases ((.ref m3)) <;> rfl)) (by decide) (by decide) (by show some ( (Value.ref m3)) = some ( (fn_2 p1 m0 m1 m2 m3 m4 m5 m6)); rw [fn_2, if_pos hc3, if_pos hc19, if_neg hc36, if_pos hc46])
        · refine Jvm.OwnW.icmpNo O d2_46 (feq hc46).1 (q := 49) rfl ?_
          refine Jvm.OwnW.iloadN O d2_49 rfl (q := 50) rfl ?_
          refine Jvm.OwnW.sipush O d2_50 (r := (184 : Int32)) rfl (q := 53) rfl ?_
          by_cases hc53 : p1 = (184 : Int32)
          · refine Jvm.OwnW.icmpNo O d2_53 (teq hc53).2 (q := 56) rfl ?_
            refine Jvm.OwnW.ldcM O d2_56 (hw _ (List.mem_of_getElem? (i := 16) rfl)) M3 (q := 58) rfl ?_
            intro T3 O3
            exact Jvm.OwnW.retA O3 d2_58 rfl rfl (by first | rfl | (cases ((.ref m3)) <;> rfl)) (by decide) (by decide) (by show some ( (Value.ref m3)) = some ( (fn_2 p1 m0 m1 m2 m3 m4 m5 m6)); rw [fn_2, if_pos hc3, if_pos hc19, if_neg hc36, if_neg hc46, if_pos hc53])
          · refine Jvm.OwnW.icmpYes O d2_53 (feq hc53).2 (by decide) (q := 59) rfl ?_
            refine Jvm.OwnW.iloadN O d2_59 rfl (q := 60) rfl ?_
            refine Jvm.OwnW.sipush O d2_60 (r := (185 : Int32)) rfl (q := 63) rfl ?_
            by_cases hc63 : p1 = (185 : Int32)
            · refine Jvm.OwnW.icmpNo O d2_63 (teq hc63).2 (q := 66) rfl ?_
              refine Jvm.OwnW.ldcM O d2_66 (hw _ (List.mem_of_getElem? (i := 22) rfl)) M4 (q := 68) rfl ?_
              intro T4 O4
              exact Jvm.OwnW.retA O4 d2_68 rfl rfl (by first | rfl | (cases ((.ref m4)) <;> rfl)) (by decide) (by decide) (by show some ( (Value.ref m4)) = some ( (fn_2 p1 m0 m1 m2 m3 m4 m5 m6)); rw [fn_2, if_pos hc3, if_pos hc19, if_neg hc36, if_neg hc46, if_neg hc53, if_pos hc63])
            · refine Jvm.OwnW.icmpYes O d2_63 (feq hc63).2 (by decide) (q := 69) rfl ?_
              refine Jvm.OwnW.iloadN O d2_69 rfl (q := 70) rfl ?_
              refine Jvm.OwnW.sipush O d2_70 (r := (186 : Int32)) rfl (q := 73) rfl ?_
              by_cases hc73 : p1 = (186 : Int32)
              · refine Jvm.OwnW.icmpNo O d2_73 (teq hc73).2 (q := 76) rfl ?_
                refine Jvm.OwnW.ldcM O d2_76 (hw _ (List.mem_of_getElem? (i := 25) rfl)) M5 (q := 78) rfl ?_
                intro T5 O5
                exact Jvm.OwnW.retA O5 d2_78 rfl rfl (by first | rfl | (cases ((.ref m5)) <;> rfl)) (by decide) (by decide) (by show some ( (Value.ref m5)) = some ( (fn_2 p1 m0 m1 m2 m3 m4 m5 m6)); rw [fn_2, if_pos hc3, if_pos hc19, if_neg hc36, if_neg hc46, if_neg hc53, if_neg hc63, if_pos hc73])
              · refine Jvm.OwnW.icmpYes O d2_73 (feq hc73).2 (by decide) (q := 79) rfl ?_
                refine Jvm.OwnW.iloadN O d2_79 rfl (q := 80) rfl ?_
                refine Jvm.OwnW.sipush O d2_80 (r := (187 : Int32)) rfl (q := 83) rfl ?_
                by_cases hc83 : p1 = (187 : Int32)
                · refine Jvm.OwnW.icmpYes O d2_83 (teq hc83).1 (by decide) (q := 114) rfl ?_
                  refine Jvm.OwnW.ldcM O d2_114 (hw _ (List.mem_of_getElem? (i := 10) rfl)) M6 (q := 116) rfl ?_
                  intro T6 O6
                  exact Jvm.OwnW.retA O6 d2_116 rfl rfl (by first | rfl | (cases ((.ref m6)) <;> rfl)) (by decide) (by decide) (by show some ( (Value.ref m6)) = some ( (fn_2 p1 m0 m1 m2 m3 m4 m5 m6)); rw [fn_2, if_pos hc3, if_pos hc19, if_neg hc36, if_neg hc46, if_neg hc53, if_neg hc63, if_neg hc73, if_pos hc83])
                · refine Jvm.OwnW.icmpNo O d2_83 (feq hc83).1 (q := 86) rfl ?_
                  refine Jvm.OwnW.iloadN O d2_86 rfl (q := 87) rfl ?_
                  refine Jvm.OwnW.sipush O d2_87 (r := (189 : Int32)) rfl (q := 90) rfl ?_
                  by_cases hc90 : p1 = (189 : Int32)
                  · refine Jvm.OwnW.icmpYes O d2_90 (teq hc90).1 (by decide) (q := 114) rfl ?_
                    refine Jvm.OwnW.ldcM O d2_114 (hw _ (List.mem_of_getElem? (i := 10) rfl)) M6 (q := 116) rfl ?_
                    intro T7 O7
                    exact Jvm.OwnW.retA O7 d2_116 rfl rfl (by first | rfl | (cases ((.ref m6)) <;> rfl)) (by decide) (by decide) (by show some ( (Value.ref m6)) = some ( (fn_2 p1 m0 m1 m2 m3 m4 m5 m6)); rw [fn_2, if_pos hc3, if_pos hc19, if_neg hc36, if_neg hc46, if_neg hc53, if_neg hc63, if_neg hc73, if_neg hc83, if_pos hc90])
                  · refine Jvm.OwnW.icmpNo O d2_90 (feq hc90).1 (q := 93) rfl ?_
                    refine Jvm.OwnW.iloadN O d2_93 rfl (q := 94) rfl ?_
                    refine Jvm.OwnW.sipush O d2_94 (r := (192 : Int32)) rfl (q := 97) rfl ?_
                    by_cases hc97 : p1 = (192 : Int32)
                    · refine Jvm.OwnW.icmpYes O d2_97 (teq hc97).1 (by decide) (q := 114) rfl ?_
                      refine Jvm.OwnW.ldcM O d2_114 (hw _ (List.mem_of_getElem? (i := 10) rfl)) M6 (q := 116) rfl ?_
                      intro T8 O8
                      exact Jvm.OwnW.retA O8 d2_116 rfl rfl (by first | rfl | (cases ((.ref m6)) <;> rfl)) (by decide) (by decide) (by show some ( (Value.ref m6)) = some ( (fn_2 p1 m0 m1 m2 m3 m4 m5 m6)); rw [fn_2, if_pos hc3, if_pos hc19, if_neg hc36, if_neg hc46, if_neg hc53, if_neg hc63, if_neg hc73, if_neg hc83, if_neg hc90, if_pos hc97])
                    · refine Jvm.OwnW.icmpNo O d2_97 (feq hc97).1 (q := 100) rfl ?_
                      refine Jvm.OwnW.iloadN O d2_100 rfl (q := 101) rfl ?_
                      refine Jvm.OwnW.sipush O d2_101 (r := (193 : Int32)) rfl (q := 104) rfl ?_
                      by_cases hc104 : p1 = (193 : Int32)
                      · refine Jvm.OwnW.icmpYes O d2_104 (teq hc104).1 (by decide) (q := 114) rfl ?_
                        refine Jvm.OwnW.ldcM O d2_114 (hw _ (List.mem_of_getElem? (i := 10) rfl)) M6 (q := 116) rfl ?_
                        intro T9 O9
                        exact Jvm.OwnW.retA O9 d2_116 rfl rfl (by first | rfl | (cases ((.ref m6)) <;> rfl)) (by decide) (by decide) (by show some ( (Value.ref m6)) = some ( (fn_2 p1 m0 m1 m2 m3 m4 m5 m6)); rw [fn_2, if_pos hc3, if_pos hc19, if_neg hc36, if_neg hc46, if_neg hc53, if_neg hc63, if_neg hc73, if_neg hc83, if_neg hc90, if_neg hc97, if_pos hc104])
                      · refine Jvm.OwnW.icmpNo O d2_104 (feq hc104).1 (q := 107) rfl ?_
                        refine Jvm.OwnW.iloadN O d2_107 rfl (q := 108) rfl ?_
                        refine Jvm.OwnW.sipush O d2_108 (r := (197 : Int32)) rfl (q := 111) rfl ?_
                        by_cases hc111 : p1 = (197 : Int32)
                        · refine Jvm.OwnW.icmpNo O d2_111 (teq hc111).2 (q := 114) rfl ?_
                          refine Jvm.OwnW.ldcM O d2_114 (hw _ (List.mem_of_getElem? (i := 10) rfl)) M6 (q := 116) rfl ?_
                          intro T10 O10
                          exact Jvm.OwnW.retA O10 d2_116 rfl rfl (by first | rfl | (cases ((.ref m6)) <;> rfl)) (by decide) (by decide) (by show some ( (Value.ref m6)) = some ( (fn_2 p1 m0 m1 m2 m3 m4 m5 m6)); rw [fn_2, if_pos hc3, if_pos hc19, if_neg hc36, if_neg hc46, if_neg hc53, if_neg hc63, if_neg hc73, if_neg hc83, if_neg hc90, if_neg hc97, if_neg hc104, if_pos hc111])
                        · refine Jvm.OwnW.icmpYes O d2_111 (feq hc111).2 (by decide) (q := 117) rfl ?_
                          refine Jvm.OwnW.aconst_null O d2_117 (q := 118) rfl ?_
                          exact Jvm.OwnW.retA O d2_118 rfl rfl (by first | rfl | (cases (.null) <;> rfl)) (by decide) (by decide) (by show some ( Value.null) = some ( (fn_2 p1 m0 m1 m2 m3 m4 m5 m6)); rw [fn_2, if_pos hc3, if_pos hc19, if_neg hc36, if_neg hc46, if_neg hc53, if_neg hc63, if_neg hc73, if_neg hc83, if_neg hc90, if_neg hc97, if_neg hc104, if_neg hc111])
    · refine Jvm.OwnW.icmpNo O d2_19 (flt hc19).1 (q := 22) rfl ?_
      refine Jvm.OwnW.iloadN O d2_22 rfl (q := 23) rfl ?_
      refine Jvm.OwnW.sipush O d2_23 (r := (181 : Int32)) rfl (q := 26) rfl ?_
      by_cases hc26 : (181 : Int32) < p1
      · refine Jvm.OwnW.icmpYes O d2_26 (tlt hc26).2.2.1 (by decide) (q := 32) rfl ?_
        refine Jvm.OwnW.iloadN O d2_32 rfl (q := 33) rfl ?_
        refine Jvm.OwnW.sipush O d2_33 (r := (182 : Int32)) rfl (q := 36) rfl ?_
        by_cases hc36 : p1 = (182 : Int32)
        · refine Jvm.OwnW.icmpNo O d2_36 (teq hc36).2 (q := 39) rfl ?_
          refine Jvm.OwnW.ldcM O d2_39 (hw _ (List.mem_of_getElem? (i := 28) rfl)) M2 (q := 41) rfl ?_
          intro T11 O11
          exact Jvm.OwnW.retA O11 d2_41 rfl rfl (by first | rfl | (cases ((.ref m2)) <;> rfl)) (by decide) (by decide) (by show some ( (Value.ref m2)) = some ( (fn_2 p1 m0 m1 m2 m3 m4 m5 m6)); rw [fn_2, if_pos hc3, if_neg hc19, if_pos hc26, if_pos hc36])
        · refine Jvm.OwnW.icmpYes O d2_36 (feq hc36).2 (by decide) (q := 42) rfl ?_
          refine Jvm.OwnW.iloadN O d2_42 rfl (q := 43) rfl ?_
          refine Jvm.OwnW.sipush O d2_43 (r := (183 : Int32)) rfl (q := 46) rfl ?_
          by_cases hc46 : p1 = (183 : Int32)
          · refine Jvm.OwnW.icmpYes O d2_46 (teq hc46).1 (by decide) (q := 56) rfl ?_
            refine Jvm.OwnW.ldcM O d2_56 (hw _ (List.mem_of_getElem? (i := 16) rfl)) M3 (q := 58) rfl ?_
            intro T12 O12
            exact Jvm.OwnW.retA O12 d2_58 rfl rfl (by first | rfl | (cases ((.ref m3)) <;> rfl)) (by decide) (by decide) (by show some ( (Value.ref m3)) = some ( (fn_2 p1 m0 m1 m2 m3 m4 m5 m6)); rw [fn_2, if_pos hc3, if_neg hc19, if_pos hc26, if_neg hc36, if_pos hc46])
          · refine Jvm.OwnW.icmpNo O d2_46 (feq hc46).1 (q := 49) rfl ?_
            refine Jvm.OwnW.iloadN O d2_49 rfl (q := 50) rfl ?_
            refine Jvm.OwnW.sipush O d2_50 (r := (184 : Int32)) rfl (q := 53) rfl ?_
            by_cases hc53 : p1 = (184 : Int32)
            · refine Jvm.OwnW.icmpNo O d2_53 (teq hc53).2 (q := 56) rfl ?_
              refine Jvm.OwnW.ldcM O d2_56 (hw _ (List.mem_of_getElem? (i := 16) rfl)) M3 (q := 58) rfl ?_
              intro T13 O13
              exact Jvm.OwnW.retA O13 d2_58 rfl rfl (by first | rfl | (cases ((.ref m3)) <;> rfl)) (by decide) (by decide) (by show some ( (Value.ref m3)) = some ( (fn_2 p1 m0 m1 m2 m3 m4 m5 m6)); rw [fn_2, if_pos hc3, if_neg hc19, if_pos hc26, if_neg hc36, if_neg hc46, if_pos hc53])
            · refine Jvm.OwnW.icmpYes O d2_53 (feq hc53).2 (by decide) (q := 59) rfl ?_
              refine Jvm.OwnW.iloadN O d2_59 rfl (q := 60) rfl ?_
              refine Jvm.OwnW.sipush O d2_60 (r := (185 : Int32)) rfl (q := 63) rfl ?_
              by_cases hc63 : p1 = (185 : Int32)
              · refine Jvm.OwnW.icmpNo O d2_63 (teq hc63).2 (q := 66) rfl ?_
                refine Jvm.OwnW.ldcM O d2_66 (hw _ (List.mem_of_getElem? (i := 22) rfl)) M4 (q := 68) rfl ?_
                intro T14 O14
                exact Jvm.OwnW.retA O14 d2_68 rfl rfl (by first | rfl | (cases ((.ref m4)) <;> rfl)) (by decide) (by decide) (by show some ( (Value.ref m4)) = some ( (fn_2 p1 m0 m1 m2 m3 m4 m5 m6)); rw [fn_2, if_pos hc3, if_neg hc19, if_pos hc26, if_neg hc36, if_neg hc46, if_neg hc53, if_pos hc63])
              · refine Jvm.OwnW.icmpYes O d2_63 (feq hc63).2 (by decide) (q := 69) rfl ?_
                refine Jvm.OwnW.iloadN O d2_69 rfl (q := 70) rfl ?_
                refine Jvm.OwnW.sipush O d2_70 (r := (186 : Int32)) rfl (q := 73) rfl ?_
                by_cases hc73 : p1 = (186 : Int32)
                · refine Jvm.OwnW.icmpNo O d2_73 (teq hc73).2 (q := 76) rfl ?_
                  refine Jvm.OwnW.ldcM O d2_76 (hw _ (List.mem_of_getElem? (i := 25) rfl)) M5 (q := 78) rfl ?_
                  intro T15 O15
                  exact Jvm.OwnW.retA O15 d2_78 rfl rfl (by first | rfl | (cases ((.ref m5)) <;> rfl)) (by decide) (by decide) (by show some ( (Value.ref m5)) = some ( (fn_2 p1 m0 m1 m2 m3 m4 m5 m6)); rw [fn_2, if_pos hc3, if_neg hc19, if_pos hc26, if_neg hc36, if_neg hc46, if_neg hc53, if_neg hc63, if_pos hc73])
                · refine Jvm.OwnW.icmpYes O d2_73 (feq hc73).2 (by decide) (q := 79) rfl ?_
                  refine Jvm.OwnW.iloadN O d2_79 rfl (q := 80) rfl ?_
                  refine Jvm.OwnW.sipush O d2_80 (r := (187 : Int32)) rfl (q := 83) rfl ?_
                  by_cases hc83 : p1 = (187 : Int32)
                  · refine Jvm.OwnW.icmpYes O d2_83 (teq hc83).1 (by decide) (q := 114) rfl ?_
                    refine Jvm.OwnW.ldcM O d2_114 (hw _ (List.mem_of_getElem? (i := 10) rfl)) M6 (q := 116) rfl ?_
                    intro T16 O16
                    exact Jvm.OwnW.retA O16 d2_116 rfl rfl (by first | rfl | (cases ((.ref m6)) <;> rfl)) (by decide) (by decide) (by show some ( (Value.ref m6)) = some ( (fn_2 p1 m0 m1 m2 m3 m4 m5 m6)); rw [fn_2, if_pos hc3, if_neg hc19, if_pos hc26, if_neg hc36, if_neg hc46, if_neg hc53, if_neg hc63, if_neg hc73, if_pos hc83])
                  · refine Jvm.OwnW.icmpNo O d2_83 (feq hc83).1 (q := 86) rfl ?_
                    refine Jvm.OwnW.iloadN O d2_86 rfl (q := 87) rfl ?_
                    refine Jvm.OwnW.sipush O d2_87 (r := (189 : Int32)) rfl (q := 90) rfl ?_
                    by_cases hc90 : p1 = (189 : Int32)
                    · refine Jvm.OwnW.icmpYes O d2_90 (teq hc90).1 (by decide) (q := 114) rfl ?_
                      refine Jvm.OwnW.ldcM O d2_114 (hw _ (List.mem_of_getElem? (i := 10) rfl)) M6 (q := 116) rfl ?_
                      intro T17 O17
                      exact Jvm.OwnW.retA O17 d2_116 rfl rfl (by first | rfl | (cases ((.ref m6)) <;> rfl)) (by decide) (by decide) (by show some ( (Value.ref m6)) = some ( (fn_2 p1 m0 m1 m2 m3 m4 m5 m6)); rw [fn_2, if_pos hc3, if_neg hc19, if_pos hc26, if_neg hc36, if_neg hc46, if_neg hc53, if_neg hc63, if_neg hc73, if_neg hc83, if_pos hc90])
                    · refine Jvm.OwnW.icmpNo O d2_90 (feq hc90).1 (q := 93) rfl ?_
                      refine Jvm.OwnW.iloadN O d2_93 rfl (q := 94) rfl ?_
                      refine Jvm.OwnW.sipush O d2_94 (r := (192 : Int32)) rfl (q := 97) rfl ?_
                      by_cases hc97 : p1 = (192 : Int32)
                      · refine Jvm.OwnW.icmpYes O d2_97 (teq hc97).1 (by decide) (q := 114) rfl ?_
                        refine Jvm.OwnW.ldcM O d2_114 (hw _ (List.mem_of_getElem? (i := 10) rfl)) M6 (q := 116) rfl ?_
                        intro T18 O18
                        exact Jvm.OwnW.retA O18 d2_116 rfl rfl (by first | rfl | (cases ((.ref m6)) <;> rfl)) (by decide) (by decide) (by show some ( (Value.ref m6)) = some ( (fn_2 p1 m0 m1 m2 m3 m4 m5 m6)); rw [fn_2, if_pos hc3, if_neg hc19, if_pos hc26, if_neg hc36, if_neg hc46, if_neg hc53, if_neg hc63, if_neg hc73, if_neg hc83, if_neg hc90, if_pos hc97])
                      · refine Jvm.OwnW.icmpNo O d2_97 (feq hc97).1 (q := 100) rfl ?_
                        refine Jvm.OwnW.iloadN O d2_100 rfl (q := 101) rfl ?_
                        refine Jvm.OwnW.sipush O d2_101 (r := (193 : Int32)) rfl (q := 104) rfl ?_
                        by_cases hc104 : p1 = (193 : Int32)
                        · refine Jvm.OwnW.icmpYes O d2_104 (teq hc104).1 (by decide) (q := 114) rfl ?_
                          refine Jvm.OwnW.ldcM O d2_114 (hw _ (List.mem_of_getElem? (i := 10) rfl)) M6 (q := 116) rfl ?_
                          intro T19 O19
                          exact Jvm.OwnW.retA O19 d2_116 rfl rfl (by first | rfl | (cases ((.ref m6)) <;> rfl)) (by decide) (by decide) (by show some ( (Value.ref m6)) = some ( (fn_2 p1 m0 m1 m2 m3 m4 m5 m6)); rw [fn_2, if_pos hc3, if_neg hc19, if_pos hc26, if_neg hc36, if_neg hc46, if_neg hc53, if_neg hc63, if_neg hc73, if_neg hc83, if_neg hc90, if_neg hc97, if_pos hc104])
                        · refine Jvm.OwnW.icmpNo O d2_104 (feq hc104).1 (q := 107) rfl ?_
                          refine Jvm.OwnW.iloadN O d2_107 rfl (q := 108) rfl ?_
                          refine Jvm.OwnW.sipush O d2_108 (r := (197 : Int32)) rfl (q := 111) rfl ?_
                          by_cases hc111 : p1 = (197 : Int32)
                          · refine Jvm.OwnW.icmpNo O d2_111 (teq hc111).2 (q := 114) rfl ?_
                            refine Jvm.OwnW.ldcM O d2_114 (hw _ (List.mem_of_getElem? (i := 10) rfl)) M6 (q := 116) rfl ?_
                            intro T20 O20
                            exact Jvm.OwnW.retA O20 d2_116 rfl rfl (by first | rfl | (cases ((.ref m6)) <;> rfl)) (by decide) (by decide) (by show some ( (Value.ref m6)) = some ( (fn_2 p1 m0 m1 m2 m3 m4 m5 m6)); rw [fn_2, if_pos hc3, if_neg hc19, if_pos hc26, if_neg hc36, if_neg hc46, if_neg hc53, if_neg hc63, if_neg hc73, if_neg hc83, if_neg hc90, if_neg hc97, if_neg hc104, if_pos hc111])
                          · refine Jvm.OwnW.icmpYes O d2_111 (feq hc111).2 (by decide) (q := 117) rfl ?_
                            refine Jvm.OwnW.aconst_null O d2_117 (q := 118) rfl ?_
                            exact Jvm.OwnW.retA O d2_118 rfl rfl (by first | rfl | (cases (.null) <;> rfl)) (by decide) (by decide) (by show some ( Value.null) = some ( (fn_2 p1 m0 m1 m2 m3 m4 m5 m6)); rw [fn_2, if_pos hc3, if_neg hc19, if_pos hc26, if_neg hc36, if_neg hc46, if_neg hc53, if_neg hc63, if_neg hc73, if_neg hc83, if_neg hc90, if_neg hc97, if_neg hc104, if_neg hc111])
      · refine Jvm.OwnW.icmpNo O d2_26 (flt hc26).2.2.1 (q := 29) rfl ?_
        refine Jvm.OwnW.ldcM O d2_29 (hw _ (List.mem_of_getElem? (i := 19) rfl)) M1 (q := 31) rfl ?_
        intro T21 O21
        exact Jvm.OwnW.retA O21 d2_31 rfl rfl (by first | rfl | (cases ((.ref m1)) <;> rfl)) (by decide) (by decide) (by show some ( (Value.ref m1)) = some ( (fn_2 p1 m0 m1 m2 m3 m4 m5 m6)); rw [fn_2, if_pos hc3, if_neg hc19, if_neg hc26])
  · refine Jvm.OwnW.icmpNo O d2_3 (flt hc3).1 (q := 6) rfl ?_
    refine Jvm.OwnW.iloadN O d2_6 rfl (q := 7) rfl ?_
    refine Jvm.OwnW.bipush O d2_7 (r := (20 : Int32)) rfl (q := 9) rfl ?_
    by_cases hc9 : (20 : Int32) < p1
    · refine Jvm.OwnW.icmpYes O d2_9 (tlt hc9).2.2.1 (by decide) (q := 15) rfl ?_
      refine Jvm.OwnW.iloadN O d2_15 rfl (q := 16) rfl ?_
      refine Jvm.OwnW.sipush O d2_16 (r := (178 : Int32)) rfl (q := 19) rfl ?_
      by_cases hc19 : p1 < (178 : Int32)
      · refine Jvm.OwnW.icmpYes O d2_19 (tlt hc19).1 (by decide) (q := 32) rfl ?_
        refine Jvm.OwnW.iloadN O d2_32 rfl (q := 33) rfl ?_
        refine Jvm.OwnW.sipush O d2_33 (r := (182 : Int32)) rfl (q := 36) rfl ?_
        by_cases hc36 : p1 = (182 : Int32)
        · refine Jvm.OwnW.icmpNo O d2_36 (teq hc36).2 (q := 39) rfl ?_
          refine Jvm.OwnW.ldcM O d2_39 (hw _ (List.mem_of_getElem? (i := 28) rfl)) M2 (q := 41) rfl ?_
          intro T22 O22
          exact Jvm.OwnW.retA O22 d2_41 rfl rfl (by first | rfl | (cases ((.ref m2)) <;> rfl)) (by decide) (by decide) (by show some ( (Value.ref m2)) = some ( (fn_2 p1 m0 m1 m2 m3 m4 m5 m6)); rw [fn_2, if_neg hc3, if_pos hc9, if_pos hc19, if_pos hc36])
        · refine Jvm.OwnW.icmpYes O d2_36 (feq hc36).2 (by decide) (q := 42) rfl ?_
          refine Jvm.OwnW.iloadN O d2_42 rfl (q := 43) rfl ?_
          refine Jvm.OwnW.sipush O d2_43 (r := (183 : Int32)) rfl (q := 46) rfl ?_
          by_cases hc46 : p1 = (183 : Int32)
          · refine Jvm.OwnW.icmpYes O d2_46 (teq hc46).1 (by decide) (q := 56) rfl ?_
            refine Jvm.OwnW.ldcM O d2_56 (hw _ (List.mem_of_getElem? (i := 16) rfl)) M3 (q := 58) rfl ?_
            intro T23 O23
            exact Jvm.OwnW.retA O23 d2_58 rfl rfl (by first | rfl | (cases ((.ref m3)) <;> rfl)) (by decide) (by decide) (by show some ( (Value.ref m3)) = some ( (fn_2 p1 m0 m1 m2 m3 m4 m5 m6)); rw [fn_2, if_neg hc3, if_pos hc9, if_pos hc19, if_neg hc36, if_pos hc46])
          · refine Jvm.OwnW.icmpNo O d2_46 (feq hc46).1 (q := 49) rfl ?_
            refine Jvm.OwnW.iloadN O d2_49 rfl (q := 50) rfl ?_
            refine Jvm.OwnW.sipush O d2_50 (r := (184 : Int32)) rfl (q := 53) rfl ?_
            by_cases hc53 : p1 = (184 : Int32)
            · refine Jvm.OwnW.icmpNo O d2_53 (teq hc53).2 (q := 56) rfl ?_
              refine Jvm.OwnW.ldcM O d2_56 (hw _ (List.mem_of_getElem? (i := 16) rfl)) M3 (q := 58) rfl ?_
              intro T24 O24
              exact Jvm.OwnW.retA O24 d2_58 rfl rfl (by first | rfl | (cases ((.ref m3)) <;> rfl)) (by decide) (by decide) (by show some ( (Value.ref m3)) = some ( (fn_2 p1 m0 m1 m2 m3 m4 m5 m6)); rw [fn_2, if_neg hc3, if_pos hc9, if_pos hc19, if_neg hc36, if_neg hc46, if_pos hc53])
            · refine Jvm.OwnW.icmpYes O d2_53 (feq hc53).2 (by decide) (q := 59) rfl ?_
              refine Jvm.OwnW.iloadN O d2_59 rfl (q := 60) rfl ?_
              refine Jvm.OwnW.sipush O d2_60 (r := (185 : Int32)) rfl (q := 63) rfl ?_
              by_cases hc63 : p1 = (185 : Int32)
              · refine Jvm.OwnW.icmpNo O d2_63 (teq hc63).2 (q := 66) rfl ?_
                refine Jvm.OwnW.ldcM O d2_66 (hw _ (List.mem_of_getElem? (i := 22) rfl)) M4 (q := 68) rfl ?_
                intro T25 O25
                exact Jvm.OwnW.retA O25 d2_68 rfl rfl (by first | rfl | (cases ((.ref m4)) <;> rfl)) (by decide) (by decide) (by show some ( (Value.ref m4)) = some ( (fn_2 p1 m0 m1 m2 m3 m4 m5 m6)); rw [fn_2, if_neg hc3, if_pos hc9, if_pos hc19, if_neg hc36, if_neg hc46, if_neg hc53, if_pos hc63])
              · refine Jvm.OwnW.icmpYes O d2_63 (feq hc63).2 (by decide) (q := 69) rfl ?_
                refine Jvm.OwnW.iloadN O d2_69 rfl (q := 70) rfl ?_
                refine Jvm.OwnW.sipush O d2_70 (r := (186 : Int32)) rfl (q := 73) rfl ?_
                by_cases hc73 : p1 = (186 : Int32)
                · refine Jvm.OwnW.icmpNo O d2_73 (teq hc73).2 (q := 76) rfl ?_
                  refine Jvm.OwnW.ldcM O d2_76 (hw _ (List.mem_of_getElem? (i := 25) rfl)) M5 (q := 78) rfl ?_
                  intro T26 O26
                  exact Jvm.OwnW.retA O26 d2_78 rfl rfl (by first | rfl | (cases ((.ref m5)) <;> rfl)) (by decide) (by decide) (by show some ( (Value.ref m5)) = some ( (fn_2 p1 m0 m1 m2 m3 m4 m5 m6)); rw [fn_2, if_neg hc3, if_pos hc9, if_pos hc19, if_neg hc36, if_neg hc46, if_neg hc53, if_neg hc63, if_pos hc73])
                · refine Jvm.OwnW.icmpYes O d2_73 (feq hc73).2 (by decide) (q := 79) rfl ?_
                  refine Jvm.OwnW.iloadN O d2_79 rfl (q := 80) rfl ?_
                  refine Jvm.OwnW.sipush O d2_80 (r := (187 : Int32)) rfl (q := 83) rfl ?_
                  by_cases hc83 : p1 = (187 : Int32)
                  · refine Jvm.OwnW.icmpYes O d2_83 (teq hc83).1 (by decide) (q := 114) rfl ?_
                    refine Jvm.OwnW.ldcM O d2_114 (hw _ (List.mem_of_getElem? (i := 10) rfl)) M6 (q := 116) rfl ?_
                    intro T27 O27
                    exact Jvm.OwnW.retA O27 d2_116 rfl rfl (by first | rfl | (cases ((.ref m6)) <;> rfl)) (by decide) (by decide) (by show some ( (Value.ref m6)) = some ( (fn_2 p1 m0 m1 m2 m3 m4 m5 m6)); rw [fn_2, if_neg hc3, if_pos hc9, if_pos hc19, if_neg hc36, if_neg hc46, if_neg hc53, if_neg hc63, if_neg hc73, if_pos hc83])
                  · refine Jvm.OwnW.icmpNo O d2_83 (feq hc83).1 (q := 86) rfl ?_
                    refine Jvm.OwnW.iloadN O d2_86 rfl (q := 87) rfl ?_
                    refine Jvm.OwnW.sipush O d2_87 (r := (189 : Int32)) rfl (q := 90) rfl ?_
                    by_cases hc90 : p1 = (189 : Int32)
                    · refine Jvm.OwnW.icmpYes O d2_90 (teq hc90).1 (by decide) (q := 114) rfl ?_
                      refine Jvm.OwnW.ldcM O d2_114 (hw _ (List.mem_of_getElem? (i := 10) rfl)) M6 (q := 116) rfl ?_
                      intro T28 O28
                      exact Jvm.OwnW.retA O28 d2_116 rfl rfl (by first | rfl | (cases ((.ref m6)) <;> rfl)) (by decide) (by decide) (by show some ( (Value.ref m6)) = some ( (fn_2 p1 m0 m1 m2 m3 m4 m5 m6)); rw [fn_2, if_neg hc3, if_pos hc9, if_pos hc19, if_neg hc36, if_neg hc46, if_neg hc53, if_neg hc63, if_neg hc73, if_neg hc83, if_pos hc90])
                    · refine Jvm.OwnW.icmpNo O d2_90 (feq hc90).1 (q := 93) rfl ?_
                      refine Jvm.OwnW.iloadN O d2_93 rfl (q := 94) rfl ?_
                      refine Jvm.OwnW.sipush O d2_94 (r := (192 : Int32)) rfl (q := 97) rfl ?_
                      by_cases hc97 : p1 = (192 : Int32)
                      · refine Jvm.OwnW.icmpYes O d2_97 (teq hc97).1 (by decide) (q := 114) rfl ?_
                        refine Jvm.OwnW.ldcM O d2_114 (hw _ (List.mem_of_getElem? (i := 10) rfl)) M6 (q := 116) rfl ?_
                        intro T29 O29
                        exact Jvm.OwnW.retA O29 d2_116 rfl rfl (by first | rfl | (cases ((.ref m6)) <;> rfl)) (by decide) (by decide) (by show some ( (Value.ref m6)) = some ( (fn_2 p1 m0 m1 m2 m3 m4 m5 m6)); rw [fn_2, if_neg hc3, if_pos hc9, if_pos hc19, if_neg hc36, if_neg hc46, if_neg hc53, if_neg hc63, if_neg hc73, if_neg hc83, if_neg hc90, if_pos hc97])
                      · refine Jvm.OwnW.icmpNo O d2_97 (feq hc97).1 (q := 100) rfl ?_
                        refine Jvm.OwnW.iloadN O d2_100 rfl (q := 101) rfl ?_
                        refine Jvm.OwnW.sipush O d2_101 (r := (193 : Int32)) rfl (q := 104) rfl ?_
                        by_cases hc104 : p1 = (193 : Int32)
                        · refine Jvm.OwnW.icmpYes O d2_104 (teq hc104).1 (by decide) (q := 114) rfl ?_
                          refine Jvm.OwnW.ldcM O d2_114 (hw _ (List.mem_of_getElem? (i := 10) rfl)) M6 (q := 116) rfl ?_
                          intro T30 O30
                          exact Jvm.OwnW.retA O30 d2_116 rfl rfl (by first | rfl | (cases ((.ref m6)) <;> rfl)) (by decide) (by decide) (by show some ( (Value.ref m6)) = some ( (fn_2 p1 m0 m1 m2 m3 m4 m5 m6)); rw [fn_2, if_neg hc3, if_pos hc9, if_pos hc19, if_neg hc36, if_neg hc46, if_neg hc53, if_neg hc63, if_neg hc73, if_neg hc83, if_neg hc90, if_neg hc97, if_pos hc104])
                        · refine Jvm.OwnW.icmpNo O d2_104 (feq hc104).1 (q := 107) rfl ?_
                          refine Jvm.OwnW.iloadN O d2_107 rfl (q := 108) rfl ?_
                          refine Jvm.OwnW.sipush O d2_108 (r := (197 : Int32)) rfl (q := 111) rfl ?_
                          by_cases hc111 : p1 = (197 : Int32)
                          · refine Jvm.OwnW.icmpNo O d2_111 (teq hc111).2 (q := 114) rfl ?_
                            refine Jvm.OwnW.ldcM O d2_114 (hw _ (List.mem_of_getElem? (i := 10) rfl)) M6 (q := 116) rfl ?_
                            intro T31 O31
                            exact Jvm.OwnW.retA O31 d2_116 rfl rfl (by first | rfl | (cases ((.ref m6)) <;> rfl)) (by decide) (by decide) (by show some ( (Value.ref m6)) = some ( (fn_2 p1 m0 m1 m2 m3 m4 m5 m6)); rw [fn_2, if_neg hc3, if_pos hc9, if_pos hc19, if_neg hc36, if_neg hc46, if_neg hc53, if_neg hc63, if_neg hc73, if_neg hc83, if_neg hc90, if_neg hc97, if_neg hc104, if_pos hc111])
                          · refine Jvm.OwnW.icmpYes O d2_111 (feq hc111).2 (by decide) (q := 117) rfl ?_
                            refine Jvm.OwnW.aconst_null O d2_117 (q := 118) rfl ?_
                            exact Jvm.OwnW.retA O d2_118 rfl rfl (by first | rfl | (cases (.null) <;> rfl)) (by decide) (by decide) (by show some ( Value.null) = some ( (fn_2 p1 m0 m1 m2 m3 m4 m5 m6)); rw [fn_2, if_neg hc3, if_pos hc9, if_pos hc19, if_neg hc36, if_neg hc46, if_neg hc53, if_neg hc63, if_neg hc73, if_neg hc83, if_neg hc90, if_neg hc97, if_neg hc104, if_neg hc111])
      · refine Jvm.OwnW.icmpNo O d2_19 (flt hc19).1 (q := 22) rfl ?_
        refine Jvm.OwnW.iloadN O d2_22 rfl (q := 23) rfl ?_
        refine Jvm.OwnW.sipush O d2_23 (r := (181 : Int32)) rfl (q := 26) rfl ?_
        by_cases hc26 : (181 : Int32) < p1
        · refine Jvm.OwnW.icmpYes O d2_26 (tlt hc26).2.2.1 (by decide) (q := 32) rfl ?_
          refine Jvm.OwnW.iloadN O d2_32 rfl (q := 33) rfl ?_
          refine Jvm.OwnW.sipush O d2_33 (r := (182 : Int32)) rfl (q := 36) rfl ?_
          by_cases hc36 : p1 = (182 : Int32)
          · refine Jvm.OwnW.icmpNo O d2_36 (teq hc36).2 (q := 39) rfl ?_
            refine Jvm.OwnW.ldcM O d2_39 (hw _ (List.mem_of_getElem? (i := 28) rfl)) M2 (q := 41) rfl ?_
            intro T32 O32
            exact Jvm.OwnW.retA O32 d2_41 rfl rfl (by first | rfl | (cases ((.ref m2)) <;> rfl)) (by decide) (by decide) (by show some ( (Value.ref m2)) = some ( (fn_2 p1 m0 m1 m2 m3 m4 m5 m6)); rw [fn_2, if_neg hc3, if_pos hc9, if_neg hc19, if_pos hc26, if_pos hc36])
          · refine Jvm.OwnW.icmpYes O d2_36 (feq hc36).2 (by decide) (q := 42) rfl ?_
            refine Jvm.OwnW.iloadN O d2_42 rfl (q := 43) rfl ?_
            refine Jvm.OwnW.sipush O d2_43 (r := (183 : Int32)) rfl (q := 46) rfl ?_
            by_cases hc46 : p1 = (183 : Int32)
            · refine Jvm.OwnW.icmpYes O d2_46 (teq hc46).1 (by decide) (q := 56) rfl ?_
              refine Jvm.OwnW.ldcM O d2_56 (hw _ (List.mem_of_getElem? (i := 16) rfl)) M3 (q := 58) rfl ?_
              intro T33 O33
              exact Jvm.OwnW.retA O33 d2_58 rfl rfl (by first | rfl | (cases ((.ref m3)) <;> rfl)) (by decide) (by decide) (by show some ( (Value.ref m3)) = some ( (fn_2 p1 m0 m1 m2 m3 m4 m5 m6)); rw [fn_2, if_neg hc3, if_pos hc9, if_neg hc19, if_pos hc26, if_neg hc36, if_pos hc46])
            · refine Jvm.OwnW.icmpNo O d2_46 (feq hc46).1 (q := 49) rfl ?_
              refine Jvm.OwnW.iloadN O d2_49 rfl (q := 50) rfl ?_
              refine Jvm.OwnW.sipush O d2_50 (r := (184 : Int32)) rfl (q := 53) rfl ?_
              by_cases hc53 : p1 = (184 : Int32)
              · refine Jvm.OwnW.icmpNo O d2_53 (teq hc53).2 (q := 56) rfl ?_
                refine Jvm.OwnW.ldcM O d2_56 (hw _ (List.mem_of_getElem? (i := 16) rfl)) M3 (q := 58) rfl ?_
                intro T34 O34
                exact Jvm.OwnW.retA O34 d2_58 rfl rfl (by first | rfl | (cases ((.ref m3)) <;> rfl)) (by decide) (by decide) (by show some ( (Value.ref m3)) = some ( (fn_2 p1 m0 m1 m2 m3 m4 m5 m6)); rw [fn_2, if_neg hc3, if_pos hc9, if_neg hc19, if_pos hc26, if_neg hc36, if_neg hc46, if_pos hc53])
              · refine Jvm.OwnW.icmpYes O d2_53 (feq hc53).2 (by decide) (q := 59) rfl ?_
                refine Jvm.OwnW.iloadN O d2_59 rfl (q := 60) rfl ?_
                refine Jvm.OwnW.sipush O d2_60 (r := (185 : Int32)) rfl (q := 63) rfl ?_
                by_cases hc63 : p1 = (185 : Int32)
                · refine Jvm.OwnW.icmpNo O d2_63 (teq hc63).2 (q := 66) rfl ?_
                  refine Jvm.OwnW.ldcM O d2_66 (hw _ (List.mem_of_getElem? (i := 22) rfl)) M4 (q := 68) rfl ?_
                  intro T35 O35
                  exact Jvm.OwnW.retA O35 d2_68 rfl rfl (by first | rfl | (cases ((.ref m4)) <;> rfl)) (by decide) (by decide) (by show some ( (Value.ref m4)) = some ( (fn_2 p1 m0 m1 m2 m3 m4 m5 m6)); rw [fn_2, if_neg hc3, if_pos hc9, if_neg hc19, if_pos hc26, if_neg hc36, if_neg hc46, if_neg hc53, if_pos hc63])
                · refine Jvm.OwnW.icmpYes O d2_63 (feq hc63).2 (by decide) (q := 69) rfl ?_
                  refine Jvm.OwnW.iloadN O d2_69 rfl (q := 70) rfl ?_
                  refine Jvm.OwnW.sipush O d2_70 (r := (186 : Int32)) rfl (q := 73) rfl ?_
                  by_cases hc73 : p1 = (186 : Int32)
                  · refine Jvm.OwnW.icmpNo O d2_73 (teq hc73).2 (q := 76) rfl ?_
                    refine Jvm.OwnW.ldcM O d2_76 (hw _ (List.mem_of_getElem? (i := 25) rfl)) M5 (q := 78) rfl ?_
                    intro T36 O36
                    exact Jvm.OwnW.retA O36 d2_78 rfl rfl (by first | rfl | (cases ((.ref m5)) <;> rfl)) (by decide) (by decide) (by show some ( (Value.ref m5)) = some ( (fn_2 p1 m0 m1 m2 m3 m4 m5 m6)); rw [fn_2, if_neg hc3, if_pos hc9, if_neg hc19, if_pos hc26, if_neg hc36, if_neg hc46, if_neg hc53, if_neg hc63, if_pos hc73])
                  · refine Jvm.OwnW.icmpYes O d2_73 (feq hc73).2 (by decide) (q := 79) rfl ?_
                    refine Jvm.OwnW.iloadN O d2_79 rfl (q := 80) rfl ?_
                    refine Jvm.OwnW.sipush O d2_80 (r := (187 : Int32)) rfl (q := 83) rfl ?_
                    by_cases hc83 : p1 = (187 : Int32)
                    · refine Jvm.OwnW.icmpYes O d2_83 (teq hc83).1 (by decide) (q := 114) rfl ?_
                      refine Jvm.OwnW.ldcM O d2_114 (hw _ (List.mem_of_getElem? (i := 10) rfl)) M6 (q := 116) rfl ?_
                      intro T37 O37
                      exact Jvm.OwnW.retA O37 d2_116 rfl rfl (by first | rfl | (cases ((.ref m6)) <;> rfl)) (by decide) (by decide) (by show some ( (Value.ref m6)) = some ( (fn_2 p1 m0 m1 m2 m3 m4 m5 m6)); rw [fn_2, if_neg hc3, if_pos hc9, if_neg hc19, if_pos hc26, if_neg hc36, if_neg hc46, if_neg hc53, if_neg hc63, if_neg hc73, if_pos hc83])
                    · refine Jvm.OwnW.icmpNo O d2_83 (feq hc83).1 (q := 86) rfl ?_
                      refine Jvm.OwnW.iloadN O d2_86 rfl (q := 87) rfl ?_
                      refine Jvm.OwnW.sipush O d2_87 (r := (189 : Int32)) rfl (q := 90) rfl ?_
                      by_cases hc90 : p1 = (189 : Int32)
                      · refine Jvm.OwnW.icmpYes O d2_90 (teq hc90).1 (by decide) (q := 114) rfl ?_
                        refine Jvm.OwnW.ldcM O d2_114 (hw _ (List.mem_of_getElem? (i := 10) rfl)) M6 (q := 116) rfl ?_
                        intro T38 O38
                        exact Jvm.OwnW.retA O38 d2_116 rfl rfl (by first | rfl | (cases ((.ref m6)) <;> rfl)) (by decide) (by decide) (by show some ( (Value.ref m6)) = some ( (fn_2 p1 m0 m1 m2 m3 m4 m5 m6)); rw [fn_2, if_neg hc3, if_pos hc9, if_neg hc19, if_pos hc26, if_neg hc36, if_neg hc46, if_neg hc53, if_neg hc63, if_neg hc73, if_neg hc83, if_pos hc90])
                      · refine Jvm.OwnW.icmpNo O d2_90 (feq hc90).1 (q := 93) rfl ?_
                        refine Jvm.OwnW.iloadN O d2_93 rfl (q := 94) rfl ?_
                        refine Jvm.OwnW.sipush O d2_94 (r := (192 : Int32)) rfl (q := 97) rfl ?_
                        by_cases hc97 : p1 = (192 : Int32)
                        · refine Jvm.OwnW.icmpYes O d2_97 (teq hc97).1 (by decide) (q := 114) rfl ?_
                          refine Jvm.OwnW.ldcM O d2_114 (hw _ (List.mem_of_getElem? (i := 10) rfl)) M6 (q := 116) rfl ?_
                          intro T39 O39
                          exact Jvm.OwnW.retA O39 d2_116 rfl rfl (by first | rfl | (cases ((.ref m6)) <;> rfl)) (by decide) (by decide) (by show some ( (Value.ref m6)) = some ( (fn_2 p1 m0 m1 m2 m3 m4 m5 m6)); rw [fn_2, if_neg hc3, if_pos hc9, if_neg hc19, if_pos hc26, if_neg hc36, if_neg hc46, if_neg hc53, if_neg hc63, if_neg hc73, if_neg hc83, if_neg hc90, if_pos hc97])
                        · refine Jvm.OwnW.icmpNo O d2_97 (feq hc97).1 (q := 100) rfl ?_
                          refine Jvm.OwnW.iloadN O d2_100 rfl (q := 101) rfl ?_
                          refine Jvm.OwnW.sipush O d2_101 (r := (193 : Int32)) rfl (q := 104) rfl ?_
                          by_cases hc104 : p1 = (193 : Int32)
                          · refine Jvm.OwnW.icmpYes O d2_104 (teq hc104).1 (by decide) (q := 114) rfl ?_
                            refine Jvm.OwnW.ldcM O d2_114 (hw _ (List.mem_of_getElem? (i := 10) rfl)) M6 (q := 116) rfl ?_
                            intro T40 O40
                            exact Jvm.OwnW.retA O40 d2_116 rfl rfl (by first | rfl | (cases ((.ref m6)) <;> rfl)) (by decide) (by decide) (by show some ( (Value.ref m6)) = some ( (fn_2 p1 m0 m1 m2 m3 m4 m5 m6)); rw [fn_2, if_neg hc3, if_pos hc9, if_neg hc19, if_pos hc26, if_neg hc36, if_neg hc46, if_neg hc53, if_neg hc63, if_neg hc73, if_neg hc83, if_neg hc90, if_neg hc97, if_pos hc104])
                          · refine Jvm.OwnW.icmpNo O d2_104 (feq hc104).1 (q := 107) rfl ?_
                            refine Jvm.OwnW.iloadN O d2_107 rfl (q := 108) rfl ?_
                            refine Jvm.OwnW.sipush O d2_108 (r := (197 : Int32)) rfl (q := 111) rfl ?_
                            by_cases hc111 : p1 = (197 : Int32)
                            · refine Jvm.OwnW.icmpNo O d2_111 (teq hc111).2 (q := 114) rfl ?_
                              refine Jvm.OwnW.ldcM O d2_114 (hw _ (List.mem_of_getElem? (i := 10) rfl)) M6 (q := 116) rfl ?_
                              intro T41 O41
                              exact Jvm.OwnW.retA O41 d2_116 rfl rfl (by first | rfl | (cases ((.ref m6)) <;> rfl)) (by decide) (by decide) (by show some ( (Value.ref m6)) = some ( (fn_2 p1 m0 m1 m2 m3 m4 m5 m6)); rw [fn_2, if_neg hc3, if_pos hc9, if_neg hc19, if_pos hc26, if_neg hc36, if_neg hc46, if_neg hc53, if_neg hc63, if_neg hc73, if_neg hc83, if_neg hc90, if_neg hc97, if_neg hc104, if_pos hc111])
                            · refine Jvm.OwnW.icmpYes O d2_111 (feq hc111).2 (by decide) (q := 117) rfl ?_
                              refine Jvm.OwnW.aconst_null O d2_117 (q := 118) rfl ?_
                              exact Jvm.OwnW.retA O d2_118 rfl rfl (by first | rfl | (cases (.null) <;> rfl)) (by decide) (by decide) (by show some ( Value.null) = some ( (fn_2 p1 m0 m1 m2 m3 m4 m5 m6)); rw [fn_2, if_neg hc3, if_pos hc9, if_neg hc19, if_pos hc26, if_neg hc36, if_neg hc46, if_neg hc53, if_neg hc63, if_neg hc73, if_neg hc83, if_neg hc90, if_neg hc97, if_neg hc104, if_neg hc111])
        · refine Jvm.OwnW.icmpNo O d2_26 (flt hc26).2.2.1 (q := 29) rfl ?_
          refine Jvm.OwnW.ldcM O d2_29 (hw _ (List.mem_of_getElem? (i := 19) rfl)) M1 (q := 31) rfl ?_
          intro T42 O42
          exact Jvm.OwnW.retA O42 d2_31 rfl rfl (by first | rfl | (cases ((.ref m1)) <;> rfl)) (by decide) (by decide) (by show some ( (Value.ref m1)) = some ( (fn_2 p1 m0 m1 m2 m3 m4 m5 m6)); rw [fn_2, if_neg hc3, if_pos hc9, if_neg hc19, if_neg hc26])
    · refine Jvm.OwnW.icmpNo O d2_9 (flt hc9).2.2.1 (q := 12) rfl ?_
      refine Jvm.OwnW.ldcM O d2_12 (hw _ (List.mem_of_getElem? (i := 13) rfl)) M0 (q := 14) rfl ?_
      intro T43 O43
      exact Jvm.OwnW.retA O43 d2_14 rfl rfl (by first | rfl | (cases ((.ref m0)) <;> rfl)) (by decide) (by decide) (by show some ( (Value.ref m0)) = some ( (fn_2 p1 m0 m1 m2 m3 m4 m5 m6)); rw [fn_2, if_neg hc3, if_neg hc9])
set_option maxRecDepth 65536 in
theorem own_eq (x : Int32) (m0 m1 m2 m3 m4 m5 m6 : Addr) : fn_1 x m0 m1 m2 m3 m4 m5 m6 = fn_2 x m0 m1 m2 m3 m4 m5 m6 := by
  by_cases h18 : x = 18
  · subst h18; rfl
  by_cases h19 : x = 19
  · subst h19; rfl
  by_cases h20 : x = 20
  · subst h20; rfl
  by_cases h178 : x = 178
  · subst h178; rfl
  by_cases h179 : x = 179
  · subst h179; rfl
  by_cases h180 : x = 180
  · subst h180; rfl
  by_cases h181 : x = 181
  · subst h181; rfl
  by_cases h182 : x = 182
  · subst h182; rfl
  by_cases h183 : x = 183
  · subst h183; rfl
  by_cases h184 : x = 184
  · subst h184; rfl
  by_cases h185 : x = 185
  · subst h185; rfl
  by_cases h186 : x = 186
  · subst h186; rfl
  by_cases h187 : x = 187
  · subst h187; rfl
  by_cases h189 : x = 189
  · subst h189; rfl
  by_cases h192 : x = 192
  · subst h192; rfl
  by_cases h193 : x = 193
  · subst h193; rfl
  by_cases h197 : x = 197
  · subst h197; rfl
  have e1 : fn_1 x m0 m1 m2 m3 m4 m5 m6 = Value.null := by rw [fn_1, if_neg h18, if_neg h19, if_neg h20, if_neg h178, if_neg h179, if_neg h180, if_neg h181, if_neg h182, if_neg h183, if_neg h184, if_neg h185, if_neg h186, if_neg h187, if_neg h189, if_neg h192, if_neg h193, if_neg h197]
  rw [e1]
  refine Eq.symm ?_
  unfold fn_2
  have hz : ∀ k : Int32, ¬ x = k → x.toInt ≠ k.toInt := fun k h e => h (eq32 e)
  have z18 := hz 18 h18
  have z19 := hz 19 h19
  have z20 := hz 20 h20
  have z178 := hz 178 h178
  have z179 := hz 179 h179
  have z180 := hz 180 h180
  have z181 := hz 181 h181
  have z182 := hz 182 h182
  have z183 := hz 183 h183
  have z184 := hz 184 h184
  have z185 := hz 185 h185
  have z186 := hz 186 h186
  have z187 := hz 187 h187
  have z189 := hz 189 h189
  have z192 := hz 192 h192
  have z193 := hz 193 h193
  have z197 := hz 197 h197
  repeat' (first | rfl | refine ite_val (fun h => ?_) (fun h => ?_))
  all_goals first
    | contradiction
    | (exfalso; simp only [Int32.lt_iff_toInt_lt, show (18 : Int32).toInt = 18 from rfl, show (19 : Int32).toInt = 19 from rfl, show (20 : Int32).toInt = 20 from rfl, show (178 : Int32).toInt = 178 from rfl, show (179 : Int32).toInt = 179 from rfl, show (180 : Int32).toInt = 180 from rfl, show (181 : Int32).toInt = 181 from rfl, show (182 : Int32).toInt = 182 from rfl, show (183 : Int32).toInt = 183 from rfl, show (184 : Int32).toInt = 184 from rfl, show (185 : Int32).toInt = 185 from rfl, show (186 : Int32).toInt = 186 from rfl, show (187 : Int32).toInt = 187 from rfl, show (189 : Int32).toInt = 189 from rfl, show (192 : Int32).toInt = 192 from rfl, show (193 : Int32).toInt = 193 from rfl, show (197 : Int32).toInt = 197 from rfl] at *; omega)
theorem own_ref1 (x : Int32) (m0 m1 m2 m3 m4 m5 m6 : Addr) : (fn_1 x m0 m1 m2 m3 m4 m5 m6).isRef = true := by
  unfold fn_1
  repeat' (first | rfl | apply isRef_ite)
theorem own_ref2 (x : Int32) (m0 m1 m2 m3 m4 m5 m6 : Addr) : (fn_2 x m0 m1 m2 m3 m4 m5 m6).isRef = true := by rw [← own_eq]; exact own_ref1 ..
theorem pd_0 : parseMethodDescriptor "(I)Ljava/lang/Class;" = some ⟨[.int], some (.object "java/lang/Class")⟩ := by decide +kernel
theorem ef_0 (p0 : Int32) (m0 : Addr) (m1 : Addr) (m2 : Addr) (m3 : Addr) (m4 : Addr) (m5 : Addr) (m6 : Addr) (m : MethodId) : entryFrame m #[(.int p0)] maxLocals = mkF m 0 #[.val (.int p0), .unset, .unset, .unset] [] := by first | (simp [entryFrame, mkF, argsToLocals, Value.category, maxLocals]; done) | rfl
theorem pn_0 : plainFor x = true := by first | exact plainFor_of_name (by first | (simp [plainName, overriddenIn]; done) | decide +kernel) | decide +kernel
set_option maxRecDepth 65536 in
set_option maxHeartbeats 40000000 in
theorem rm_0 (l : Launch) (Z : State) (a0 : Array Value) (hw : ∀ d ∈ tables_1, d.before a0 Z = true) (wds : List Jvm.Cond) (p0 : Int32) (m0 : Addr) (m1 : Addr) (m2 : Addr) (m3 : Addr) (m4 : Addr) (m5 : Addr) (m6 : Addr) (h0 : Heap) (M0 : MirO Z "com/example/bytepare/bytepare/classfile/Constant" m0) (M1 : MirO Z "com/example/bytepare/bytepare/classfile/Constant$FieldrefInfo" m1) (M2 : MirO Z "com/example/bytepare/bytepare/classfile/Constant$MethodrefInfo" m2) (M3 : MirO Z "com/example/bytepare/bytepare/classfile/Constant$MemberRef" m3) (M4 : MirO Z "com/example/bytepare/bytepare/classfile/Constant$InterfaceMethodrefInfo" m4) (M5 : MirO Z "com/example/bytepare/bytepare/classfile/Constant$InvokeDynamicInfo" m5) (M6 : MirO Z "com/example/bytepare/bytepare/classfile/Constant$ClassInfo" m6) :
    Met l Z x code maxLocals ret wds room_1 #[(.int p0)] [] h0 (fun v h => v = some (.int 1)) := by
  refine Met.mk pn_0 (ef_0 p0 m0 m1 m2 m3 m4 m5 m6) ?_
  intro C T hs0 O
  show Go C [] (fun v h => v = some (.int 1)) 0 0 (T.setTop (mkF C.m 0 #[.val (.int p0), .unset, .unset, .unset] []))
  refine Jvm.OwnW.iloadN O at_0 rfl (q := 1) rfl ?_
  refine Jvm.OwnW.sipush O at_1 (r := (255 : Int32)) rfl (q := 4) rfl ?_
  refine Jvm.OwnW.iand O at_4 rfl (q := 5) rfl ?_
  refine Jvm.OwnW.istoreN O at_5 (L' := #[.val (.int p0), .val (.int (p0 &&& (255 : Int32))), .unset, .unset]) rfl (q := 6) rfl ?_
  refine Jvm.OwnW.iloadN O at_6 rfl (q := 7) rfl ?_
  refine Jvm.OwnW.callS0 O (y := (⟨"com/example/bytepare/bytepare/classfile/Bytecode", "poolOperand", "(I)Ljava/lang/Class;"⟩ : MethodName)) (argsL := [(.int p0)]) (rest := []) at_7 (hw _ (List.mem_of_getElem? (i := 0) rfl)) (hw _ (List.mem_of_getElem? (i := 1) rfl)) (hw _ (List.mem_of_getElem? (i := 2) rfl)) (hw _ (List.mem_of_getElem? (i := 3) rfl)) (by decide) (rm_1 l Z a0 hw p0 m0 m1 m2 m3 m4 m5 m6 h0 M0 M1 M2 M3 M4 M5 M6) rfl pd_0 rfl (hst := rfl) (W := 0) (Nat.le_of_eq rfl) (by decide) (by decide) (c2 := 0) (s2 := 0) rfl rfl (by decide) (by decide) rfl rfl (q := 10) rfl ?_
  intro v1 T1 O1 q1
  obtain rfl := q1
  show Go C _ _ _ _ (T1.setTop (mkF C.m 10 #[.val (.int p0), .val (.int (p0 &&& (255 : Int32))), .unset, .unset] [(fn_1 p0 m0 m1 m2 m3 m4 m5 m6)]))
  refine Jvm.OwnW.iloadN O1 at_10 rfl (q := 11) rfl ?_
  refine Jvm.OwnW.callS0 O1 (y := (⟨"com/example/bytepare/bytepare/classfile/BytecodePoolOperandPinLaw", "expected", "(I)Ljava/lang/Class;"⟩ : MethodName)) (argsL := [(.int p0)]) (rest := [(fn_1 p0 m0 m1 m2 m3 m4 m5 m6)]) at_11 (hw _ (List.mem_of_getElem? (i := 4) rfl)) (hw _ (List.mem_of_getElem? (i := 5) rfl)) (hw _ (List.mem_of_getElem? (i := 6) rfl)) (hw _ (List.mem_of_getElem? (i := 7) rfl)) (by decide) (rm_2 l Z a0 hw p0 m0 m1 m2 m3 m4 m5 m6 h0 M0 M1 M2 M3 M4 M5 M6) rfl pd_0 rfl (hst := rfl) (W := 1) (by simp only [List.map_cons, List.map_nil, List.sum_cons, List.sum_nil, catR (own_ref1 p0 m0 m1 m2 m3 m4 m5 m6)]; exact Nat.le_refl _) (by decide) (by decide) (c2 := 0) (s2 := 0) rfl rfl (by decide) (by decide) rfl rfl (q := 14) rfl ?_
  intro v2 T2 O2 q2
  obtain rfl := q2
  show Go C _ _ _ _ (T2.setTop (mkF C.m 14 #[.val (.int p0), .val (.int (p0 &&& (255 : Int32))), .unset, .unset] [(fn_2 p0 m0 m1 m2 m3 m4 m5 m6), (fn_1 p0 m0 m1 m2 m3 m4 m5 m6)]))
  refine Jvm.OwnW.acmp O2 at_14 (own_ref1 p0 m0 m1 m2 m3 m4 m5 m6) (own_ref2 p0 m0 m1 m2 m3 m4 m5 m6) (same := true) (decide_eq_true (own_eq ..)) (by decide) (q := 17) (by decide) ?_
  refine Jvm.OwnW.iconst O2 at_17 (r := (1 : Int32)) rfl (q := 18) rfl ?_
  refine Jvm.OwnW.goto O2 at_18 (by decide) (q := 22) rfl ?_
  refine Jvm.OwnW.istoreN O2 at_22 (L' := #[.val (.int p0), .val (.int (p0 &&& (255 : Int32))), .val (.int (1 : Int32)), .unset]) rfl (q := 23) rfl ?_
  refine Jvm.OwnW.iloadN O2 at_23 rfl (q := 24) rfl ?_
  refine Jvm.OwnW.callS0 O2 (y := (⟨"com/example/bytepare/bytepare/classfile/Bytecode", "poolOperand", "(I)Ljava/lang/Class;"⟩ : MethodName)) (argsL := [(.int (p0 &&& (255 : Int32)))]) (rest := []) at_24 (hw _ (List.mem_of_getElem? (i := 0) rfl)) (hw _ (List.mem_of_getElem? (i := 1) rfl)) (hw _ (List.mem_of_getElem? (i := 2) rfl)) (hw _ (List.mem_of_getElem? (i := 3) rfl)) (by decide) (rm_1 l Z a0 hw (p0 &&& (255 : Int32)) m0 m1 m2 m3 m4 m5 m6 h0 M0 M1 M2 M3 M4 M5 M6) rfl pd_0 rfl (hst := rfl) (W := 0) (Nat.le_of_eq rfl) (by decide) (by decide) (c2 := 0) (s2 := 0) rfl rfl (by decide) (by decide) rfl rfl (q := 27) rfl ?_
  intro v3 T3 O3 q3
  obtain rfl := q3
  show Go C _ _ _ _ (T3.setTop (mkF C.m 27 #[.val (.int p0), .val (.int (p0 &&& (255 : Int32))), .val (.int (1 : Int32)), .unset] [(fn_1 (p0 &&& (255 : Int32)) m0 m1 m2 m3 m4 m5 m6)]))
  refine Jvm.OwnW.iloadN O3 at_27 rfl (q := 28) rfl ?_
  refine Jvm.OwnW.callS0 O3 (y := (⟨"com/example/bytepare/bytepare/classfile/BytecodePoolOperandPinLaw", "expected", "(I)Ljava/lang/Class;"⟩ : MethodName)) (argsL := [(.int (p0 &&& (255 : Int32)))]) (rest := [(fn_1 (p0 &&& (255 : Int32)) m0 m1 m2 m3 m4 m5 m6)]) at_28 (hw _ (List.mem_of_getElem? (i := 4) rfl)) (hw _ (List.mem_of_getElem? (i := 5) rfl)) (hw _ (List.mem_of_getElem? (i := 6) rfl)) (hw _ (List.mem_of_getElem? (i := 7) rfl)) (by decide) (rm_2 l Z a0 hw (p0 &&& (255 : Int32)) m0 m1 m2 m3 m4 m5 m6 h0 M0 M1 M2 M3 M4 M5 M6) rfl pd_0 rfl (hst := rfl) (W := 1) (by simp only [List.map_cons, List.map_nil, List.sum_cons, List.sum_nil, catR (own_ref1 (p0 &&& (255 : Int32)) m0 m1 m2 m3 m4 m5 m6)]; exact Nat.le_refl _) (by decide) (by decide) (c2 := 0) (s2 := 0) rfl rfl (by decide) (by decide) rfl rfl (q := 31) rfl ?_
  intro v4 T4 O4 q4
  obtain rfl := q4
  show Go C _ _ _ _ (T4.setTop (mkF C.m 31 #[.val (.int p0), .val (.int (p0 &&& (255 : Int32))), .val (.int (1 : Int32)), .unset] [(fn_2 (p0 &&& (255 : Int32)) m0 m1 m2 m3 m4 m5 m6), (fn_1 (p0 &&& (255 : Int32)) m0 m1 m2 m3 m4 m5 m6)]))
  refine Jvm.OwnW.acmp O4 at_31 (own_ref1 (p0 &&& (255 : Int32)) m0 m1 m2 m3 m4 m5 m6) (own_ref2 (p0 &&& (255 : Int32)) m0 m1 m2 m3 m4 m5 m6) (same := true) (decide_eq_true (own_eq ..)) (by decide) (q := 34) (by decide) ?_
  refine Jvm.OwnW.iconst O4 at_34 (r := (1 : Int32)) rfl (q := 35) rfl ?_
  refine Jvm.OwnW.goto O4 at_35 (by decide) (q := 39) rfl ?_
  refine Jvm.OwnW.istoreN O4 at_39 (L' := #[.val (.int p0), .val (.int (p0 &&& (255 : Int32))), .val (.int (1 : Int32)), .val (.int (1 : Int32))]) rfl (q := 40) rfl ?_
  refine Jvm.OwnW.iloadN O4 at_40 rfl (q := 41) rfl ?_
  refine Jvm.OwnW.ifNo O4 at_41 (feq0 (show ¬ ((1 : Int32) = (0 : Int32)) from (by decide))).1 (q := 44) rfl ?_
  refine Jvm.OwnW.iloadN O4 at_44 rfl (q := 45) rfl ?_
  refine Jvm.OwnW.ifNo O4 at_45 (feq0 (show ¬ ((1 : Int32) = (0 : Int32)) from (by decide))).1 (q := 48) rfl ?_
  refine Jvm.OwnW.iconst O4 at_48 (r := (1 : Int32)) rfl (q := 49) rfl ?_
  refine Jvm.OwnW.goto O4 at_49 (by decide) (q := 53) rfl ?_
  exact Jvm.OwnW.retB O4 at_53 rfl (Or.inr rfl) (by decide) (by decide) rfl
set_option maxRecDepth 65536 in
set_option maxHeartbeats 40000000 in
theorem comes_1 {Post : Tables → Env → Array Value → State → Outcome → State → Prop} (hpost : ∀ tb e args s v u, (limb_1_1.after args s (.returned v) u = true ∧ limb_1_2.after args s (.returned v) u = true ∧ True) → FrameEnd s (.returned v) u (Jvm.fieldLocs frame_1_writes args s ++ Jvm.arrayLocs frame_1_arrays args s ++ Jvm.staticLocs frame_1_statics s) 0 0 → Post tb e args s (.returned v) u) :
    ArmFor flags0 classFile x code maxLocals ret World_1 tables_1 room_1 Calls_1 rest_1 Pre_1 Post := by
  intro l hfl _ _ p e ha hc hk s m args below hf hA hF happ hP
  obtain ⟨hcalls, hrest, hpre⟩ := hP
  obtain ⟨-, -, -, hnamed, -, -, -, hat⟩ := (Spec.applies_iff hf).mp happ
  obtain ⟨hg, hn⟩ := and_e (Cond.before_iff.mp (show (Jvm.Cond.and given_1 narrow_1).before args s = true from hpre))
  obtain ⟨hn1, hg⟩ := and_e hg
  obtain ⟨w0, rfl⟩ : ∃ w0 : Value, args = #[w0] := by
    have hs : args.size = 1 := by simpa [Cond.value, given_1] using hn1
    obtain ⟨L⟩ := args
    match L, hs with
    | [w0], _ => exact ⟨w0, rfl⟩
  have hw := fun d (hd : d ∈ tables_1) => atoms_spec (ws := Jvm.Cond.code x code maxLocals ret :: tables_1) hat d (List.mem_cons_of_mem _ hd)
  obtain ⟨i0, e0⟩ := is_v hg
  obtain rfl : w0 = (.int i0) := Option.some.inj e0
  obtain ⟨⟨cm6, km6, m6, fm6, gm6, em6, -⟩, ⟨cm0, km0, m0, fm0, gm0, em0, -⟩, ⟨cm3, km3, m3, fm3, gm3, em3, -⟩, ⟨cm1, km1, m1, fm1, gm1, em1, -⟩, ⟨cm4, km4, m4, fm4, gm4, em4, -⟩, ⟨cm5, km5, m5, fm5, gm5, em5, -⟩, ⟨cm2, km2, m2, fm2, gm2, em2, -⟩, -⟩ := hcalls
  obtain ⟨n, o, h1, h2, h3, _, L, rfl, ⟨N, -, -, rfl⟩, hq⟩ := rm_0 l s _ hw tables_1 i0 m0 m1 m2 m3 m4 m5 m6 s.heap ⟨_, _, fm0, gm0, em0⟩ ⟨_, _, fm1, gm1, em1⟩ ⟨_, _, fm2, gm2, em2⟩ ⟨_, _, fm3, gm3, em3⟩ ⟨_, _, fm4, gm4, em4⟩ ⟨_, _, fm5, gm5, em5⟩ ⟨_, _, fm6, gm6, em6⟩ p e ha hc hk s m _ below hf ((Spec.applies_iff_loose hf).mp happ).1 ⟨rfl, State.Warmed39.refl s, rfl⟩ trivial
  refine ⟨n, _, h1, h2, h3, hpost _ _ _ _ _ _ ⟨Cond.after_iff.mpr rfl, Cond.after_iff.mpr (eq_i res_at (Term.int_eval (1)) rfl), trivial⟩ ⟨hq.1, hq.2.1, (hq.2.2.sift fun y hy => Or.inr ((N y hy).elim (fun z => nomatch z) id)).mono (by decide) (by decide)⟩⟩
theorem main_1_1 : Claimed_1_1 := comes_1 fun _ _ _ _ _ _ h hF => ⟨h.1, hF⟩
theorem main_1_2 : Claimed_1_2 := comes_1 fun _ _ _ _ _ _ h hF => ⟨h.2.1, hF⟩
end Jvm.Pilot.@@N@@
namespace Jvm.Pilot.@@N@@
open Jvm Jvm.ClassFile Sem Op Lib Jvm.Free Jvm.Stand Jvm.Pilot.@@N@@.Jvm.D
/-! MADE BY PROGRAM (witnessworld.py) out of the Statement's table words and the real class files: 20 classes; the members and pool entries that the words name. The judged class is class 1, her method 2. -/
namespace start1
open Jvm.ClassFile
def u (s : String) : CpInfo := .utf8 (stringToUtf16 s)
/-- a pool by its gaps: so many unusable entries, then the entry; so many at the end -/
def gap : Nat → List CpInfo → List CpInfo
  | 0, r => r
  | n + 1, r => .unusable :: gap n r
def poolList (es : List (Nat × CpInfo)) (last : Nat) : List CpInfo := es.foldr (fun e r => gap e.1 (e.2 :: r)) (gap last [])
def pool (es : List (Nat × CpInfo)) (last : Nat) : Array CpInfo := ⟨poolList es last⟩
def fileOf (pool : Array CpInfo) (this : Nat) (attrs : Array Attribute := #[]) (ms : Array MethodInfo := #[]) (fl : Nat := 33) (sup : Nat := 0) (ifs : Array Nat := #[]) (fds : Array FieldInfo := #[]) : ClassFile where
  minorVersion := 0
  majorVersion := 65
  constantPool := pool
  accessFlags := fl
  thisClass := this
  superClass := sup
  interfaces := ifs
  fields := fds
  methods := ms
  attributes := attrs
def plain (name : String) (sup : Option ClassId) : Class where
  name := name
  kind := .ordinary
  loader := none
  accessFlags := 33
  super := sup
  interfaces := #[]
  cf := none
  fields := #[]
  methods := #[]
  instanceTypes := #[]
  staticTypes := #[]
  resolved := #[]
  callSites := []
  init := .initialized
  statics := none
  mirror := none

def pool0 : Array CpInfo := pool [(5, u "<init>"), (0, u "()V"), (1, .class_ 10), (1, u "java/lang/Object")] 113

def k0m0 : Method := { name := "<init>", desc := "()V", sig := { parameters := [], returnType := none }, accessFlags := 1, code := none }
/-- java/lang/Object -/
def k0 : Class := { plain "java/lang/Object" none with
  accessFlags := 33
  interfaces := #[]
  cf := some (fileOf pool0 8 #[] #[{ accessFlags := 1, nameIndex := 5, descriptorIndex := 6, attributes := #[] }] 33 0 #[] #[])
  fields := #[]
  methods := #[k0m0]
  instanceTypes := #[]
  staticTypes := #[]
  resolved := Array.replicate 124 none
  statics := none }

def pool1 : Array CpInfo := pool [(2, .class_ 4), (1, u "java/lang/Object"), (0, u "<init>"), (0, u "()V"), (0, .class_ 8), (0, u "com/example/bytepare/bytepare/classfile/Constant"), (0, .class_ 10), (0, u "com/example/bytepare/bytepare/classfile/Constant$FieldrefInfo"), (0, .class_ 12), (0, u "com/example/bytepare/bytepare/classfile/Constant$MethodrefInfo"), (0, .class_ 14), (0, u "com/example/bytepare/bytepare/classfile/Constant$MemberRef"), (0, .class_ 16), (0, u "com/example/bytepare/bytepare/classfile/Constant$InterfaceMethodrefInfo"), (0, .class_ 18), (0, u "com/example/bytepare/bytepare/classfile/Constant$InvokeDynamicInfo"), (0, .class_ 20), (0, u "com/example/bytepare/bytepare/classfile/Constant$ClassInfo"), (0, .methodref 22 23), (0, .class_ 24), (0, .nameAndType 25 26), (0, u "com/example/bytepare/bytepare/classfile/Bytecode"), (0, u "poolOperand"), (0, u "(I)Ljava/lang/Class;"), (0, .methodref 28 29), (0, .class_ 30), (0, .nameAndType 31 26), (0, u "com/example/bytepare/bytepare/classfile/BytecodePoolOperandPinLaw"), (0, u "expected"), (5, u "law"), (0, u "(I)Z")] 9

def k1m0 : Method := { name := "<init>", desc := "()V", sig := { parameters := [], returnType := none }, accessFlags := 2, code := none }
def k1c1 : Code := { maxStack := 2, maxLocals := 1, code := method_2_code, exceptionTable := #[], attributes := #[] }
def k1m1 : Method := { name := "expected", desc := "(I)Ljava/lang/Class;", sig := { parameters := [.int], returnType := some (.object "java/lang/Class") }, accessFlags := 10, code := some k1c1 }
def k1c2 : Code := { maxStack := 2, maxLocals := 4, code := code, exceptionTable := #[], attributes := #[] }
def k1m2 : Method := { name := "law", desc := "(I)Z", sig := { parameters := [.int], returnType := some .boolean }, accessFlags := 9, code := some k1c2 }
/-- com/example/bytepare/bytepare/classfile/BytecodePoolOperandPinLaw -/
def k1 : Class := { plain "com/example/bytepare/bytepare/classfile/BytecodePoolOperandPinLaw" (some 0) with
  accessFlags := 49
  interfaces := #[]
  cf := some (fileOf pool1 28 #[] #[{ accessFlags := 2, nameIndex := 5, descriptorIndex := 6, attributes := #[] }, { accessFlags := 10, nameIndex := 31, descriptorIndex := 26, attributes := #[] }, { accessFlags := 9, nameIndex := 37, descriptorIndex := 38, attributes := #[] }] 49 2 #[] #[])
  fields := #[]
  methods := #[k1m0, k1m1, k1m2]
  instanceTypes := #[]
  staticTypes := #[]
  resolved := Array.replicate 48 none
  statics := none }

def pool2 : Array CpInfo := pool [(2, .class_ 4), (1, u "java/lang/Object"), (0, u "<init>"), (0, u "()V"), (0, .class_ 8), (0, u "com/example/bytepare/bytepare/classfile/Constant"), (0, .class_ 10), (0, u "com/example/bytepare/bytepare/classfile/Constant$FieldrefInfo"), (0, .class_ 12), (0, u "com/example/bytepare/bytepare/classfile/Constant$MethodrefInfo"), (0, .class_ 14), (0, u "com/example/bytepare/bytepare/classfile/Constant$MemberRef"), (0, .class_ 16), (0, u "com/example/bytepare/bytepare/classfile/Constant$InterfaceMethodrefInfo"), (0, .class_ 18), (0, u "com/example/bytepare/bytepare/classfile/Constant$InvokeDynamicInfo"), (0, .class_ 20), (0, u "com/example/bytepare/bytepare/classfile/Constant$ClassInfo"), (7, .class_ 30), (1, u "com/example/bytepare/bytepare/classfile/Bytecode"), (0, u "LENGTHS"), (0, u "Ljava/lang/String;"), (48, .class_ 82), (0, u "com/example/bytepare/bytepare/classfile/Bytecode$LocalVariable"), (14, u "NOP"), (0, u "I"), (2, u "LDC"), (1, u "ILOAD"), (1, u "ALOAD"), (1, u "ISTORE"), (1, u "ASTORE"), (1, u "POP"), (1, u "POP2"), (1, u "IINC"), (1, u "GOTO"), (1, u "JSR"), (1, u "RET"), (1, u "TABLESWITCH"), (1, u "LOOKUPSWITCH"), (1, u "IRETURN"), (1, u "RETURN"), (1, u "INVOKEVIRTUAL"), (1, u "INVOKESPECIAL"), (1, u "INVOKESTATIC"), (1, u "ATHROW"), (1, u "WIDE"), (1, u "GOTO_W"), (1, u "JSR_W"), (1, u "IFEQ"), (1, u "IFNULL"), (1, u "IFNONNULL"), (1, u "ILOAD_0"), (1, u "ISTORE_0"), (3, u "poolOperand"), (0, u "(I)Ljava/lang/Class;")] 49

def k2m0 : Method := { name := "<init>", desc := "()V", sig := { parameters := [], returnType := none }, accessFlags := 2, code := none }
def k2c1 : Code := { maxStack := 1, maxLocals := 1, code := prog_14_method_2_code, exceptionTable := #[], attributes := #[] }
def k2m1 : Method := { name := "poolOperand", desc := "(I)Ljava/lang/Class;", sig := { parameters := [.int], returnType := some (.object "java/lang/Class") }, accessFlags := 9, code := some k2c1 }
/-- com/example/bytepare/bytepare/classfile/Bytecode -/
def k2 : Class := { plain "com/example/bytepare/bytepare/classfile/Bytecode" (some 0) with
  accessFlags := 49
  interfaces := #[]
  cf := some (fileOf pool2 28 #[.nestMembers #[81]] #[{ accessFlags := 2, nameIndex := 5, descriptorIndex := 6, attributes := #[] }, { accessFlags := 9, nameIndex := 157, descriptorIndex := 158, attributes := #[] }] 49 2 #[] #[{ accessFlags := 25, nameIndex := 97, descriptorIndex := 98, attributes := #[] }, { accessFlags := 25, nameIndex := 101, descriptorIndex := 98, attributes := #[] }, { accessFlags := 25, nameIndex := 103, descriptorIndex := 98, attributes := #[] }, { accessFlags := 25, nameIndex := 105, descriptorIndex := 98, attributes := #[] }, { accessFlags := 25, nameIndex := 107, descriptorIndex := 98, attributes := #[] }, { accessFlags := 25, nameIndex := 109, descriptorIndex := 98, attributes := #[] }, { accessFlags := 25, nameIndex := 111, descriptorIndex := 98, attributes := #[] }, { accessFlags := 25, nameIndex := 113, descriptorIndex := 98, attributes := #[] }, { accessFlags := 25, nameIndex := 115, descriptorIndex := 98, attributes := #[] }, { accessFlags := 25, nameIndex := 117, descriptorIndex := 98, attributes := #[] }, { accessFlags := 25, nameIndex := 119, descriptorIndex := 98, attributes := #[] }, { accessFlags := 25, nameIndex := 121, descriptorIndex := 98, attributes := #[] }, { accessFlags := 25, nameIndex := 123, descriptorIndex := 98, attributes := #[] }, { accessFlags := 25, nameIndex := 125, descriptorIndex := 98, attributes := #[] }, { accessFlags := 25, nameIndex := 127, descriptorIndex := 98, attributes := #[] }, { accessFlags := 25, nameIndex := 129, descriptorIndex := 98, attributes := #[] }, { accessFlags := 25, nameIndex := 131, descriptorIndex := 98, attributes := #[] }, { accessFlags := 25, nameIndex := 133, descriptorIndex := 98, attributes := #[] }, { accessFlags := 25, nameIndex := 135, descriptorIndex := 98, attributes := #[] }, { accessFlags := 25, nameIndex := 137, descriptorIndex := 98, attributes := #[] }, { accessFlags := 25, nameIndex := 139, descriptorIndex := 98, attributes := #[] }, { accessFlags := 25, nameIndex := 141, descriptorIndex := 98, attributes := #[] }, { accessFlags := 25, nameIndex := 143, descriptorIndex := 98, attributes := #[] }, { accessFlags := 26, nameIndex := 145, descriptorIndex := 98, attributes := #[] }, { accessFlags := 26, nameIndex := 147, descriptorIndex := 98, attributes := #[] }, { accessFlags := 26, nameIndex := 149, descriptorIndex := 98, attributes := #[] }, { accessFlags := 26, nameIndex := 151, descriptorIndex := 98, attributes := #[] }, { accessFlags := 26, nameIndex := 153, descriptorIndex := 98, attributes := #[] }, { accessFlags := 26, nameIndex := 31, descriptorIndex := 32, attributes := #[] }])
  fields := #[{ name := "NOP", type := .int, accessFlags := 25, slot := 0, constantValue := 0 }, { name := "LDC", type := .int, accessFlags := 25, slot := 1, constantValue := 0 }, { name := "ILOAD", type := .int, accessFlags := 25, slot := 2, constantValue := 0 }, { name := "ALOAD", type := .int, accessFlags := 25, slot := 3, constantValue := 0 }, { name := "ISTORE", type := .int, accessFlags := 25, slot := 4, constantValue := 0 }, { name := "ASTORE", type := .int, accessFlags := 25, slot := 5, constantValue := 0 }, { name := "POP", type := .int, accessFlags := 25, slot := 6, constantValue := 0 }, { name := "POP2", type := .int, accessFlags := 25, slot := 7, constantValue := 0 }, { name := "IINC", type := .int, accessFlags := 25, slot := 8, constantValue := 0 }, { name := "GOTO", type := .int, accessFlags := 25, slot := 9, constantValue := 0 }, { name := "JSR", type := .int, accessFlags := 25, slot := 10, constantValue := 0 }, { name := "RET", type := .int, accessFlags := 25, slot := 11, constantValue := 0 }, { name := "TABLESWITCH", type := .int, accessFlags := 25, slot := 12, constantValue := 0 }, { name := "LOOKUPSWITCH", type := .int, accessFlags := 25, slot := 13, constantValue := 0 }, { name := "IRETURN", type := .int, accessFlags := 25, slot := 14, constantValue := 0 }, { name := "RETURN", type := .int, accessFlags := 25, slot := 15, constantValue := 0 }, { name := "INVOKEVIRTUAL", type := .int, accessFlags := 25, slot := 16, constantValue := 0 }, { name := "INVOKESPECIAL", type := .int, accessFlags := 25, slot := 17, constantValue := 0 }, { name := "INVOKESTATIC", type := .int, accessFlags := 25, slot := 18, constantValue := 0 }, { name := "ATHROW", type := .int, accessFlags := 25, slot := 19, constantValue := 0 }, { name := "WIDE", type := .int, accessFlags := 25, slot := 20, constantValue := 0 }, { name := "GOTO_W", type := .int, accessFlags := 25, slot := 21, constantValue := 0 }, { name := "JSR_W", type := .int, accessFlags := 25, slot := 22, constantValue := 0 }, { name := "IFEQ", type := .int, accessFlags := 26, slot := 23, constantValue := 0 }, { name := "IFNULL", type := .int, accessFlags := 26, slot := 24, constantValue := 0 }, { name := "IFNONNULL", type := .int, accessFlags := 26, slot := 25, constantValue := 0 }, { name := "ILOAD_0", type := .int, accessFlags := 26, slot := 26, constantValue := 0 }, { name := "ISTORE_0", type := .int, accessFlags := 26, slot := 27, constantValue := 0 }, { name := "LENGTHS", type := (.object "java/lang/String"), accessFlags := 26, slot := 28, constantValue := 0 }]
  methods := #[k2m0, k2m1]
  instanceTypes := #[]
  staticTypes := #[.int, .int, .int, .int, .int, .int, .int, .int, .int, .int, .int, .int, .int, .int, .int, .int, .int, .int, .int, .int, .int, .int, .int, .int, .int, .int, .int, .int, (.object "java/lang/String")]
  resolved := Array.replicate 208 none
  statics := none }

def pool3 : Array CpInfo := pool [(2, .class_ 4), (1, u "java/lang/Object"), (0, u "<init>"), (0, u "()V"), (0, .class_ 8), (0, u "java/lang/Record")] 13

def k3m0 : Method := { name := "<init>", desc := "()V", sig := { parameters := [], returnType := none }, accessFlags := 4, code := none }
/-- java/lang/Record -/
def k3 : Class := { plain "java/lang/Record" (some 0) with
  accessFlags := 1057
  interfaces := #[]
  cf := some (fileOf pool3 7 #[] #[{ accessFlags := 4, nameIndex := 5, descriptorIndex := 6, attributes := #[] }] 1057 2 #[] #[])
  fields := #[]
  methods := #[k3m0]
  instanceTypes := #[]
  staticTypes := #[]
  resolved := Array.replicate 22 none
  statics := none }

def pool4 : Array CpInfo := pool [(10, .class_ 11), (0, u "com/example/bytepare/bytepare/classfile/Constant"), (0, .class_ 13), (0, u "java/lang/Object"), (0, u "UTF8"), (0, u "I"), (2, u "INTEGER"), (1, u "FLOAT"), (1, u "LONG"), (1, u "DOUBLE"), (1, u "CLASS"), (1, u "STRING"), (1, u "FIELDREF"), (1, u "METHODREF"), (1, u "INTERFACE_METHODREF"), (1, u "NAME_AND_TYPE"), (1, u "METHOD_HANDLE"), (1, u "METHOD_TYPE"), (1, u "DYNAMIC"), (1, u "INVOKE_DYNAMIC"), (1, u "MODULE"), (1, u "PACKAGE"), (27, .class_ 77), (0, u "com/example/bytepare/bytepare/classfile/Constant$PackageInfo"), (0, .class_ 79), (0, u "com/example/bytepare/bytepare/classfile/Constant$ModuleInfo"), (0, .class_ 81), (0, u "com/example/bytepare/bytepare/classfile/Constant$InvokeDynamicInfo"), (0, .class_ 83), (0, u "com/example/bytepare/bytepare/classfile/Constant$DynamicInfo"), (0, .class_ 85), (0, u "com/example/bytepare/bytepare/classfile/Constant$DynamicRef"), (0, .class_ 87), (0, u "com/example/bytepare/bytepare/classfile/Constant$MethodTypeInfo"), (0, .class_ 89), (0, u "com/example/bytepare/bytepare/classfile/Constant$MethodHandleInfo"), (0, .class_ 91), (0, u "com/example/bytepare/bytepare/classfile/Constant$NameAndTypeInfo"), (0, .class_ 93), (0, u "com/example/bytepare/bytepare/classfile/Constant$InterfaceMethodrefInfo"), (0, .class_ 95), (0, u "com/example/bytepare/bytepare/classfile/Constant$MethodrefInfo"), (0, .class_ 97), (0, u "com/example/bytepare/bytepare/classfile/Constant$FieldrefInfo"), (0, .class_ 99), (0, u "com/example/bytepare/bytepare/classfile/Constant$MemberRef"), (0, .class_ 101), (0, u "com/example/bytepare/bytepare/classfile/Constant$StringInfo"), (0, .class_ 103), (0, u "com/example/bytepare/bytepare/classfile/Constant$ClassInfo"), (0, .class_ 105), (0, u "com/example/bytepare/bytepare/classfile/Constant$Utf8Ref"), (0, .class_ 107), (0, u "com/example/bytepare/bytepare/classfile/Constant$DoubleInfo"), (0, .class_ 109), (0, u "com/example/bytepare/bytepare/classfile/Constant$LongInfo"), (0, .class_ 111), (0, u "com/example/bytepare/bytepare/classfile/Constant$FloatInfo"), (0, .class_ 113), (0, u "com/example/bytepare/bytepare/classfile/Constant$IntegerInfo"), (0, .class_ 115), (0, u "com/example/bytepare/bytepare/classfile/Constant$Utf8Info")] 22

/-- com/example/bytepare/bytepare/classfile/Constant -/
def k4 : Class := { plain "com/example/bytepare/bytepare/classfile/Constant" (some 0) with
  accessFlags := 1537
  interfaces := #[]
  cf := some (fileOf pool4 10 #[.nestMembers #[76, 78, 80, 82, 84, 86, 88, 90, 92, 94, 96, 98, 100, 102, 104, 106, 108, 110, 112, 114]] #[] 1537 12 #[] #[{ accessFlags := 25, nameIndex := 14, descriptorIndex := 15, attributes := #[] }, { accessFlags := 25, nameIndex := 18, descriptorIndex := 15, attributes := #[] }, { accessFlags := 25, nameIndex := 20, descriptorIndex := 15, attributes := #[] }, { accessFlags := 25, nameIndex := 22, descriptorIndex := 15, attributes := #[] }, { accessFlags := 25, nameIndex := 24, descriptorIndex := 15, attributes := #[] }, { accessFlags := 25, nameIndex := 26, descriptorIndex := 15, attributes := #[] }, { accessFlags := 25, nameIndex := 28, descriptorIndex := 15, attributes := #[] }, { accessFlags := 25, nameIndex := 30, descriptorIndex := 15, attributes := #[] }, { accessFlags := 25, nameIndex := 32, descriptorIndex := 15, attributes := #[] }, { accessFlags := 25, nameIndex := 34, descriptorIndex := 15, attributes := #[] }, { accessFlags := 25, nameIndex := 36, descriptorIndex := 15, attributes := #[] }, { accessFlags := 25, nameIndex := 38, descriptorIndex := 15, attributes := #[] }, { accessFlags := 25, nameIndex := 40, descriptorIndex := 15, attributes := #[] }, { accessFlags := 25, nameIndex := 42, descriptorIndex := 15, attributes := #[] }, { accessFlags := 25, nameIndex := 44, descriptorIndex := 15, attributes := #[] }, { accessFlags := 25, nameIndex := 46, descriptorIndex := 15, attributes := #[] }, { accessFlags := 25, nameIndex := 48, descriptorIndex := 15, attributes := #[] }])
  fields := #[{ name := "UTF8", type := .int, accessFlags := 25, slot := 0, constantValue := 0 }, { name := "INTEGER", type := .int, accessFlags := 25, slot := 1, constantValue := 0 }, { name := "FLOAT", type := .int, accessFlags := 25, slot := 2, constantValue := 0 }, { name := "LONG", type := .int, accessFlags := 25, slot := 3, constantValue := 0 }, { name := "DOUBLE", type := .int, accessFlags := 25, slot := 4, constantValue := 0 }, { name := "CLASS", type := .int, accessFlags := 25, slot := 5, constantValue := 0 }, { name := "STRING", type := .int, accessFlags := 25, slot := 6, constantValue := 0 }, { name := "FIELDREF", type := .int, accessFlags := 25, slot := 7, constantValue := 0 }, { name := "METHODREF", type := .int, accessFlags := 25, slot := 8, constantValue := 0 }, { name := "INTERFACE_METHODREF", type := .int, accessFlags := 25, slot := 9, constantValue := 0 }, { name := "NAME_AND_TYPE", type := .int, accessFlags := 25, slot := 10, constantValue := 0 }, { name := "METHOD_HANDLE", type := .int, accessFlags := 25, slot := 11, constantValue := 0 }, { name := "METHOD_TYPE", type := .int, accessFlags := 25, slot := 12, constantValue := 0 }, { name := "DYNAMIC", type := .int, accessFlags := 25, slot := 13, constantValue := 0 }, { name := "INVOKE_DYNAMIC", type := .int, accessFlags := 25, slot := 14, constantValue := 0 }, { name := "MODULE", type := .int, accessFlags := 25, slot := 15, constantValue := 0 }, { name := "PACKAGE", type := .int, accessFlags := 25, slot := 16, constantValue := 0 }]
  methods := #[]
  instanceTypes := #[]
  staticTypes := #[.int, .int, .int, .int, .int, .int, .int, .int, .int, .int, .int, .int, .int, .int, .int, .int, .int]
  resolved := Array.replicate 138 none
  mirror := some 1
  statics := none }

def pool5 : Array CpInfo := pool [(2, .class_ 4), (1, u "com/example/bytepare/bytepare/classfile/Constant$Utf8Ref"), (6, .class_ 13), (1, u "com/example/bytepare/bytepare/classfile/Constant"), (10, .class_ 25), (0, u "java/lang/Object")] 35

/-- com/example/bytepare/bytepare/classfile/Constant$Utf8Ref -/
def k5 : Class := { plain "com/example/bytepare/bytepare/classfile/Constant$Utf8Ref" (some 0) with
  accessFlags := 1537
  interfaces := #[4]
  cf := some (fileOf pool5 2 #[.nestHost 11] #[] 1537 24 #[11] #[])
  fields := #[]
  methods := #[]
  instanceTypes := #[]
  staticTypes := #[]
  resolved := Array.replicate 61 none
  statics := none }

def pool6 : Array CpInfo := pool [(2, .class_ 4), (1, u "java/lang/Record"), (3, .class_ 10), (1, u "com/example/bytepare/bytepare/classfile/Constant$ClassInfo"), (0, u "nameIndex"), (0, u "I"), (0, .class_ 14), (0, u "com/example/bytepare/bytepare/classfile/Constant"), (21, .class_ 37), (0, u "com/example/bytepare/bytepare/classfile/Constant$Utf8Ref")] 32

/-- com/example/bytepare/bytepare/classfile/Constant$ClassInfo -/
def k6 : Class := { plain "com/example/bytepare/bytepare/classfile/Constant$ClassInfo" (some 3) with
  accessFlags := 49
  interfaces := #[5]
  cf := some (fileOf pool6 8 #[.nestHost 13] #[] 49 2 #[36] #[{ accessFlags := 18, nameIndex := 11, descriptorIndex := 12, attributes := #[] }])
  fields := #[{ name := "nameIndex", type := .int, accessFlags := 18, slot := 0, constantValue := 0 }]
  methods := #[]
  instanceTypes := #[.int]
  staticTypes := #[]
  resolved := Array.replicate 70 none
  mirror := some 0
  statics := none }

def pool7 : Array CpInfo := pool [(2, .class_ 4), (1, u "com/example/bytepare/bytepare/classfile/Constant$MemberRef"), (9, .class_ 16), (1, u "com/example/bytepare/bytepare/classfile/Constant"), (12, .class_ 30), (0, u "java/lang/Object")] 30

/-- com/example/bytepare/bytepare/classfile/Constant$MemberRef -/
def k7 : Class := { plain "com/example/bytepare/bytepare/classfile/Constant$MemberRef" (some 0) with
  accessFlags := 1537
  interfaces := #[4]
  cf := some (fileOf pool7 2 #[.nestHost 14] #[] 1537 29 #[14] #[])
  fields := #[]
  methods := #[]
  instanceTypes := #[]
  staticTypes := #[]
  resolved := Array.replicate 61 none
  mirror := some 2
  statics := none }

def pool8 : Array CpInfo := pool [(2, .class_ 4), (1, u "java/lang/Record"), (3, .class_ 10), (1, u "com/example/bytepare/bytepare/classfile/Constant$FieldrefInfo"), (0, u "classIndex"), (0, u "I"), (2, u "nameAndTypeIndex"), (0, .class_ 17), (0, u "com/example/bytepare/bytepare/classfile/Constant"), (21, .class_ 40), (0, u "com/example/bytepare/bytepare/classfile/Constant$MemberRef")] 33

/-- com/example/bytepare/bytepare/classfile/Constant$FieldrefInfo -/
def k8 : Class := { plain "com/example/bytepare/bytepare/classfile/Constant$FieldrefInfo" (some 3) with
  accessFlags := 49
  interfaces := #[7]
  cf := some (fileOf pool8 8 #[.nestHost 16] #[] 49 2 #[39] #[{ accessFlags := 18, nameIndex := 11, descriptorIndex := 12, attributes := #[] }, { accessFlags := 18, nameIndex := 15, descriptorIndex := 12, attributes := #[] }])
  fields := #[{ name := "classIndex", type := .int, accessFlags := 18, slot := 0, constantValue := 0 }, { name := "nameAndTypeIndex", type := .int, accessFlags := 18, slot := 1, constantValue := 0 }]
  methods := #[]
  instanceTypes := #[.int, .int]
  staticTypes := #[]
  resolved := Array.replicate 74 none
  mirror := some 3
  statics := none }

def pool9 : Array CpInfo := pool [(2, .class_ 4), (1, u "java/lang/Record"), (3, .class_ 10), (1, u "com/example/bytepare/bytepare/classfile/Constant$InterfaceMethodrefInfo"), (0, u "classIndex"), (0, u "I"), (2, u "nameAndTypeIndex"), (0, .class_ 17), (0, u "com/example/bytepare/bytepare/classfile/Constant"), (21, .class_ 40), (0, u "com/example/bytepare/bytepare/classfile/Constant$MemberRef")] 33

/-- com/example/bytepare/bytepare/classfile/Constant$InterfaceMethodrefInfo -/
def k9 : Class := { plain "com/example/bytepare/bytepare/classfile/Constant$InterfaceMethodrefInfo" (some 3) with
  accessFlags := 49
  interfaces := #[7]
  cf := some (fileOf pool9 8 #[.nestHost 16] #[] 49 2 #[39] #[{ accessFlags := 18, nameIndex := 11, descriptorIndex := 12, attributes := #[] }, { accessFlags := 18, nameIndex := 15, descriptorIndex := 12, attributes := #[] }])
  fields := #[{ name := "classIndex", type := .int, accessFlags := 18, slot := 0, constantValue := 0 }, { name := "nameAndTypeIndex", type := .int, accessFlags := 18, slot := 1, constantValue := 0 }]
  methods := #[]
  instanceTypes := #[.int, .int]
  staticTypes := #[]
  resolved := Array.replicate 74 none
  mirror := some 4
  statics := none }

def pool10 : Array CpInfo := pool [(2, .class_ 4), (1, u "com/example/bytepare/bytepare/classfile/Constant$DynamicRef"), (30, .class_ 37), (1, u "com/example/bytepare/bytepare/classfile/Constant"), (10, .class_ 49), (0, u "java/lang/Object")] 43

/-- com/example/bytepare/bytepare/classfile/Constant$DynamicRef -/
def k10 : Class := { plain "com/example/bytepare/bytepare/classfile/Constant$DynamicRef" (some 0) with
  accessFlags := 1537
  interfaces := #[4]
  cf := some (fileOf pool10 2 #[.nestHost 35] #[] 1537 48 #[35] #[])
  fields := #[]
  methods := #[]
  instanceTypes := #[]
  staticTypes := #[]
  resolved := Array.replicate 93 none
  statics := none }

def pool11 : Array CpInfo := pool [(2, .class_ 4), (1, u "java/lang/Record"), (3, .class_ 10), (1, u "com/example/bytepare/bytepare/classfile/Constant$InvokeDynamicInfo"), (0, u "bootstrapMethodAttrIndex"), (0, u "I"), (2, u "nameAndTypeIndex"), (0, .class_ 17), (0, u "com/example/bytepare/bytepare/classfile/Constant"), (21, .class_ 40), (0, u "com/example/bytepare/bytepare/classfile/Constant$DynamicRef")] 33

/-- com/example/bytepare/bytepare/classfile/Constant$InvokeDynamicInfo -/
def k11 : Class := { plain "com/example/bytepare/bytepare/classfile/Constant$InvokeDynamicInfo" (some 3) with
  accessFlags := 49
  interfaces := #[10]
  cf := some (fileOf pool11 8 #[.nestHost 16] #[] 49 2 #[39] #[{ accessFlags := 18, nameIndex := 11, descriptorIndex := 12, attributes := #[] }, { accessFlags := 18, nameIndex := 15, descriptorIndex := 12, attributes := #[] }])
  fields := #[{ name := "bootstrapMethodAttrIndex", type := .int, accessFlags := 18, slot := 0, constantValue := 0 }, { name := "nameAndTypeIndex", type := .int, accessFlags := 18, slot := 1, constantValue := 0 }]
  methods := #[]
  instanceTypes := #[.int, .int]
  staticTypes := #[]
  resolved := Array.replicate 74 none
  mirror := some 5
  statics := none }

def pool12 : Array CpInfo := pool [(2, .class_ 4), (1, u "java/lang/Record"), (3, .class_ 10), (1, u "com/example/bytepare/bytepare/classfile/Constant$MethodrefInfo"), (0, u "classIndex"), (0, u "I"), (2, u "nameAndTypeIndex"), (0, .class_ 17), (0, u "com/example/bytepare/bytepare/classfile/Constant"), (21, .class_ 40), (0, u "com/example/bytepare/bytepare/classfile/Constant$MemberRef")] 33

/-- com/example/bytepare/bytepare/classfile/Constant$MethodrefInfo -/
def k12 : Class := { plain "com/example/bytepare/bytepare/classfile/Constant$MethodrefInfo" (some 3) with
  accessFlags := 49
  interfaces := #[7]
  cf := some (fileOf pool12 8 #[.nestHost 16] #[] 49 2 #[39] #[{ accessFlags := 18, nameIndex := 11, descriptorIndex := 12, attributes := #[] }, { accessFlags := 18, nameIndex := 15, descriptorIndex := 12, attributes := #[] }])
  fields := #[{ name := "classIndex", type := .int, accessFlags := 18, slot := 0, constantValue := 0 }, { name := "nameAndTypeIndex", type := .int, accessFlags := 18, slot := 1, constantValue := 0 }]
  methods := #[]
  instanceTypes := #[.int, .int]
  staticTypes := #[]
  resolved := Array.replicate 74 none
  mirror := some 6
  statics := none }

def pool13 : Array CpInfo := pool [(1, .class_ 2), (0, u "java/lang/Class"), (0, .class_ 4), (0, u "java/lang/Object")] 0

/-- java/lang/Class -/
def k13 : Class := { plain "java/lang/Class" (some 0) with
  accessFlags := 49
  interfaces := #[]
  cf := some (fileOf pool13 1 #[] #[] 49 3 #[] #[])
  fields := #[]
  methods := #[]
  instanceTypes := #[]
  staticTypes := #[]
  resolved := Array.replicate 5 none
  statics := none }

def pool14 : Array CpInfo := pool [(1, u "java/lang/Cloneable"), (0, .class_ 1), (0, u "java/lang/Object"), (0, .class_ 3)] 3

/-- java/lang/Cloneable -/
def k14 : Class := { plain "java/lang/Cloneable" (some 0) with
  accessFlags := 1537
  interfaces := #[]
  cf := some (fileOf pool14 2 #[] #[] 1537 4 #[] #[])
  fields := #[]
  methods := #[]
  instanceTypes := #[]
  staticTypes := #[]
  resolved := Array.replicate 8 none
  statics := none }

def pool15 : Array CpInfo := pool [(1, u "java/io/Serializable"), (0, .class_ 1), (0, u "java/lang/Object"), (0, .class_ 3)] 3

/-- java/io/Serializable -/
def k15 : Class := { plain "java/io/Serializable" (some 0) with
  accessFlags := 1537
  interfaces := #[]
  cf := some (fileOf pool15 2 #[] #[] 1537 4 #[] #[])
  fields := #[]
  methods := #[]
  instanceTypes := #[]
  staticTypes := #[]
  resolved := Array.replicate 8 none
  statics := none }

/-- the primitive byte -/
def k16 : Class := { plain "byte" none with kind := .primitive 'B', accessFlags := 0x411 }
/-- [B -/
def k17 : Class := { plain "[B" (some 0) with kind := .array 16 .byte, interfaces := #[14, 15], accessFlags := 1041 }

/-- the primitive int -/
def k18 : Class := { plain "int" none with kind := .primitive 'I', accessFlags := 0x411 }
/-- [I -/
def k19 : Class := { plain "[I" (some 0) with kind := .array 18 .int, interfaces := #[14, 15], accessFlags := 1041 }

def heap : Heap := #[{ cls := 13, slots := #[], vm := .mirror 6 },
  { cls := 13, slots := #[], vm := .mirror 4 },
  { cls := 13, slots := #[], vm := .mirror 7 },
  { cls := 13, slots := #[], vm := .mirror 8 },
  { cls := 13, slots := #[], vm := .mirror 9 },
  { cls := 13, slots := #[], vm := .mirror 11 },
  { cls := 13, slots := #[], vm := .mirror 12 }]
def classes : Array Class := #[k0, k1, k2, k3, k4, k5, k6, k7, k8, k9, k10, k11, k12, k13, k14, k15, k16, k17, k18, k19]
def interned : List (Array UInt16 × Addr) := []
def slotsUsed : Nat := 0
def theMethod : MethodId := ⟨1, 2⟩
def args0 : Array Value := #[.int 5]
def aboutOver (below : List Frame) : State where
  vm := { classes := classes, interned := interned.toArray }
  heap := heap
  slotsUsed := slotsUsed
  threads := #[{ frames := .invoking theMethod args0 :: below }]
def below0 : List Frame := [.native { method := ⟨0, 0⟩, args := #[] }]
def about1 : State := aboutOver below0
def p0 : Program := .bare "" "" ""
def e0 : Env := launch0.env 0 0 0
theorem w_frames : about1.frames = Frame.invoking theMethod args0 :: below0 := rfl
set_option maxRecDepth 65536 in
theorem w_args : argsFit about1.vm theMethod args0 = true := by decide +kernel
set_option maxRecDepth 65536 in
theorem w_heap : heapFits about1 = true := by decide +kernel
set_option maxRecDepth 65536 in
theorem w_runnable : about1.curStatus? = some .runnable := by decide +kernel
set_option maxRecDepth 65536 in
theorem w_alone : about1.alone = true := by decide +kernel
set_option maxRecDepth 65536 in
theorem w_named : about1.methodNamed? x = some theMethod := by decide +kernel
set_option maxRecDepth 65536 in
theorem w_hears : about1.hears theMethod below0 = true := by decide +kernel
set_option maxRecDepth 65536 in
theorem w_ripe : about1.ripe theMethod args0 below0 = true := by decide +kernel
theorem w_running : about1.status = .running := rfl
set_option maxRecDepth 65536 in
theorem w_room : about1.hasRoom e0.platform room_1 = true :=
  launch0.hasRoom_least _ room_1 (by decide +kernel) (by decide +kernel) (by decide +kernel) (by decide +kernel) (by decide +kernel) (by decide +kernel)
theorem allAtoms_all (ts : List Jvm.Cond) (a : Array Jvm.Value) (st : Jvm.State) : (allAtoms ts).before a st = ts.all (fun c => c.before a st) := by
  induction ts with
  | nil => rfl
  | cons c t ih =>
    show (Jvm.Cond.and c (allAtoms t)).before a st = _
    rw [Jvm.Cond.before_and, ih, List.all_cons]
def words1 : List Jvm.Cond := Jvm.Cond.code x code maxLocals ret :: tables_1
/-- a 'code' word, met by the world's own term for the bytes: nothing is compared byte by byte -/
theorem code_word {y : MethodName} {bytes : ByteArray} {mx : Nat} {rt : Option FieldType} {a : Array Value} {s : State} {m : MethodId} {meth : Method} {c : Code} (h1 : s.methodNamed? y = some m) (h2 : s.vm.method? m = some meth) (h3 : meth.code = some c) (h4 : c.code = bytes)
    (h5 : (c.maxLocals == mx && c.exceptionTable.isEmpty && decide (c.maxStack ≤ mostOperands) && decide (meth.sig.returnType = rt) && !meth.locks && decide (parseMethodDescriptor y.desc = some meth.sig)) = true) : (Jvm.Cond.code y bytes mx rt).before a s = true := by
  simp only [Bool.and_eq_true, beq_iff_eq, Bool.not_eq_true', decide_eq_true_eq] at h5
  obtain ⟨⟨⟨⟨⟨g1, g2⟩, g3⟩, g4⟩, g5⟩, g6⟩ := h5
  simp [Cond.before, Cond.holds, Cond.value, h1, h2, h3, h4, g1, g2, g3, g4, g5, g6]
def isCode : Jvm.Cond → Bool
  | .code _ _ _ _ => true
  | _ => false
theorem all_split {L : List Jvm.Cond} {P : Jvm.Cond → Bool} (h1 : L.all (fun c => isCode c || P c) = true) (h2 : ∀ c ∈ L.filter isCode, P c = true) : L.all P = true := by
  refine List.all_eq_true.mpr fun c hc => ?_
  have h := List.all_eq_true.mp h1 c hc
  rcases Bool.eq_false_or_eq_true (isCode c) with hi | hi
  · exact h2 c (List.mem_filter.mpr ⟨hc, hi⟩)
  · simpa [hi] using h
set_option maxRecDepth 65536 in
theorem w_c0 : (Jvm.Cond.code x code maxLocals ret).before args0 about1 = true := code_word (m := ⟨1, 2⟩) (meth := k1m2) (c := k1c2) (by decide +kernel) rfl rfl rfl (by decide +kernel)
set_option maxRecDepth 65536 in
theorem w_c1 : (Jvm.Cond.code ({ cls := "com/example/bytepare/bytepare/classfile/Bytecode", name := "poolOperand", desc := "(I)Ljava/lang/Class;" } : Jvm.MethodName) prog_14_method_2_code (1 : Nat) (Option.some (Jvm.ClassFile.FieldType.object "java/lang/Class"))).before args0 about1 = true := code_word (m := ⟨2, 1⟩) (meth := k2m1) (c := k2c1) (by decide +kernel) rfl rfl rfl (by decide +kernel)
set_option maxRecDepth 65536 in
theorem w_c2 : (Jvm.Cond.code ({ cls := "com/example/bytepare/bytepare/classfile/BytecodePoolOperandPinLaw", name := "expected", desc := "(I)Ljava/lang/Class;" } : Jvm.MethodName) method_2_code (1 : Nat) (Option.some (Jvm.ClassFile.FieldType.object "java/lang/Class"))).before args0 about1 = true := code_word (m := ⟨1, 1⟩) (meth := k1m1) (c := k1c1) (by decide +kernel) rfl rfl rfl (by decide +kernel)
def codes1 : List Jvm.Cond := [Jvm.Cond.code x code maxLocals ret, Jvm.Cond.code ({ cls := "com/example/bytepare/bytepare/classfile/Bytecode", name := "poolOperand", desc := "(I)Ljava/lang/Class;" } : Jvm.MethodName) prog_14_method_2_code (1 : Nat) (Option.some (Jvm.ClassFile.FieldType.object "java/lang/Class")), Jvm.Cond.code ({ cls := "com/example/bytepare/bytepare/classfile/BytecodePoolOperandPinLaw", name := "expected", desc := "(I)Ljava/lang/Class;" } : Jvm.MethodName) method_2_code (1 : Nat) (Option.some (Jvm.ClassFile.FieldType.object "java/lang/Class"))]
set_option maxRecDepth 65536 in
theorem codes_eq : words1.filter isCode = codes1 := rfl
theorem w_codes : ∀ c ∈ words1.filter isCode, c.before args0 about1 = true := by
  rw [codes_eq]
  intro c hc
  simp only [codes1, List.mem_cons, List.not_mem_nil, or_false] at hc
  rcases hc with rfl | rfl | rfl
  · exact w_c0
  · exact w_c1
  · exact w_c2
set_option maxRecDepth 65536 in
theorem w_t1 : (words1.take 24).all (fun c => isCode c || c.before args0 about1) = true := by decide +kernel
set_option maxRecDepth 65536 in
theorem w_t2 : (words1.drop 24).all (fun c => isCode c || c.before args0 about1) = true := by decide +kernel
theorem w_tables : (allAtoms (Jvm.Cond.code x code maxLocals ret :: tables_1)).before args0 about1 = true := by
  rw [allAtoms_all]
  show words1.all (fun c => c.before args0 about1) = true
  refine all_split ?_ w_codes
  rw [← List.take_append_drop 24 words1, List.all_append, w_t1, w_t2]
  rfl
set_option maxRecDepth 65536 in
theorem w_case : (Jvm.Cond.and given_1 narrow_1).before args0 about1 = true := by decide +kernel
theorem w_applies : (headSpec (Jvm.Cond.code x code maxLocals ret :: tables_1) room_1).applies x e0.platform about1 = true :=
  (Spec.applies_iff w_frames).mpr ⟨w_running, w_runnable, w_alone, w_named, w_hears, w_ripe, w_room, w_tables⟩
theorem atStart : AtStart classFile x code maxLocals ret World_1 tables_1 room_1 Calls_1 rest_1 Pre_1 launch0 p0 e0 about1 theMethod args0 below0 :=
  ⟨lists_1, trivial, launch0.admits_env _ _ _, launch0.least_env, fairChoices_fair.cas, fairChoices_fair.clock, w_frames, w_args, w_heap, w_applies, ⟨⟨6, k6, 0, by decide +kernel, rfl, rfl, _, rfl, rfl⟩, ⟨⟨4, k4, 1, by decide +kernel, rfl, rfl, _, rfl, rfl⟩, ⟨⟨7, k7, 2, by decide +kernel, rfl, rfl, _, rfl, rfl⟩, ⟨⟨8, k8, 3, by decide +kernel, rfl, rfl, _, rfl, rfl⟩, ⟨⟨9, k9, 4, by decide +kernel, rfl, rfl, _, rfl, rfl⟩, ⟨⟨11, k11, 5, by decide +kernel, rfl, rfl, _, rfl, rfl⟩, ⟨⟨12, k12, 6, by decide +kernel, rfl, rfl, _, rfl, rfl⟩, trivial⟩⟩⟩⟩⟩⟩⟩, trivial, w_case⟩
end start1
theorem witness_1 : WitnessClaimed_1 := ⟨start1.p0, start1.e0, start1.about1, start1.theMethod, start1.args0, start1.below0, start1.atStart⟩
end Jvm.Pilot.@@N@@
