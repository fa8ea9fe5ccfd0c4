import JvmDerived
import JvmDerived.Pilot.@@N@@Statement
import JvmDerived.Pilot.@@N@@Code
set_option linter.unusedVariables false
set_option linter.unusedSimpArgs false
namespace Jvm.OwnW
open Sem ClassFile Op Lib Jvm.Free Jvm.Stand Jvm.LawKit Jvm.RoadKit
/-- what stays the same all through one invocation -/
abbrev Ctx : Type := Program × Env × State × MethodId × Array Value × List Frame × Method × Code
abbrev Ctx.p (C : Ctx) : Program := C.1
abbrev Ctx.e (C : Ctx) : Env := C.2.1
abbrev Ctx.s (C : Ctx) : State := C.2.2.1
abbrev Ctx.m (C : Ctx) : MethodId := C.2.2.2.1
abbrev Ctx.args (C : Ctx) : Array Value := C.2.2.2.2.1
abbrev Ctx.below (C : Ctx) : List Frame := C.2.2.2.2.2.1
abbrev Ctx.meth (C : Ctx) : Method := C.2.2.2.2.2.2.1
abbrev Ctx.c (C : Ctx) : Code := C.2.2.2.2.2.2.2
/-- each place of the list lies in a cell of ws, or in one made since -/
def Wok (b : Nat) (ws : List Addr) (L : List Loc) : Prop := ∀ y ∈ L, y.base ∈ ws ∨ b ≤ y.base
theorem Wok.nil (b : Nat) (ws : List Addr) : Wok b ws [] := fun _ q => nomatch q
theorem Wok.app {b : Nat} {ws : List Addr} {L L' : List Loc} (N : Wok b ws L) (N' : Wok b ws L') : Wok b ws (L ++ L') := fun y q => (List.mem_append.mp q).elim (N y) (N' y)
theorem Wok.snoc {b : Nat} {ws : List Addr} {L : List Loc} {a : Addr} {sl : Nat} (N : Wok b ws L) (q : a ∈ ws ∨ b ≤ a) : Wok b ws (L ++ [⟨a, sl⟩]) := N.app fun y hy => by cases List.mem_singleton.mp hy; exact q
theorem keep_of_same {s t : State} {L : List Loc} {ws : List Addr} {k n : Nat} (h : s.sameButNew t L k n) (N : Wok s.heap.size ws L) : Keep s.heap t.heap ws := by
  obtain ⟨-, h2, -, -, -, h6⟩ := h
  refine ⟨h2, fun x c hx hn => ?_, fun x c hx => ?_⟩
  · obtain ⟨c', q1, q2, q3, q4⟩ := h6 x c hx
    have hlt := (Array.getElem?_eq_some_iff.mp hx).1
    have : c'.slots = c.slots := Array.ext_getElem? fun i => q4 i fun hm => (N _ hm).elim hn fun z => absurd hlt (Nat.not_lt.mpr z)
    rw [q1, q2, this]
  · obtain ⟨c', q1, q2, q3, q4⟩ := h6 x c hx
    exact ⟨c', q1, by rw [q2], by rw [q2], q3⟩
theorem eq_of_same {s t : State} {L : List Loc} {n : Nat} (h : s.sameButNew t L 0 n) (N : Wok s.heap.size [] L) : t.heap = s.heap := by
  have K := keep_of_same h N
  obtain ⟨-, h2, h3, -⟩ := h
  refine Array.ext_getElem? fun i => ?_
  cases hi : s.heap[i]? with
  | some c => exact K.2.1 i c hi (fun q => nomatch q)
  | none =>
    rw [Array.getElem?_eq_none_iff] at hi ⊢
    omega
/-- where the run stands: the invocation's state T with heap h; of what is older than the invocation only ws has been written -/
def On (l : Launch) (Z : State) (ws : List Addr) (R : Room) (own nm : String) (bytes : ByteArray) (maxL : Nat) (ret : Option FieldType) (C : Ctx) (T : State) (h : Heap) (cells slots : Nat) : Prop :=
  (C.p.tables.exec = Jvm.exec ∧ Z.Warmed39 C.s.vm ∧ C.c.code = bytes ∧ C.c.maxLocals = maxL ∧ C.s.vm.findClass own = some C.m.cls ∧ C.meth.name = nm ∧ C.meth.sig.returnType = ret ∧ C.meth.locks = false) ∧
  (∃ locs, Stand C.p l C.e R C.s C.m C.args C.below C.meth C.c T locs cells slots ∧ Wok C.s.heap.size ws locs) ∧ T.heap = h
def Post (ws : List Addr) (rc : Nat) (h0 : Heap) (Q : Option Value → Heap → Prop) (v : Option Value) (h : Heap) (L : List Loc) : Prop := Wok h0.size ws L ∧ Keep h0 h ws ∧ (rc = 0 → ws = [] → h = h0) ∧ Q v h
/-- from the state A the invocation comes to its end, with Q of what it returns and of the heap it leaves -/
def Go (C : Ctx) (ws : List Addr) (Q : Option Value → Heap → Prop) (k n : Nat) (A : State) : Prop :=
  ∃ U o, Steps C.p.tables C.e C.below A U ∧ U.status = .running ∧ Ended U C.below o ∧ ∃ v L, o = .returned v ∧ Post ws k C.s.heap Q v U.heap L ∧ FrameEnd C.s o U L k n
def Met (l : Launch) (Z : State) (y : MethodName) (bytes : ByteArray) (maxL : Nat) (ret : Option FieldType) (wds : List Cond) (rm : Room) (as' : Array Value) (ws : List Addr) (h0 : Heap) (Q : Option Value → Heap → Prop) : Prop :=
  MetFree l y (head1 (Cond.code y bytes maxL ret :: wds) rm) (fun a U => a = as' ∧ Z.Warmed39 U.vm ∧ U.heap = h0) (fun _ _ _ _ _ => True) (fun _ U o U' => ∃ v L, o = .returned v ∧ Post ws rm.cells h0 Q v U'.heap L ∧ FrameEnd U o U' L rm.cells rm.slots)
theorem Met.mk {l : Launch} {Z : State} {y : MethodName} {bytes : ByteArray} {maxL : Nat} {ret : Option FieldType} {wds : List Cond} {rm : Room} {as' : Array Value} {ws : List Addr} {h0 : Heap} {Q : Option Value → Heap → Prop} {Ls : Array Slot}
    (hp : plainFor y = true) (ef : ∀ m, entryFrame m as' maxL = mkF m 0 Ls [])
    (H : ∀ (C : Ctx) (T : State), C.s.heap = h0 → On l Z ws rm y.cls y.name bytes maxL ret C T h0 0 0 → Go C ws Q rm.cells rm.slots (T.setTop (mkF C.m 0 Ls []))) : Met l Z y bytes maxL ret wds rm as' ws h0 Q := by
  refine MetFree.of_bodySF hp hisR ?_
  intro p e s m args below meth c s₁ Bd hml0 hP hK
  obtain ⟨rfl, hZ, hh⟩ := hP
  have e0 : s₁.heap = h0 := by rw [← hh, Bd.state]; rfl
  have := H (p, e, s, m, args, below, meth, c) s₁ hh ⟨⟨Bd.exec, hZ, Bd.bytes, hml0, findClass_of_methodNamed Bd.named, (name_of_methodNamed Bd.named Bd.method).1, Bd.returns, Bd.notSynchronized⟩, ⟨[], Stand.of_body Bd, Wok.nil _ _⟩, e0⟩
  obtain ⟨U, o, h1, h2, h3, v, L, h4, h5, h6⟩ := this
  refine ⟨U, o, castTop (ef m) h1, h2, h3, v, L, h4, ?_, h6⟩
  rw [← hh]; exact h5
theorem Go.of {C : Ctx} {ws : List Addr} {Q : Option Value → Heap → Prop} {k n : Nat} {A B : State} (g : Go C ws Q k n B) (h : ∀ t, Steps C.p.tables C.e C.below B t → Steps C.p.tables C.e C.below A t) : Go C ws Q k n A := by
  obtain ⟨U, o, h1, r⟩ := g; exact ⟨U, o, h _ h1, r⟩
theorem Go.via {C : Ctx} {ws : List Addr} {Q : Option Value → Heap → Prop} {k n : Nat} {A B : State} (g : Go C ws Q k n B) (h : Steps C.p.tables C.e C.below A B) : Go C ws Q k n A := by
  obtain ⟨U, o, h1, r⟩ := g; exact ⟨U, o, h.trans h1, r⟩
section Steps
variable {l : Launch} {Z : State} {a0 : Array Value} {ws : List Addr} {R : Room} {own nm : String} {bytes : ByteArray} {maxL : Nat} {ret : Option FieldType} {C : Ctx} {T : State} {h : Heap} {cells slots k n : Nat} {Q : Option Value → Heap → Prop} {pc q : Nat} {Ls L' : Array Slot} {st : List Value}
theorem On.size (O : On l Z ws R own nm bytes maxL ret C T h cells slots) : C.s.heap.size ≤ h.size := by
  obtain ⟨-, ⟨_, X, -⟩, rfl⟩ := O; exact X.same.2.1
theorem On.kept (O : On l Z ws R own nm bytes maxL ret C T h cells slots) : Keep C.s.heap h ws := by
  obtain ⟨-, ⟨_, X, N⟩, rfl⟩ := O; exact keep_of_same (t := T.setVm C.s.vm) X.same N
theorem fin (O : On l Z ws R own nm bytes maxL ret C T h cells slots) {v : Option Value} (hv : ret = none → v = none) (hk : cells ≤ k) (hn : slots ≤ n) (hQ : Q v h)
    (stp : ∀ X : State, ∀ fs, (∀ (f : JFrame) (acts : List Action), f.method = C.m → f.locked = none → f.entered = [] → (doReturn C.e (T.setTop f) acts v).1 = T.setFrames fs) → X = T.setFrames fs → Steps C.p.tables C.e C.below (T.setTop (mkF C.m pc Ls st)) X) : Go C ws Q k n (T.setTop (mkF C.m pc Ls st)) := by
  obtain ⟨⟨hx, hZ, -, -, -, -, hret, hlk⟩, ⟨L, X, N⟩, eT⟩ := O
  obtain ⟨fs, hr, hrun, hended, hW, hsame⟩ := X.leave (v := v) (fun q => hv (hret ▸ q)) hlk
  refine ⟨_, _, stp _ fs hr rfl, hrun, hended, v, L, rfl, ⟨N, ?_, ?_, ?_⟩, ⟨_, rfl⟩, hW, hsame.mono hk hn⟩
  · exact keep_of_same (t := T.setVm C.s.vm) X.same N
  · rintro rfl rfl
    exact eq_of_same (t := T.setVm C.s.vm) (X.same.mono hk (Nat.le_refl _)) N
  · show Q v T.heap; rw [eT]; exact hQ
theorem ret0 (O : On l Z ws R own nm bytes maxL none C T h cells slots) (hd : decode bytes pc = .ok (.return_, 1)) (hk : cells ≤ k) (hn : slots ≤ n) (hQ : Q none h) : Go C ws Q k n (T.setTop (mkF C.m pc Ls [])) := by
  refine fin O (fun _ => rfl) hk hn hQ ?_
  obtain ⟨⟨hx, hZ, rfl, -, -, -, hret, hlk⟩, ⟨L, X, N⟩, eT⟩ := O
  rintro _ fs hr rfl
  exact X.returnOut hx hret hd hr
theorem retV {t : FieldType} {w w' : Value} {i : Instr} {rest : List Value} (O : On l Z ws R own nm bytes maxL (some t) C T h cells slots) (hd : decode bytes pc = .ok (i, 1)) (hw : w' = w) (hnw : narrow t w = w)
    (hi : (i = .ireturn ∧ (t = .int ∨ t = .boolean ∨ t = .byte ∨ t = .char ∨ t = .short) ∧ ∃ z, w = .int z) ∨ (i = .lreturn ∧ t = .long ∧ ∃ z, w = .long z) ∨ (i = .dreturn ∧ t = .double ∧ ∃ z, w = .double z) ∨ (i = .freturn ∧ t = .float ∧ ∃ z, w = .float z) ∨ (i = .areturn ∧ t.isReference = true ∧ w.isRef = true))
    (hk : cells ≤ k) (hn : slots ≤ n) (hQ : Q (some w) h) : Go C ws Q k n (T.setTop (mkF C.m pc Ls (w' :: rest))) := by
  subst hw
  refine fin O (fun q => nomatch q) hk hn hQ ?_
  obtain ⟨⟨hx, hZ, rfl, -, -, -, hret, hlk⟩, ⟨L, X, N⟩, eT⟩ := O
  rintro _ fs hr rfl
  exact retOut X hx hret hnw hi hd hr
theorem retI {z z' : Int32} {rest : List Value} (O : On l Z ws R own nm bytes maxL (some .int) C T h cells slots) (hd : decode bytes pc = .ok (.ireturn, 1)) (hz : z = z') (hk : cells ≤ k) (hn : slots ≤ n) (hQ : Q (some (.int z')) h) : Go C ws Q k n (T.setTop (mkF C.m pc Ls (.int z :: rest))) :=
  retV O hd (congrArg Value.int hz) rfl (Or.inl ⟨rfl, Or.inl rfl, _, rfl⟩) hk hn hQ
theorem retB {z z' : Int32} {rest : List Value} (O : On l Z ws R own nm bytes maxL (some .boolean) C T h cells slots) (hd : decode bytes pc = .ok (.ireturn, 1)) (hz : z = z') (h01 : z' = 0 ∨ z' = 1) (hk : cells ≤ k) (hn : slots ≤ n) (hQ : Q (some (.int z')) h) : Go C ws Q k n (T.setTop (mkF C.m pc Ls (.int z :: rest))) :=
  retV O hd (congrArg Value.int hz) (by rcases h01 with rfl | rfl <;> rfl) (Or.inl ⟨rfl, Or.inr (Or.inl rfl), _, rfl⟩) hk hn hQ
theorem retY {z z' : Int32} {rest : List Value} (O : On l Z ws R own nm bytes maxL (some .byte) C T h cells slots) (hd : decode bytes pc = .ok (.ireturn, 1)) (hz : z = z') (hb : z'.toInt8.toInt32 = z') (hk : cells ≤ k) (hn : slots ≤ n) (hQ : Q (some (.int z')) h) : Go C ws Q k n (T.setTop (mkF C.m pc Ls (.int z :: rest))) :=
  retV O hd (congrArg Value.int hz) (congrArg Value.int hb) (Or.inl ⟨rfl, Or.inr (Or.inr (Or.inl rfl)), _, rfl⟩) hk hn hQ
theorem retL {z z' : Int64} {rest : List Value} (O : On l Z ws R own nm bytes maxL (some .long) C T h cells slots) (hd : decode bytes pc = .ok (.lreturn, 1)) (hz : z = z') (hk : cells ≤ k) (hn : slots ≤ n) (hQ : Q (some (.long z')) h) : Go C ws Q k n (T.setTop (mkF C.m pc Ls (.long z :: rest))) :=
  retV O hd (congrArg Value.long hz) rfl (Or.inr (Or.inl ⟨rfl, rfl, _, rfl⟩)) hk hn hQ
theorem retA {t : FieldType} {w : Value} {rest : List Value} (O : On l Z ws R own nm bytes maxL (some t) C T h cells slots) (hd : decode bytes pc = .ok (.areturn, 1)) (ht : t.isReference = true) (hw : w.isRef = true) (hnw : narrow t w = w) (hk : cells ≤ k) (hn : slots ≤ n) (hQ : Q (some w) h) : Go C ws Q k n (T.setTop (mkF C.m pc Ls (w :: rest))) :=
  retV O hd rfl hnw (Or.inr (Or.inr (Or.inr (Or.inr ⟨rfl, ht, hw⟩)))) hk hn hQ
theorem iload (O : On l Z ws R own nm bytes maxL ret C T h cells slots) {i : Nat} {v : Int32} (hd : decode bytes pc = .ok (.iload i, 2)) (hl : Ls[i]? = some (.val (.int v))) (hq : pc + 2 = q)
    (K : Go C ws Q k n (T.setTop (mkF C.m q Ls (.int v :: st)))) : Go C ws Q k n (T.setTop (mkF C.m pc Ls (st))) := by
  obtain ⟨⟨hx, -, rfl, -⟩, ⟨_, X, -⟩, -⟩ := O; subst hq
  exact K.of fun _ kk => XS.iload X.here hx rfl hd hl kk
theorem iloadN (O : On l Z ws R own nm bytes maxL ret C T h cells slots) {i : Fin 4} {v : Int32} (hd : decode bytes pc = .ok (.iload_n i, 1)) (hl : Ls[i.val]? = some (.val (.int v))) (hq : pc + 1 = q)
    (K : Go C ws Q k n (T.setTop (mkF C.m q Ls (.int v :: st)))) : Go C ws Q k n (T.setTop (mkF C.m pc Ls (st))) := by
  obtain ⟨⟨hx, -, rfl, -⟩, ⟨_, X, -⟩, -⟩ := O; subst hq
  exact K.of fun _ kk => XS.iloadN X.here hx rfl hd hl kk
theorem lload (O : On l Z ws R own nm bytes maxL ret C T h cells slots) {i : Nat} {v : Int64} (hd : decode bytes pc = .ok (.lload i, 2)) (hl : Ls[i]? = some (.val (.long v))) (hq : pc + 2 = q)
    (K : Go C ws Q k n (T.setTop (mkF C.m q Ls (.long v :: st)))) : Go C ws Q k n (T.setTop (mkF C.m pc Ls (st))) := by
  obtain ⟨⟨hx, -, rfl, -⟩, ⟨_, X, -⟩, -⟩ := O; subst hq
  exact K.of fun _ kk => XS.lload X.here hx rfl hd hl kk
theorem lloadN (O : On l Z ws R own nm bytes maxL ret C T h cells slots) {i : Fin 4} {v : Int64} (hd : decode bytes pc = .ok (.lload_n i, 1)) (hl : Ls[i.val]? = some (.val (.long v))) (hq : pc + 1 = q)
    (K : Go C ws Q k n (T.setTop (mkF C.m q Ls (.long v :: st)))) : Go C ws Q k n (T.setTop (mkF C.m pc Ls (st))) := by
  obtain ⟨⟨hx, -, rfl, -⟩, ⟨_, X, -⟩, -⟩ := O; subst hq
  exact K.of fun _ kk => XS.lloadN X.here hx rfl hd hl kk
theorem aload (O : On l Z ws R own nm bytes maxL ret C T h cells slots) {i : Nat} {v : Value} (hd : decode bytes pc = .ok (.aload i, 2)) (hl : Ls[i]? = some (.val v)) (hv : v.isRef = true) (hq : pc + 2 = q)
    (K : Go C ws Q k n (T.setTop (mkF C.m q Ls (v :: st)))) : Go C ws Q k n (T.setTop (mkF C.m pc Ls (st))) := by
  obtain ⟨⟨hx, -, rfl, -⟩, ⟨_, X, -⟩, -⟩ := O; subst hq
  exact K.of fun _ kk => XS.aload X.here hx rfl hd hl hv kk
theorem aloadN (O : On l Z ws R own nm bytes maxL ret C T h cells slots) {i : Fin 4} {v : Value} (hd : decode bytes pc = .ok (.aload_n i, 1)) (hl : Ls[i.val]? = some (.val v)) (hv : v.isRef = true) (hq : pc + 1 = q)
    (K : Go C ws Q k n (T.setTop (mkF C.m q Ls (v :: st)))) : Go C ws Q k n (T.setTop (mkF C.m pc Ls (st))) := by
  obtain ⟨⟨hx, -, rfl, -⟩, ⟨_, X, -⟩, -⟩ := O; subst hq
  exact K.of fun _ kk => XS.aloadN X.here hx rfl hd hl hv kk
theorem istore (O : On l Z ws R own nm bytes maxL ret C T h cells slots) {i : Nat} {v : Int32} (hd : decode bytes pc = .ok (.istore i, 2)) (hl : storeLocals Ls i (.int v) = some L') (hq : pc + 2 = q)
    (K : Go C ws Q k n (T.setTop (mkF C.m q L' (st)))) : Go C ws Q k n (T.setTop (mkF C.m pc Ls (.int v :: st))) := by
  obtain ⟨⟨hx, -, rfl, -⟩, ⟨_, X, -⟩, -⟩ := O; subst hq
  exact K.of fun _ kk => XS.istore X.here hx rfl hd rfl hl kk
theorem istoreN (O : On l Z ws R own nm bytes maxL ret C T h cells slots) {i : Fin 4} {v : Int32} (hd : decode bytes pc = .ok (.istore_n i, 1)) (hl : storeLocals Ls i.val (.int v) = some L') (hq : pc + 1 = q)
    (K : Go C ws Q k n (T.setTop (mkF C.m q L' (st)))) : Go C ws Q k n (T.setTop (mkF C.m pc Ls (.int v :: st))) := by
  obtain ⟨⟨hx, -, rfl, -⟩, ⟨_, X, -⟩, -⟩ := O; subst hq
  exact K.of fun _ kk => XS.istoreN X.here hx rfl hd rfl hl kk
theorem lstore (O : On l Z ws R own nm bytes maxL ret C T h cells slots) {i : Nat} {v : Int64} (hd : decode bytes pc = .ok (.lstore i, 2)) (hl : storeLocals Ls i (.long v) = some L') (hq : pc + 2 = q)
    (K : Go C ws Q k n (T.setTop (mkF C.m q L' (st)))) : Go C ws Q k n (T.setTop (mkF C.m pc Ls (.long v :: st))) := by
  obtain ⟨⟨hx, -, rfl, -⟩, ⟨_, X, -⟩, -⟩ := O; subst hq
  exact K.of fun _ kk => XS.lstore X.here hx rfl hd rfl hl kk
theorem lstoreN (O : On l Z ws R own nm bytes maxL ret C T h cells slots) {i : Fin 4} {v : Int64} (hd : decode bytes pc = .ok (.lstore_n i, 1)) (hl : storeLocals Ls i.val (.long v) = some L') (hq : pc + 1 = q)
    (K : Go C ws Q k n (T.setTop (mkF C.m q L' (st)))) : Go C ws Q k n (T.setTop (mkF C.m pc Ls (.long v :: st))) := by
  obtain ⟨⟨hx, -, rfl, -⟩, ⟨_, X, -⟩, -⟩ := O; subst hq
  exact K.of fun _ kk => XS.lstoreN X.here hx rfl hd rfl hl kk
theorem astore (O : On l Z ws R own nm bytes maxL ret C T h cells slots) {i : Nat} {v : Value} (hd : decode bytes pc = .ok (.astore i, 2)) (hv : v.isRef = true) (hl : storeLocals Ls i v = some L') (hq : pc + 2 = q)
    (K : Go C ws Q k n (T.setTop (mkF C.m q L' (st)))) : Go C ws Q k n (T.setTop (mkF C.m pc Ls (v :: st))) := by
  obtain ⟨⟨hx, -, rfl, -⟩, ⟨_, X, -⟩, -⟩ := O; subst hq
  exact K.of fun _ kk => XS.astore X.here hx rfl hd rfl hv hl kk
theorem astoreN (O : On l Z ws R own nm bytes maxL ret C T h cells slots) {i : Fin 4} {v : Value} (hd : decode bytes pc = .ok (.astore_n i, 1)) (hv : v.isRef = true) (hl : storeLocals Ls i.val v = some L') (hq : pc + 1 = q)
    (K : Go C ws Q k n (T.setTop (mkF C.m q L' (st)))) : Go C ws Q k n (T.setTop (mkF C.m pc Ls (v :: st))) := by
  obtain ⟨⟨hx, -, rfl, -⟩, ⟨_, X, -⟩, -⟩ := O; subst hq
  exact K.of fun _ kk => XS.astoreN X.here hx rfl hd rfl hv hl kk
theorem iconst (O : On l Z ws R own nm bytes maxL ret C T h cells slots) {i : Int} {r : Int32} (hd : decode bytes pc = .ok (.iconst i, 1)) (hr : Int32.ofInt i = r) (hq : pc + 1 = q)
    (K : Go C ws Q k n (T.setTop (mkF C.m q Ls (.int r :: st)))) : Go C ws Q k n (T.setTop (mkF C.m pc Ls (st))) := by
  obtain ⟨⟨hx, -, rfl, -⟩, ⟨_, X, -⟩, -⟩ := O; subst hq hr
  exact K.of fun _ kk => XS.iconst X.here hx rfl hd kk
theorem bipush (O : On l Z ws R own nm bytes maxL ret C T h cells slots) {i : Int} {r : Int32} (hd : decode bytes pc = .ok (.bipush i, 2)) (hr : (Int8.ofInt i).toInt32 = r) (hq : pc + 2 = q)
    (K : Go C ws Q k n (T.setTop (mkF C.m q Ls (.int r :: st)))) : Go C ws Q k n (T.setTop (mkF C.m pc Ls (st))) := by
  obtain ⟨⟨hx, -, rfl, -⟩, ⟨_, X, -⟩, -⟩ := O; subst hq hr
  exact K.of fun _ kk => XS.bipush X.here hx rfl hd kk
theorem sipush (O : On l Z ws R own nm bytes maxL ret C T h cells slots) {i : Int} {r : Int32} (hd : decode bytes pc = .ok (.sipush i, 3)) (hr : (Int16.ofInt i).toInt32 = r) (hq : pc + 3 = q)
    (K : Go C ws Q k n (T.setTop (mkF C.m q Ls (.int r :: st)))) : Go C ws Q k n (T.setTop (mkF C.m pc Ls (st))) := by
  obtain ⟨⟨hx, -, rfl, -⟩, ⟨_, X, -⟩, -⟩ := O; subst hq hr
  exact K.of fun _ kk => XS.sipush X.here hx rfl hd kk
theorem lconst (O : On l Z ws R own nm bytes maxL ret C T h cells slots) {i : Fin 2} {r : Int64} (hd : decode bytes pc = .ok (.lconst i, 1)) (hr : Int64.ofNat i = r) (hq : pc + 1 = q)
    (K : Go C ws Q k n (T.setTop (mkF C.m q Ls (.long r :: st)))) : Go C ws Q k n (T.setTop (mkF C.m pc Ls (st))) := by
  obtain ⟨⟨hx, -, rfl, -⟩, ⟨_, X, -⟩, -⟩ := O; subst hq hr
  exact K.of fun _ kk => XS.lconst X.here hx rfl hd kk
theorem aconst_null (O : On l Z ws R own nm bytes maxL ret C T h cells slots)  (hd : decode bytes pc = .ok (.aconst_null, 1))  (hq : pc + 1 = q)
    (K : Go C ws Q k n (T.setTop (mkF C.m q Ls (.null :: st)))) : Go C ws Q k n (T.setTop (mkF C.m pc Ls (st))) := by
  obtain ⟨⟨hx, -, rfl, -⟩, ⟨_, X, -⟩, -⟩ := O; subst hq
  exact K.of fun _ kk => XS.aconstNull X.here hx rfl hd kk
theorem iadd (O : On l Z ws R own nm bytes maxL ret C T h cells slots) {x y r : Int32} (hd : decode bytes pc = .ok (.iadd, 1)) (hr : x + y = r) (hq : pc + 1 = q)
    (K : Go C ws Q k n (T.setTop (mkF C.m q Ls (.int r :: st)))) : Go C ws Q k n (T.setTop (mkF C.m pc Ls (.int y :: .int x :: st))) := by
  obtain ⟨⟨hx, -, rfl, -⟩, ⟨_, X, -⟩, -⟩ := O; subst hq hr
  exact K.of fun _ kk => XS.iadd X.here hx rfl hd rfl kk
theorem isub (O : On l Z ws R own nm bytes maxL ret C T h cells slots) {x y r : Int32} (hd : decode bytes pc = .ok (.isub, 1)) (hr : x - y = r) (hq : pc + 1 = q)
    (K : Go C ws Q k n (T.setTop (mkF C.m q Ls (.int r :: st)))) : Go C ws Q k n (T.setTop (mkF C.m pc Ls (.int y :: .int x :: st))) := by
  obtain ⟨⟨hx, -, rfl, -⟩, ⟨_, X, -⟩, -⟩ := O; subst hq hr
  exact K.of fun _ kk => XS.isub X.here hx rfl hd rfl kk
theorem imul (O : On l Z ws R own nm bytes maxL ret C T h cells slots) {x y r : Int32} (hd : decode bytes pc = .ok (.imul, 1)) (hr : x * y = r) (hq : pc + 1 = q)
    (K : Go C ws Q k n (T.setTop (mkF C.m q Ls (.int r :: st)))) : Go C ws Q k n (T.setTop (mkF C.m pc Ls (.int y :: .int x :: st))) := by
  obtain ⟨⟨hx, -, rfl, -⟩, ⟨_, X, -⟩, -⟩ := O; subst hq hr
  exact K.of fun _ kk => XS.imul X.here hx rfl hd rfl kk
theorem iand (O : On l Z ws R own nm bytes maxL ret C T h cells slots) {x y r : Int32} (hd : decode bytes pc = .ok (.iand, 1)) (hr : x &&& y = r) (hq : pc + 1 = q)
    (K : Go C ws Q k n (T.setTop (mkF C.m q Ls (.int r :: st)))) : Go C ws Q k n (T.setTop (mkF C.m pc Ls (.int y :: .int x :: st))) := by
  obtain ⟨⟨hx, -, rfl, -⟩, ⟨_, X, -⟩, -⟩ := O; subst hq hr
  exact K.of fun _ kk => XS.iand X.here hx rfl hd rfl kk
theorem ior (O : On l Z ws R own nm bytes maxL ret C T h cells slots) {x y r : Int32} (hd : decode bytes pc = .ok (.ior, 1)) (hr : x ||| y = r) (hq : pc + 1 = q)
    (K : Go C ws Q k n (T.setTop (mkF C.m q Ls (.int r :: st)))) : Go C ws Q k n (T.setTop (mkF C.m pc Ls (.int y :: .int x :: st))) := by
  obtain ⟨⟨hx, -, rfl, -⟩, ⟨_, X, -⟩, -⟩ := O; subst hq hr
  exact K.of fun _ kk => XS.ior X.here hx rfl hd rfl kk
theorem ixor (O : On l Z ws R own nm bytes maxL ret C T h cells slots) {x y r : Int32} (hd : decode bytes pc = .ok (.ixor, 1)) (hr : x ^^^ y = r) (hq : pc + 1 = q)
    (K : Go C ws Q k n (T.setTop (mkF C.m q Ls (.int r :: st)))) : Go C ws Q k n (T.setTop (mkF C.m pc Ls (.int y :: .int x :: st))) := by
  obtain ⟨⟨hx, -, rfl, -⟩, ⟨_, X, -⟩, -⟩ := O; subst hq hr
  exact K.of fun _ kk => XS.ixor X.here hx rfl hd rfl kk
theorem ishl (O : On l Z ws R own nm bytes maxL ret C T h cells slots) {x y r : Int32} (hd : decode bytes pc = .ok (.ishl, 1)) (hr : x <<< (y &&& 31) = r) (hq : pc + 1 = q)
    (K : Go C ws Q k n (T.setTop (mkF C.m q Ls (.int r :: st)))) : Go C ws Q k n (T.setTop (mkF C.m pc Ls (.int y :: .int x :: st))) := by
  obtain ⟨⟨hx, -, rfl, -⟩, ⟨_, X, -⟩, -⟩ := O; subst hq hr
  exact K.of fun _ kk => XS.ishl X.here hx rfl hd rfl kk
theorem ishr (O : On l Z ws R own nm bytes maxL ret C T h cells slots) {x y r : Int32} (hd : decode bytes pc = .ok (.ishr, 1)) (hr : x >>> (y &&& 31) = r) (hq : pc + 1 = q)
    (K : Go C ws Q k n (T.setTop (mkF C.m q Ls (.int r :: st)))) : Go C ws Q k n (T.setTop (mkF C.m pc Ls (.int y :: .int x :: st))) := by
  obtain ⟨⟨hx, -, rfl, -⟩, ⟨_, X, -⟩, -⟩ := O; subst hq hr
  exact K.of fun _ kk => XS.ishr X.here hx rfl hd rfl kk
theorem iushr (O : On l Z ws R own nm bytes maxL ret C T h cells slots) {x y r : Int32} (hd : decode bytes pc = .ok (.iushr, 1)) (hr : (x.toUInt32 >>> (y &&& 31).toUInt32).toInt32 = r) (hq : pc + 1 = q)
    (K : Go C ws Q k n (T.setTop (mkF C.m q Ls (.int r :: st)))) : Go C ws Q k n (T.setTop (mkF C.m pc Ls (.int y :: .int x :: st))) := by
  obtain ⟨⟨hx, -, rfl, -⟩, ⟨_, X, -⟩, -⟩ := O; subst hq hr
  exact K.of fun _ kk => XS.iushr X.here hx rfl hd rfl kk
theorem idiv (O : On l Z ws R own nm bytes maxL ret C T h cells slots) {x y r : Int32} (hd : decode bytes pc = .ok (.idiv, 1)) (hy : y ≠ 0) (hr : x / y = r) (hq : pc + 1 = q)
    (K : Go C ws Q k n (T.setTop (mkF C.m q Ls (.int r :: st)))) : Go C ws Q k n (T.setTop (mkF C.m pc Ls (.int y :: .int x :: st))) := by
  obtain ⟨⟨hx, -, rfl, -⟩, ⟨_, X, -⟩, -⟩ := O; subst hq hr
  exact K.of fun _ kk => XS.idiv X.here hx rfl hd rfl hy kk
theorem irem (O : On l Z ws R own nm bytes maxL ret C T h cells slots) {x y r : Int32} (hd : decode bytes pc = .ok (.irem, 1)) (hy : y ≠ 0) (hr : x % y = r) (hq : pc + 1 = q)
    (K : Go C ws Q k n (T.setTop (mkF C.m q Ls (.int r :: st)))) : Go C ws Q k n (T.setTop (mkF C.m pc Ls (.int y :: .int x :: st))) := by
  obtain ⟨⟨hx, -, rfl, -⟩, ⟨_, X, -⟩, -⟩ := O; subst hq hr; rw [← irem_eq_mod] at K
  exact K.of fun _ kk => XS.irem X.here hx rfl hd rfl hy kk
theorem ladd (O : On l Z ws R own nm bytes maxL ret C T h cells slots) {x y r : Int64} (hd : decode bytes pc = .ok (.ladd, 1)) (hr : x + y = r) (hq : pc + 1 = q)
    (K : Go C ws Q k n (T.setTop (mkF C.m q Ls (.long r :: st)))) : Go C ws Q k n (T.setTop (mkF C.m pc Ls (.long y :: .long x :: st))) := by
  obtain ⟨⟨hx, -, rfl, -⟩, ⟨_, X, -⟩, -⟩ := O; subst hq hr
  exact K.of fun _ kk => XS.ladd X.here hx rfl hd rfl kk
theorem lsub (O : On l Z ws R own nm bytes maxL ret C T h cells slots) {x y r : Int64} (hd : decode bytes pc = .ok (.lsub, 1)) (hr : x - y = r) (hq : pc + 1 = q)
    (K : Go C ws Q k n (T.setTop (mkF C.m q Ls (.long r :: st)))) : Go C ws Q k n (T.setTop (mkF C.m pc Ls (.long y :: .long x :: st))) := by
  obtain ⟨⟨hx, -, rfl, -⟩, ⟨_, X, -⟩, -⟩ := O; subst hq hr
  exact K.of fun _ kk => XS.lsub X.here hx rfl hd rfl kk
theorem lmul (O : On l Z ws R own nm bytes maxL ret C T h cells slots) {x y r : Int64} (hd : decode bytes pc = .ok (.lmul, 1)) (hr : x * y = r) (hq : pc + 1 = q)
    (K : Go C ws Q k n (T.setTop (mkF C.m q Ls (.long r :: st)))) : Go C ws Q k n (T.setTop (mkF C.m pc Ls (.long y :: .long x :: st))) := by
  obtain ⟨⟨hx, -, rfl, -⟩, ⟨_, X, -⟩, -⟩ := O; subst hq hr
  exact K.of fun _ kk => XS.lmul X.here hx rfl hd rfl kk
theorem land (O : On l Z ws R own nm bytes maxL ret C T h cells slots) {x y r : Int64} (hd : decode bytes pc = .ok (.land, 1)) (hr : x &&& y = r) (hq : pc + 1 = q)
    (K : Go C ws Q k n (T.setTop (mkF C.m q Ls (.long r :: st)))) : Go C ws Q k n (T.setTop (mkF C.m pc Ls (.long y :: .long x :: st))) := by
  obtain ⟨⟨hx, -, rfl, -⟩, ⟨_, X, -⟩, -⟩ := O; subst hq hr
  exact K.of fun _ kk => XS.land X.here hx rfl hd rfl kk
theorem lor (O : On l Z ws R own nm bytes maxL ret C T h cells slots) {x y r : Int64} (hd : decode bytes pc = .ok (.lor, 1)) (hr : x ||| y = r) (hq : pc + 1 = q)
    (K : Go C ws Q k n (T.setTop (mkF C.m q Ls (.long r :: st)))) : Go C ws Q k n (T.setTop (mkF C.m pc Ls (.long y :: .long x :: st))) := by
  obtain ⟨⟨hx, -, rfl, -⟩, ⟨_, X, -⟩, -⟩ := O; subst hq hr
  exact K.of fun _ kk => XS.lor X.here hx rfl hd rfl kk
theorem lxor (O : On l Z ws R own nm bytes maxL ret C T h cells slots) {x y r : Int64} (hd : decode bytes pc = .ok (.lxor, 1)) (hr : x ^^^ y = r) (hq : pc + 1 = q)
    (K : Go C ws Q k n (T.setTop (mkF C.m q Ls (.long r :: st)))) : Go C ws Q k n (T.setTop (mkF C.m pc Ls (.long y :: .long x :: st))) := by
  obtain ⟨⟨hx, -, rfl, -⟩, ⟨_, X, -⟩, -⟩ := O; subst hq hr
  exact K.of fun _ kk => XS.lxor X.here hx rfl hd rfl kk
theorem ldiv (O : On l Z ws R own nm bytes maxL ret C T h cells slots) {x y r : Int64} (hd : decode bytes pc = .ok (.ldiv, 1)) (hy : y ≠ 0) (hr : x / y = r) (hq : pc + 1 = q)
    (K : Go C ws Q k n (T.setTop (mkF C.m q Ls (.long r :: st)))) : Go C ws Q k n (T.setTop (mkF C.m pc Ls (.long y :: .long x :: st))) := by
  obtain ⟨⟨hx, -, rfl, -⟩, ⟨_, X, -⟩, -⟩ := O; subst hq hr
  exact K.of fun _ kk => XS.ldiv X.here hx rfl hd rfl hy kk
theorem lrem (O : On l Z ws R own nm bytes maxL ret C T h cells slots) {x y r : Int64} (hd : decode bytes pc = .ok (.lrem, 1)) (hy : y ≠ 0) (hr : x % y = r) (hq : pc + 1 = q)
    (K : Go C ws Q k n (T.setTop (mkF C.m q Ls (.long r :: st)))) : Go C ws Q k n (T.setTop (mkF C.m pc Ls (.long y :: .long x :: st))) := by
  obtain ⟨⟨hx, -, rfl, -⟩, ⟨_, X, -⟩, -⟩ := O; subst hq hr; rw [← lrem_mod] at K
  exact K.of fun _ kk => XS.lrem X.here hx rfl hd rfl hy kk
theorem lshl (O : On l Z ws R own nm bytes maxL ret C T h cells slots) {x r : Int64} {y : Int32} (hd : decode bytes pc = .ok (.lshl, 1)) (hr : x <<< (y &&& 0x3f).toInt64 = r) (hq : pc + 1 = q)
    (K : Go C ws Q k n (T.setTop (mkF C.m q Ls (.long r :: st)))) : Go C ws Q k n (T.setTop (mkF C.m pc Ls (.int y :: .long x :: st))) := by
  obtain ⟨⟨hx, -, rfl, -⟩, ⟨_, X, -⟩, -⟩ := O; subst hq hr
  exact K.of fun _ kk => XS.lshl X.here hx rfl hd rfl kk
theorem lshr (O : On l Z ws R own nm bytes maxL ret C T h cells slots) {x r : Int64} {y : Int32} (hd : decode bytes pc = .ok (.lshr, 1)) (hr : x >>> (y &&& 0x3f).toInt64 = r) (hq : pc + 1 = q)
    (K : Go C ws Q k n (T.setTop (mkF C.m q Ls (.long r :: st)))) : Go C ws Q k n (T.setTop (mkF C.m pc Ls (.int y :: .long x :: st))) := by
  obtain ⟨⟨hx, -, rfl, -⟩, ⟨_, X, -⟩, -⟩ := O; subst hq hr
  exact K.of fun _ kk => XS.lshr X.here hx rfl hd rfl kk
theorem lushr (O : On l Z ws R own nm bytes maxL ret C T h cells slots) {x r : Int64} {y : Int32} (hd : decode bytes pc = .ok (.lushr, 1)) (hr : (x.toUInt64 >>> (y &&& 0x3f).toInt64.toUInt64).toInt64 = r) (hq : pc + 1 = q)
    (K : Go C ws Q k n (T.setTop (mkF C.m q Ls (.long r :: st)))) : Go C ws Q k n (T.setTop (mkF C.m pc Ls (.int y :: .long x :: st))) := by
  obtain ⟨⟨hx, -, rfl, -⟩, ⟨_, X, -⟩, -⟩ := O; subst hq hr
  exact K.of fun _ kk => XS.lushr X.here hx rfl hd rfl kk
theorem ineg (O : On l Z ws R own nm bytes maxL ret C T h cells slots) {x : Int32} {r : Int32} (hd : decode bytes pc = .ok (.ineg, 1)) (hr : -x = r) (hq : pc + 1 = q)
    (K : Go C ws Q k n (T.setTop (mkF C.m q Ls (.int r :: st)))) : Go C ws Q k n (T.setTop (mkF C.m pc Ls (.int x :: st))) := by
  obtain ⟨⟨hx, -, rfl, -⟩, ⟨_, X, -⟩, -⟩ := O; subst hq hr
  exact K.of fun _ kk => XS.ineg X.here hx rfl hd rfl kk
theorem lneg (O : On l Z ws R own nm bytes maxL ret C T h cells slots) {x : Int64} {r : Int64} (hd : decode bytes pc = .ok (.lneg, 1)) (hr : -x = r) (hq : pc + 1 = q)
    (K : Go C ws Q k n (T.setTop (mkF C.m q Ls (.long r :: st)))) : Go C ws Q k n (T.setTop (mkF C.m pc Ls (.long x :: st))) := by
  obtain ⟨⟨hx, -, rfl, -⟩, ⟨_, X, -⟩, -⟩ := O; subst hq hr
  exact K.of fun _ kk => XS.lneg X.here hx rfl hd rfl kk
theorem i2l (O : On l Z ws R own nm bytes maxL ret C T h cells slots) {x : Int32} {r : Int64} (hd : decode bytes pc = .ok (.i2l, 1)) (hr : x.toInt64 = r) (hq : pc + 1 = q)
    (K : Go C ws Q k n (T.setTop (mkF C.m q Ls (.long r :: st)))) : Go C ws Q k n (T.setTop (mkF C.m pc Ls (.int x :: st))) := by
  obtain ⟨⟨hx, -, rfl, -⟩, ⟨_, X, -⟩, -⟩ := O; subst hq hr
  exact K.of fun _ kk => XS.i2l X.here hx rfl hd rfl kk
theorem l2i (O : On l Z ws R own nm bytes maxL ret C T h cells slots) {x : Int64} {r : Int32} (hd : decode bytes pc = .ok (.l2i, 1)) (hr : x.toInt32 = r) (hq : pc + 1 = q)
    (K : Go C ws Q k n (T.setTop (mkF C.m q Ls (.int r :: st)))) : Go C ws Q k n (T.setTop (mkF C.m pc Ls (.long x :: st))) := by
  obtain ⟨⟨hx, -, rfl, -⟩, ⟨_, X, -⟩, -⟩ := O; subst hq hr
  exact K.of fun _ kk => XS.l2i X.here hx rfl hd rfl kk
theorem i2b (O : On l Z ws R own nm bytes maxL ret C T h cells slots) {x : Int32} {r : Int32} (hd : decode bytes pc = .ok (.i2b, 1)) (hr : x.toInt8.toInt32 = r) (hq : pc + 1 = q)
    (K : Go C ws Q k n (T.setTop (mkF C.m q Ls (.int r :: st)))) : Go C ws Q k n (T.setTop (mkF C.m pc Ls (.int x :: st))) := by
  obtain ⟨⟨hx, -, rfl, -⟩, ⟨_, X, -⟩, -⟩ := O; subst hq hr
  exact K.of fun _ kk => XS.i2b X.here hx rfl hd rfl kk
theorem i2c (O : On l Z ws R own nm bytes maxL ret C T h cells slots) {x : Int32} {r : Int32} (hd : decode bytes pc = .ok (.i2c, 1)) (hr : x.toUInt32.toUInt16.toUInt32.toInt32 = r) (hq : pc + 1 = q)
    (K : Go C ws Q k n (T.setTop (mkF C.m q Ls (.int r :: st)))) : Go C ws Q k n (T.setTop (mkF C.m pc Ls (.int x :: st))) := by
  obtain ⟨⟨hx, -, rfl, -⟩, ⟨_, X, -⟩, -⟩ := O; subst hq hr
  exact K.of fun _ kk => XS.i2c X.here hx rfl hd rfl kk
theorem i2s (O : On l Z ws R own nm bytes maxL ret C T h cells slots) {x : Int32} {r : Int32} (hd : decode bytes pc = .ok (.i2s, 1)) (hr : x.toInt16.toInt32 = r) (hq : pc + 1 = q)
    (K : Go C ws Q k n (T.setTop (mkF C.m q Ls (.int r :: st)))) : Go C ws Q k n (T.setTop (mkF C.m pc Ls (.int x :: st))) := by
  obtain ⟨⟨hx, -, rfl, -⟩, ⟨_, X, -⟩, -⟩ := O; subst hq hr
  exact K.of fun _ kk => XS.i2s X.here hx rfl hd rfl kk
theorem lcmp (O : On l Z ws R own nm bytes maxL ret C T h cells slots) {x y : Int64} {r : Int32} (hd : decode bytes pc = .ok (.lcmp, 1)) (hr : lcmpW x y = r) (hq : pc + 1 = q)
    (K : Go C ws Q k n (T.setTop (mkF C.m q Ls (.int r :: st)))) : Go C ws Q k n (T.setTop (mkF C.m pc Ls (.long y :: .long x :: st))) := by
  obtain ⟨⟨hx, -, rfl, -⟩, ⟨_, X, -⟩, -⟩ := O; subst hq hr
  exact K.of fun _ kk => XS.lcmp X.here hx rfl hd rfl kk
theorem iinc (O : On l Z ws R own nm bytes maxL ret C T h cells slots) {i : Nat} {cst : Int} {x : Int32} (hd : decode bytes pc = .ok (.iinc i cst, 3)) (hl : Ls[i]? = some (.val (.int x))) (hl' : storeLocals Ls i (.int (x + Int32.ofInt cst)) = some L') (hq : pc + 3 = q)
    (K : Go C ws Q k n (T.setTop (mkF C.m q L' (st)))) : Go C ws Q k n (T.setTop (mkF C.m pc Ls (st))) := by
  obtain ⟨⟨hx, -, rfl, -⟩, ⟨_, X, -⟩, -⟩ := O; subst hq
  exact K.of fun _ kk => XS.iinc X.here hx rfl hd hl hl' kk
theorem dup (O : On l Z ws R own nm bytes maxL ret C T h cells slots) {v : Value} (hd : decode bytes pc = .ok (.dup, 1)) (hc : v.category = 1) (hq : pc + 1 = q)
    (K : Go C ws Q k n (T.setTop (mkF C.m q Ls (v :: v :: st)))) : Go C ws Q k n (T.setTop (mkF C.m pc Ls (v :: st))) := by
  obtain ⟨⟨hx, -, rfl, -⟩, ⟨_, X, -⟩, -⟩ := O; subst hq
  exact K.of fun _ kk => XS.dup X.here hx rfl hd rfl hc kk
theorem pop (O : On l Z ws R own nm bytes maxL ret C T h cells slots) {v : Value} (hd : decode bytes pc = .ok (.pop, 1)) (hc : v.category = 1) (hq : pc + 1 = q)
    (K : Go C ws Q k n (T.setTop (mkF C.m q Ls (st)))) : Go C ws Q k n (T.setTop (mkF C.m pc Ls (v :: st))) := by
  obtain ⟨⟨hx, -, rfl, -⟩, ⟨_, X, -⟩, -⟩ := O; subst hq
  exact K.of fun _ kk => XS.pop X.here hx rfl hd rfl hc kk
theorem dup_x1 (O : On l Z ws R own nm bytes maxL ret C T h cells slots) {v w : Value} (hd : decode bytes pc = .ok (.dup_x1, 1)) (hc : v.category = 1) (hc' : w.category = 1) (hq : pc + 1 = q)
    (K : Go C ws Q k n (T.setTop (mkF C.m q Ls (v :: w :: v :: st)))) : Go C ws Q k n (T.setTop (mkF C.m pc Ls (v :: w :: st))) := by
  obtain ⟨⟨hx, -, rfl, -⟩, ⟨_, X, -⟩, -⟩ := O; subst hq
  exact K.of fun _ kk => XS.dupX1 X.here hx rfl hd rfl hc hc' kk
theorem dup2 (O : On l Z ws R own nm bytes maxL ret C T h cells slots) {v w : Value} (hd : decode bytes pc = .ok (.dup2, 1)) (hc : v.category = 1) (hc' : w.category = 1) (hq : pc + 1 = q)
    (K : Go C ws Q k n (T.setTop (mkF C.m q Ls (v :: w :: v :: w :: st)))) : Go C ws Q k n (T.setTop (mkF C.m pc Ls (v :: w :: st))) := by
  obtain ⟨⟨hx, -, rfl, -⟩, ⟨_, X, -⟩, -⟩ := O; subst hq
  exact K.of fun _ kk => XT.dup2 X.here hx rfl hd rfl hc hc' kk
theorem dup2L (O : On l Z ws R own nm bytes maxL ret C T h cells slots) {v : Int64} (hd : decode bytes pc = .ok (.dup2, 1))  (hq : pc + 1 = q)
    (K : Go C ws Q k n (T.setTop (mkF C.m q Ls (.long v :: .long v :: st)))) : Go C ws Q k n (T.setTop (mkF C.m pc Ls (.long v :: st))) := by
  obtain ⟨⟨hx, -, rfl, -⟩, ⟨_, X, -⟩, -⟩ := O; subst hq
  exact K.of fun _ kk => XT.dup2L X.here hx rfl hd rfl kk
theorem goto (O : On l Z ws R own nm bytes maxL ret C T h cells slots)  {o : Int} (hd : decode bytes pc = .ok (.goto o, 3))  (ho : 0 ≤ (pc : Int) + o) (hq : ((pc : Int) + o).toNat = q)
    (K : Go C ws Q k n (T.setTop (mkF C.m q Ls st))) : Go C ws Q k n (T.setTop (mkF C.m pc Ls (st))) := by
  obtain ⟨⟨hx, -, rfl, -⟩, ⟨_, X, -⟩, -⟩ := O
  exact K.of fun _ kk => XS.goto X.here hx rfl (pc0 := pc) (pc' := q) rfl hd  ho hq kk
theorem ifYes (O : On l Z ws R own nm bytes maxL ret C T h cells slots) {cd : ClassFile.Cond} {x : Int32} {o : Int} (hd : decode bytes pc = .ok (.ifCond cd o, 3)) (hc : ifCond.holds cd x = true) (ho : 0 ≤ (pc : Int) + o) (hq : ((pc : Int) + o).toNat = q)
    (K : Go C ws Q k n (T.setTop (mkF C.m q Ls st))) : Go C ws Q k n (T.setTop (mkF C.m pc Ls (.int x :: st))) := by
  obtain ⟨⟨hx, -, rfl, -⟩, ⟨_, X, -⟩, -⟩ := O
  exact K.of fun _ kk => XS.ifYes X.here hx rfl (pc0 := pc) (pc' := q) rfl hd rfl hc ho hq kk
theorem icmpYes (O : On l Z ws R own nm bytes maxL ret C T h cells slots) {cd : ClassFile.Cond} {x y : Int32} {o : Int} (hd : decode bytes pc = .ok (.if_icmp cd o, 3)) (hc : if_icmp.holds cd x y = true) (ho : 0 ≤ (pc : Int) + o) (hq : ((pc : Int) + o).toNat = q)
    (K : Go C ws Q k n (T.setTop (mkF C.m q Ls st))) : Go C ws Q k n (T.setTop (mkF C.m pc Ls (.int y :: .int x :: st))) := by
  obtain ⟨⟨hx, -, rfl, -⟩, ⟨_, X, -⟩, -⟩ := O
  exact K.of fun _ kk => XS.icmpYes X.here hx rfl (pc0 := pc) (pc' := q) rfl hd rfl hc ho hq kk
theorem ifnullYes (O : On l Z ws R own nm bytes maxL ret C T h cells slots)  {o : Int} (hd : decode bytes pc = .ok (.ifnull o, 3))  (ho : 0 ≤ (pc : Int) + o) (hq : ((pc : Int) + o).toNat = q)
    (K : Go C ws Q k n (T.setTop (mkF C.m q Ls st))) : Go C ws Q k n (T.setTop (mkF C.m pc Ls (.null :: st))) := by
  obtain ⟨⟨hx, -, rfl, -⟩, ⟨_, X, -⟩, -⟩ := O
  exact K.of fun _ kk => XS.ifnullYes X.here hx rfl (pc0 := pc) (pc' := q) rfl hd rfl ho hq kk
theorem ifnonnullYes (O : On l Z ws R own nm bytes maxL ret C T h cells slots) {b : Addr} {o : Int} (hd : decode bytes pc = .ok (.ifnonnull o, 3))  (ho : 0 ≤ (pc : Int) + o) (hq : ((pc : Int) + o).toNat = q)
    (K : Go C ws Q k n (T.setTop (mkF C.m q Ls st))) : Go C ws Q k n (T.setTop (mkF C.m pc Ls (.ref b :: st))) := by
  obtain ⟨⟨hx, -, rfl, -⟩, ⟨_, X, -⟩, -⟩ := O
  exact K.of fun _ kk => XS.ifnonnullYes X.here hx rfl (pc0 := pc) (pc' := q) rfl hd rfl ho hq kk
theorem ifNo (O : On l Z ws R own nm bytes maxL ret C T h cells slots) {cd : ClassFile.Cond} {x : Int32} {o : Int} (hd : decode bytes pc = .ok (.ifCond cd o, 3)) (hc : ifCond.holds cd x = false) (hq : pc + 3 = q)
    (K : Go C ws Q k n (T.setTop (mkF C.m q Ls (st)))) : Go C ws Q k n (T.setTop (mkF C.m pc Ls (.int x :: st))) := by
  obtain ⟨⟨hx, -, rfl, -⟩, ⟨_, X, -⟩, -⟩ := O; subst hq
  exact K.of fun _ kk => XS.ifNo X.here hx rfl hd rfl hc kk
theorem icmpNo (O : On l Z ws R own nm bytes maxL ret C T h cells slots) {cd : ClassFile.Cond} {x y : Int32} {o : Int} (hd : decode bytes pc = .ok (.if_icmp cd o, 3)) (hc : if_icmp.holds cd x y = false) (hq : pc + 3 = q)
    (K : Go C ws Q k n (T.setTop (mkF C.m q Ls (st)))) : Go C ws Q k n (T.setTop (mkF C.m pc Ls (.int y :: .int x :: st))) := by
  obtain ⟨⟨hx, -, rfl, -⟩, ⟨_, X, -⟩, -⟩ := O; subst hq
  exact K.of fun _ kk => XS.icmpNo X.here hx rfl hd rfl hc kk
theorem ifnullNo (O : On l Z ws R own nm bytes maxL ret C T h cells slots) {b : Addr} {o : Int} (hd : decode bytes pc = .ok (.ifnull o, 3))  (hq : pc + 3 = q)
    (K : Go C ws Q k n (T.setTop (mkF C.m q Ls (st)))) : Go C ws Q k n (T.setTop (mkF C.m pc Ls (.ref b :: st))) := by
  obtain ⟨⟨hx, -, rfl, -⟩, ⟨_, X, -⟩, -⟩ := O; subst hq
  exact K.of fun _ kk => XS.ifnullNo X.here hx rfl hd rfl kk
theorem ifnonnullNo (O : On l Z ws R own nm bytes maxL ret C T h cells slots) {o : Int} (hd : decode bytes pc = .ok (.ifnonnull o, 3))  (hq : pc + 3 = q)
    (K : Go C ws Q k n (T.setTop (mkF C.m q Ls (st)))) : Go C ws Q k n (T.setTop (mkF C.m pc Ls (.null :: st))) := by
  obtain ⟨⟨hx, -, rfl, -⟩, ⟨_, X, -⟩, -⟩ := O; subst hq
  exact K.of fun _ kk => XS.ifnonnullNo X.here hx rfl hd rfl kk
theorem acmp (O : On l Z ws R own nm bytes maxL ret C T h cells slots) {cd : ACond} {x y : Value} {o : Int} {same : Bool} (hd : decode bytes pc = .ok (.if_acmp cd o, 3)) (h1 : x.isRef = true) (h2 : y.isRef = true) (hs : decide (x = y) = same) (ho : 0 ≤ (pc : Int) + o) (hq : q = if acV cd same = true then ((pc : Int) + o).toNat else pc + 3)
    (K : Go C ws Q k n (T.setTop (mkF C.m q Ls st))) : Go C ws Q k n (T.setTop (mkF C.m pc Ls (y :: x :: st))) := by
  obtain ⟨⟨hx, -, rfl, -⟩, ⟨_, X, -⟩, -⟩ := O
  exact K.of fun _ kk => Jvm.RoadKit.acmp (g := mkF C.m pc Ls (y :: x :: st)) X hx rfl h1 h2 (pc0 := pc) (pc' := q) rfl hd rfl hs ho hq kk
theorem ldcI (O : On l Z ws R own nm bytes maxL ret C T h cells slots) {i : Nat} {v : Int32} (hd : decode bytes pc = .ok (.ldc i, 2)) (w : (Cond.constant own i v).before a0 Z = true) (hq : pc + 2 = q)
    (K : Go C ws Q k n (T.setTop (mkF C.m q Ls (.int v :: st)))) : Go C ws Q k n (T.setTop (mkF C.m pc Ls st)) := by
  obtain ⟨⟨hx, hZ, rfl, -, hown, -⟩, ⟨_, X, -⟩, -⟩ := O; subst hq
  exact K.of fun _ kk => X.ldcInt hx hown (mvT hZ w) (g := mkF C.m pc Ls st) rfl hd _ kk
theorem ldcwI (O : On l Z ws R own nm bytes maxL ret C T h cells slots) {i : Nat} {v : Int32} (hd : decode bytes pc = .ok (.ldc_w i, 3)) (w : (Cond.constant own i v).before a0 Z = true) (hq : pc + 3 = q)
    (K : Go C ws Q k n (T.setTop (mkF C.m q Ls (.int v :: st)))) : Go C ws Q k n (T.setTop (mkF C.m pc Ls st)) := by
  obtain ⟨⟨hx, hZ, rfl, -, hown, -⟩, ⟨_, X, -⟩, -⟩ := O; subst hq
  exact K.of fun _ kk => X.ldcwInt hx hown (mvT hZ w) (g := mkF C.m pc Ls st) rfl hd _ kk
theorem ldcL (O : On l Z ws R own nm bytes maxL ret C T h cells slots) {i : Nat} {v : Int64} (hd : decode bytes pc = .ok (.ldc2_w i, 3)) (w : (Cond.constantLong own i v).before a0 Z = true) (hq : pc + 3 = q)
    (K : Go C ws Q k n (T.setTop (mkF C.m q Ls (.long v :: st)))) : Go C ws Q k n (T.setTop (mkF C.m pc Ls st)) := by
  obtain ⟨⟨hx, hZ, rfl, -, hown, -⟩, ⟨_, X, -⟩, -⟩ := O; subst hq
  exact K.of fun _ kk => X.ldc2Long hx hown (mvT hZ w) (g := mkF C.m pc Ls st) rfl hd _ kk
theorem getF (O : On l Z ws R own nm bytes maxL ret C T h cells slots) {i : Nat} {R0 D f d host : String} {a : Addr} {v : Value} (hd : decode bytes pc = .ok (.getfield i, 3)) (w : (Cond.fieldLink own i R0 f d).before a0 Z = true ∨ (Cond.fieldLinkNest own i R0 f d host).before a0 Z = true) (via : Via Z R0 D f d) (F : Fld Z h a D f d v) (hq : pc + 3 = q)
    (K : ∀ T', On l Z ws R own nm bytes maxL ret C T' h cells slots → Go C ws Q k n (T'.setTop (mkF C.m q Ls (v :: st)))) : Go C ws Q k n (T.setTop (mkF C.m pc Ls (.ref a :: st))) := by
  obtain ⟨⟨hx, hZ, rfl, r1, hown, r2⟩, ⟨_, X, N⟩, eT⟩ := O; subst hq
  obtain ⟨T', X', e', stp⟩ := Jvm.RoadKit.getF X hx hZ hown w via eT F (g := mkF C.m pc Ls (.ref a :: st)) rfl rfl hd
  exact (K T' ⟨⟨hx, hZ, rfl, r1, hown, r2⟩, ⟨_, X', N⟩, e'⟩).of fun _ kk => stp _ kk
theorem getS (O : On l Z ws R own nm bytes maxL ret C T h cells slots) {i : Nat} {D f d : String} {v : Value} (hd : decode bytes pc = .ok (.getstatic i, 3)) (w : (Cond.fieldLink own i D f d).before a0 Z = true) (F : Sta Z h D f d v) (hq : pc + 3 = q)
    (K : ∀ T', On l Z ws R own nm bytes maxL ret C T' h cells slots → Go C ws Q k n (T'.setTop (mkF C.m q Ls (v :: st)))) : Go C ws Q k n (T.setTop (mkF C.m pc Ls st)) := by
  obtain ⟨⟨hx, hZ, rfl, r1, hown, r2⟩, ⟨_, X, N⟩, eT⟩ := O; subst hq
  obtain ⟨T', X', e', stp⟩ := Jvm.RoadKit.getS (host := "") X hx hZ hown w Via.refl eT F (g := mkF C.m pc Ls st) rfl hd
  exact (K T' ⟨⟨hx, hZ, rfl, r1, hown, r2⟩, ⟨_, X', N⟩, e'⟩).of fun _ kk => stp _ kk
theorem putF (O : On l Z ws R own nm bytes maxL ret C T h cells slots) {i kk : Nat} {R0 D f d host K0 : String} {ty : FieldType} {a : Addr} {v old : Value} (hd : decode bytes pc = .ok (.putfield i, 3)) (w : (Cond.fieldLink own i R0 f d).before a0 Z = true ∨ (Cond.fieldLinkNest own i R0 f d host).before a0 Z = true) (via : Via Z R0 D f d)
    (F : Fld Z h a D f d old) (E : Exa Z h a K0) (L : (Cond.lays K0 D f d).before a0 Z = true ∨ ((Cond.laysFinal K0 D f d).before a0 Z = true ∧ own = D ∧ nm = "<init>")) (wi : (Cond.instantiable K0 kk).before a0 Z = true) (hty : parseFieldDescriptor d = some ty) (hn : narrow ty v = v) (hf : fits ty v = true) (ha : a ∈ ws ∨ C.s.heap.size ≤ a) (hq : pc + 3 = q)
    (K : ∀ T' h', On l Z ws R own nm bytes maxL ret C T' h' cells slots → Wr h h' a (Jvm.RoadKit.slotOf Z D f d) v → Go C ws Q k n (T'.setTop (mkF C.m q Ls st))) : Go C ws Q k n (T.setTop (mkF C.m pc Ls (v :: .ref a :: st))) := by
  obtain ⟨⟨hx, hZ, rfl, r1, hown, hnm, r2⟩, ⟨_, X, N⟩, eT⟩ := O; subst hq
  obtain ⟨T', h', X', e', W, stp⟩ := Jvm.RoadKit.putF X hx hZ hown w via eT F E (L.imp id fun q => ⟨q.1, q.2.1, hnm.trans q.2.2⟩) wi hty hn hf (g := mkF C.m pc Ls (v :: .ref a :: st)) rfl rfl hd
  exact (K T' h' ⟨⟨hx, hZ, rfl, r1, hown, hnm, r2⟩, ⟨_, X', N.snoc ha⟩, e'⟩ W).of fun _ kk => stp _ kk
theorem newO (O : On l Z ws R own nm bytes maxL ret C T h cells slots) {i ns c2 s2 : Nat} {K0 : String} (hd : decode bytes pc = .ok (.new i, 3)) (w : (Cond.classLink own i K0).before a0 Z = true) (wi : (Cond.instantiable K0 ns).before a0 Z = true) (wz : (Cond.initialized K0).before a0 Z = true) (hc2 : cells + 1 = c2) (hs2 : slots + ns = s2) (hc : c2 ≤ R.cells) (hl : s2 ≤ R.slots) (hq : pc + 3 = q)
    (K : ∀ a T' h', a = h.size → C.s.heap.size ≤ a → On l Z ws R own nm bytes maxL ret C T' h' c2 s2 → Ext h h' → Exa Z h' a K0 → (∀ {O nm d : String} {ty : FieldType}, Laid Z a0 K0 O nm d → parseFieldDescriptor d = some ty → Fld Z h' a O nm d (defaultValue ty)) → Go C ws Q k n (T'.setTop (mkF C.m q Ls (.ref a :: st)))) : Go C ws Q k n (T.setTop (mkF C.m pc Ls st)) := by
  obtain ⟨⟨hx, hZ, rfl, r1, hown, r2⟩, ⟨_, X, N⟩, eT⟩ := O; subst hq hc2 hs2
  obtain ⟨T', h', X', e', E, A, D, -, stp⟩ := Jvm.RoadKit.newO X hx hZ hown w wi wz eT (g := mkF C.m pc Ls st) rfl hd hc hl
  exact (K _ T' h' rfl (eT ▸ X.same.2.1) ⟨⟨hx, hZ, rfl, r1, hown, r2⟩, ⟨_, X', N⟩, e'⟩ E A D).of fun _ kk => stp _ kk
theorem newP (O : On l Z ws R own nm bytes maxL ret C T h cells slots) {aty : ArrayType} {c2 s2 : Nat} (hd : decode bytes pc = .ok (.newarray aty, 2)) (w : (Cond.arrayClass (newarray.typeOf aty)).before a0 Z = true) {z : Int32} (hn : ¬ z < 0) {cap : Nat} (hcap : z.toNatClampNeg ≤ cap) (hb : cap * 8 ≤ 536870912) (hc2 : cells + 1 = c2) (hs2 : slots + cap = s2) (hc : c2 ≤ R.cells) (hl : s2 ≤ R.slots) (hq : pc + 2 = q)
    (K : ∀ a T' h' cA, a = h.size → C.s.heap.size ≤ a → On l Z ws R own nm bytes maxL ret C T' h' c2 s2 → Ext h h' → Arr Z h' a (newA cA (newarray.typeOf aty) z) (newarray.typeOf aty) → Go C ws Q k n (T'.setTop (mkF C.m q Ls (.ref a :: st)))) : Go C ws Q k n (T.setTop (mkF C.m pc Ls (.int z :: st))) := by
  obtain ⟨⟨hx, hZ, rfl, r1, hown, r2⟩, ⟨_, X, N⟩, eT⟩ := O; subst hq hc2 hs2
  obtain ⟨T', h', cA, X', e', E, A, stp⟩ := Jvm.RoadKit.newP X hx hZ w eT (g := mkF C.m pc Ls (.int z :: st)) rfl hd rfl hn hcap hb hc hl
  exact (K _ T' h' cA rfl (eT ▸ X.same.2.1) ⟨⟨hx, hZ, rfl, r1, hown, r2⟩, ⟨_, X', N⟩, e'⟩ E A).of fun _ kk => stp _ kk
theorem initO (O : On l Z ws R own nm bytes maxL ret C T h cells slots) {i : Nat} {a : Addr} (hd : decode bytes pc = .ok (.invokespecial i, 3)) (w1 : (Cond.methodLink own i Lib.objectInit).before a0 Z = true) (w2 : (Cond.instanceMethod Lib.objectInit).before a0 Z = true) (w3 : (Cond.code Lib.objectInit ⟨#[0xb1]⟩ 1 none).before a0 Z = true) (hsz : Ls.size = maxL) (hf : 1 ≤ R.frames) {W : Nat} (hW : (st.map fun v => v.category).sum ≤ W) (hl : W + 12 ≤ R.locals) (hq : pc + 3 = q)
    (K : ∀ T', On l Z ws R own nm bytes maxL ret C T' h cells slots → Go C ws Q k n (T'.setTop (mkF C.m q Ls st))) : Go C ws Q k n (T.setTop (mkF C.m pc Ls (.ref a :: st))) := by
  obtain ⟨⟨hx, hZ, rfl, r1, hown, r2⟩, ⟨_, X, N⟩, eT⟩ := O; subst hq
  obtain ⟨T', X', e', stp⟩ := Jvm.RoadKit.initO X hx hZ hown w1 w2 w3 eT (g := mkF C.m pc Ls (.ref a :: st)) rfl (hsz.trans r1.symm) rfl hd hf (W := W) (by show 2 * 0 + _ ≤ _; rw [Nat.mul_zero, Nat.zero_add]; exact hW) hl
  exact (K T' ⟨⟨hx, hZ, rfl, r1, hown, r2⟩, ⟨_, X', N⟩, e'⟩).of fun _ kk => stp _ kk
theorem iaload (O : On l Z ws R own nm bytes maxL ret C T h cells slots) {a : Addr} {cl : Cell} {j : Int32} {v : Value} (hd : decode bytes pc = .ok (.iaload, 1)) (A : Arr Z h a cl .int) (hin : ¬ (j < 0 ∨ cl.slots.size ≤ j.toNatClampNeg)) (hv : cl.slots[j.toNatClampNeg]? = some v) (hq : pc + 1 = q)
    (K : Go C ws Q k n (T.setTop (mkF C.m q Ls (v :: st)))) : Go C ws Q k n (T.setTop (mkF C.m pc Ls (.int j :: .ref a :: st))) := by
  obtain ⟨⟨hx, hZ, rfl, -⟩, ⟨_, X, N⟩, eT⟩ := O; subst hq
  exact K.of fun _ kk => X.iaload hx (by rw [eT]; exact A.1) (State.isArrayOf_alike hZ.alike A.2.1) A.2.2 hin hv (g := mkF C.m pc Ls (.int j :: .ref a :: st)) rfl rfl hd _ kk
theorem laload (O : On l Z ws R own nm bytes maxL ret C T h cells slots) {a : Addr} {cl : Cell} {j : Int32} {v : Value} (hd : decode bytes pc = .ok (.laload, 1)) (A : Arr Z h a cl .long) (hin : ¬ (j < 0 ∨ cl.slots.size ≤ j.toNatClampNeg)) (hv : cl.slots[j.toNatClampNeg]? = some v) (hq : pc + 1 = q)
    (K : Go C ws Q k n (T.setTop (mkF C.m q Ls (v :: st)))) : Go C ws Q k n (T.setTop (mkF C.m pc Ls (.int j :: .ref a :: st))) := by
  obtain ⟨⟨hx, hZ, rfl, -⟩, ⟨_, X, N⟩, eT⟩ := O; subst hq
  exact K.of fun _ kk => X.laload hx (by rw [eT]; exact A.1) (State.isArrayOf_alike hZ.alike A.2.1) A.2.2 hin hv (g := mkF C.m pc Ls (.int j :: .ref a :: st)) rfl rfl hd _ kk
theorem baload (O : On l Z ws R own nm bytes maxL ret C T h cells slots) {a : Addr} {cl : Cell} {j : Int32} {v : Value} (hd : decode bytes pc = .ok (.baload, 1)) (A : Arr Z h a cl .byte) (hin : ¬ (j < 0 ∨ cl.slots.size ≤ j.toNatClampNeg)) (hv : cl.slots[j.toNatClampNeg]? = some v) (hq : pc + 1 = q)
    (K : Go C ws Q k n (T.setTop (mkF C.m q Ls (v :: st)))) : Go C ws Q k n (T.setTop (mkF C.m pc Ls (.int j :: .ref a :: st))) := by
  obtain ⟨⟨hx, hZ, rfl, -⟩, ⟨_, X, N⟩, eT⟩ := O; subst hq
  exact K.of fun _ kk => X.baloadBytes hx (by rw [eT]; exact A.1) (State.isArrayOf_alike hZ.alike A.2.1) A.2.2 hin hv (g := mkF C.m pc Ls (.int j :: .ref a :: st)) rfl rfl hd _ kk
theorem aaload (O : On l Z ws R own nm bytes maxL ret C T h cells slots) {a : Addr} {cl : Cell} {ty : FieldType} {j : Int32} {v : Value} (hd : decode bytes pc = .ok (.aaload, 1)) (A : Arr Z h a cl ty) (hty : ty.isReference = true) (hin : ¬ (j < 0 ∨ cl.slots.size ≤ j.toNatClampNeg)) (hv : cl.slots[j.toNatClampNeg]? = some v) (hq : pc + 1 = q)
    (K : Go C ws Q k n (T.setTop (mkF C.m q Ls (v :: st)))) : Go C ws Q k n (T.setTop (mkF C.m pc Ls (.int j :: .ref a :: st))) := by
  obtain ⟨⟨hx, hZ, rfl, -⟩, ⟨_, X, N⟩, eT⟩ := O; subst hq
  exact K.of fun _ kk => X.aaload hx (by rw [eT]; exact A.1) (State.isArrayOf_alike hZ.alike A.2.1) hty A.2.2 hin hv (g := mkF C.m pc Ls (.int j :: .ref a :: st)) rfl rfl hd _ kk
theorem arraylength (O : On l Z ws R own nm bytes maxL ret C T h cells slots) {a : Addr} {cl : Cell} {ty : FieldType} {z : Int32} (hd : decode bytes pc = .ok (.arraylength, 1)) (A : Arr Z h a cl ty) (hz : cl.slots.size.toInt32 = z) (hq : pc + 1 = q)
    (K : Go C ws Q k n (T.setTop (mkF C.m q Ls (.int z :: st)))) : Go C ws Q k n (T.setTop (mkF C.m pc Ls (.ref a :: st))) := by
  obtain ⟨⟨hx, hZ, rfl, -⟩, ⟨_, X, N⟩, eT⟩ := O; subst hq hz
  exact K.of fun _ kk => X.arraylength hx (by rw [eT]; exact A.1) (State.isArrayOf_alike hZ.alike A.2.1) (g := mkF C.m pc Ls (.ref a :: st)) rfl rfl hd _ kk
theorem iastore (O : On l Z ws R own nm bytes maxL ret C T h cells slots) {a : Addr} {cl : Cell} {j : Int32} {x : Int32} (hd : decode bytes pc = .ok (.iastore, 1)) (A : Arr Z h a cl .int) (hin : ¬ (j < 0 ∨ cl.slots.size ≤ j.toNatClampNeg)) (ha : a ∈ ws ∨ C.s.heap.size ≤ a) (hq : pc + 1 = q)
    (K : ∀ T' h', On l Z ws R own nm bytes maxL ret C T' h' cells slots → Wr h h' a j.toNatClampNeg (.int x) → Go C ws Q k n (T'.setTop (mkF C.m q Ls st))) : Go C ws Q k n (T.setTop (mkF C.m pc Ls (.int x :: .int j :: .ref a :: st))) := by
  obtain ⟨⟨hx, hZ, rfl, r1, hown, r2⟩, ⟨_, X, N⟩, eT⟩ := O; subst hq
  obtain ⟨T', h', X', e', W, stp⟩ := Jvm.RoadKit.stI X hx hZ eT A hin (g := mkF C.m pc Ls (.int x :: .int j :: .ref a :: st)) rfl rfl hd
  exact (K T' h' ⟨⟨hx, hZ, rfl, r1, hown, r2⟩, ⟨_, X', N.snoc ha⟩, e'⟩ W).of fun _ kk => stp _ kk
theorem lastore (O : On l Z ws R own nm bytes maxL ret C T h cells slots) {a : Addr} {cl : Cell} {j : Int32} {x : Int64} (hd : decode bytes pc = .ok (.lastore, 1)) (A : Arr Z h a cl .long) (hin : ¬ (j < 0 ∨ cl.slots.size ≤ j.toNatClampNeg)) (ha : a ∈ ws ∨ C.s.heap.size ≤ a) (hq : pc + 1 = q)
    (K : ∀ T' h', On l Z ws R own nm bytes maxL ret C T' h' cells slots → Wr h h' a j.toNatClampNeg (.long x) → Go C ws Q k n (T'.setTop (mkF C.m q Ls st))) : Go C ws Q k n (T.setTop (mkF C.m pc Ls (.long x :: .int j :: .ref a :: st))) := by
  obtain ⟨⟨hx, hZ, rfl, r1, hown, r2⟩, ⟨_, X, N⟩, eT⟩ := O; subst hq
  obtain ⟨T', h', X', e', W, stp⟩ := Jvm.RoadKit.stJ X hx hZ eT A hin (g := mkF C.m pc Ls (.long x :: .int j :: .ref a :: st)) rfl rfl hd
  exact (K T' h' ⟨⟨hx, hZ, rfl, r1, hown, r2⟩, ⟨_, X', N.snoc ha⟩, e'⟩ W).of fun _ kk => stp _ kk
theorem bastore (O : On l Z ws R own nm bytes maxL ret C T h cells slots) {a : Addr} {cl : Cell} {j : Int32} {x : Int32} (hd : decode bytes pc = .ok (.bastore, 1)) (A : Arr Z h a cl .byte) (hin : ¬ (j < 0 ∨ cl.slots.size ≤ j.toNatClampNeg)) (ha : a ∈ ws ∨ C.s.heap.size ≤ a) (hq : pc + 1 = q)
    (K : ∀ T' h', On l Z ws R own nm bytes maxL ret C T' h' cells slots → Wr h h' a j.toNatClampNeg (.int (nar .byte x)) → Go C ws Q k n (T'.setTop (mkF C.m q Ls st))) : Go C ws Q k n (T.setTop (mkF C.m pc Ls (.int x :: .int j :: .ref a :: st))) := by
  obtain ⟨⟨hx, hZ, rfl, r1, hown, r2⟩, ⟨_, X, N⟩, eT⟩ := O; subst hq
  obtain ⟨T', h', X', e', W, stp⟩ := Jvm.RoadKit.stB X hx hZ eT A hin (g := mkF C.m pc Ls (.int x :: .int j :: .ref a :: st)) rfl rfl hd
  exact (K T' h' ⟨⟨hx, hZ, rfl, r1, hown, r2⟩, ⟨_, X', N.snoc ha⟩, e'⟩ W).of fun _ kk => stp _ kk
theorem callS (O : On l Z ws R own nm bytes maxL ret C T h cells slots) {i : Nat} {y : MethodName} {yb : ByteArray} {yl : Nat} {yr : Option FieldType} {rm : Room} {argsL rest : List Value} {wsc : List Addr} {Qc : Option Value → Heap → Prop} {ps : List FieldType} {rr : Option FieldType} {W c2 s2 : Nat}
    (hd : decode bytes pc = .ok (.invokestatic i, 3)) (w1 : (Cond.methodLink own i y).before a0 Z = true) (w2 : (Cond.static y).before a0 Z = true) (w3 : (Cond.initialized y.cls).before a0 Z = true) (w4 : (Cond.code y yb yl yr).before a0 Z = true) (hy : y.cls ≠ "java/lang/invoke/MethodHandle" ∧ y.cls ≠ "java/lang/invoke/VarHandle")
    (hM : Met l Z y yb yl yr [] rm (argsL).toArray wsc h Qc) (hsz : Ls.size = maxL) (hpd : parseMethodDescriptor y.desc = some ⟨ps, rr⟩) (hlen : argsL.length = ps.length) (hst : st = argsL.reverse ++ rest) (hW : (rest.map fun v => v.category).sum ≤ W)
    (hf : rm.frames + 1 ≤ R.frames) (hl : W + (yl + 11) + rm.locals ≤ R.locals) (hc2 : cells + rm.cells = c2) (hs2 : slots + rm.slots = s2) (hcl : c2 ≤ R.cells) (hsl : s2 ≤ R.slots) (hws : ∀ x ∈ wsc, x ∈ ws ∨ C.s.heap.size ≤ x) (hq : pc + 3 = q)
    (K : ∀ v T' h', On l Z ws R own nm bytes maxL ret C T' h' c2 s2 → Keep h h' wsc → Qc v h' → Go C ws Q k n (T'.setTop (mkF C.m q Ls (v.toList ++ rest)))) : Go C ws Q k n (T.setTop (mkF C.m pc Ls st)) := by
  obtain ⟨⟨hx, hZ, rfl, r1, hown, r2⟩, ⟨locs, X, N⟩, eT⟩ := O; subst hq hc2 hs2
  obtain ⟨v, _, ⟨T', L', k', n'⟩, -, X', ⟨Lc, hQ, l', y', z'⟩, stp⟩ := Jvm.LawKit.callS X hx (y := y) hown (mvT hZ w1) (mvT hZ w2) (mvT hZ w3) (mvT hZ w4) hy (backOf (W := W) (Q := Post wsc rm.cells h Qc) hM hZ w4 w3 hf hl) (g := mkF C.m pc Ls st) rfl (hsz.trans r1.symm) (argsL := argsL) (rest := rest) (lenOf hpd hlen) hst (by show 2 * 0 + _ ≤ _; rw [Nat.mul_zero, Nat.zero_add]; exact hW) hd (fun _ _ => ⟨rfl, eT, hcl, hsl⟩)
  dsimp only [Pt.U, Pt.locs, Pt.cells, Pt.slots] at X' l' y' z' stp hQ
  subst l' y' z'
  obtain ⟨hF, hK, hE, hQ⟩ := hQ
  have hb : C.s.heap.size ≤ h.size := eT ▸ X.same.2.1
  exact (K v T' T'.heap ⟨⟨hx, hZ, rfl, r1, hown, r2⟩, ⟨_, X', N.app fun y hy => (hF y hy).elim (hws _) fun z => Or.inr (Nat.le_trans hb z)⟩, rfl⟩ hK hQ).of fun _ kk => stp _ kk
theorem callS0 (O : On l Z ws R own nm bytes maxL ret C T h cells slots) {i : Nat} {y : MethodName} {yb : ByteArray} {yl : Nat} {yr : Option FieldType} {rm : Room} {argsL rest : List Value} {wsc : List Addr} {Qc : Option Value → Heap → Prop} {ps : List FieldType} {rr : Option FieldType} {W c2 s2 : Nat}
    (hd : decode bytes pc = .ok (.invokestatic i, 3)) (w1 : (Cond.methodLink own i y).before a0 Z = true) (w2 : (Cond.static y).before a0 Z = true) (w3 : (Cond.initialized y.cls).before a0 Z = true) (w4 : (Cond.code y yb yl yr).before a0 Z = true) (hy : y.cls ≠ "java/lang/invoke/MethodHandle" ∧ y.cls ≠ "java/lang/invoke/VarHandle")
    (hM : Met l Z y yb yl yr [] rm (argsL).toArray wsc h Qc) (hsz : Ls.size = maxL) (hpd : parseMethodDescriptor y.desc = some ⟨ps, rr⟩) (hlen : argsL.length = ps.length) (hst : st = argsL.reverse ++ rest) (hW : (rest.map fun v => v.category).sum ≤ W)
    (hf : rm.frames + 1 ≤ R.frames) (hl : W + (yl + 11) + rm.locals ≤ R.locals) (hc2 : cells + rm.cells = c2) (hs2 : slots + rm.slots = s2) (hcl : c2 ≤ R.cells) (hsl : s2 ≤ R.slots) (hrc : rm.cells = 0) (hwc : wsc = []) (hq : pc + 3 = q)
    (K : ∀ v T', On l Z ws R own nm bytes maxL ret C T' h c2 s2 → Qc v h → Go C ws Q k n (T'.setTop (mkF C.m q Ls (v.toList ++ rest)))) : Go C ws Q k n (T.setTop (mkF C.m pc Ls st)) := by
  obtain ⟨⟨hx, hZ, rfl, r1, hown, r2⟩, ⟨locs, X, N⟩, eT⟩ := O; subst hq hc2 hs2
  obtain ⟨v, _, ⟨T', L', k', n'⟩, -, X', ⟨Lc, hQ, l', y', z'⟩, stp⟩ := Jvm.LawKit.callS X hx (y := y) hown (mvT hZ w1) (mvT hZ w2) (mvT hZ w3) (mvT hZ w4) hy (backOf (W := W) (Q := Post wsc rm.cells h Qc) hM hZ w4 w3 hf hl) (g := mkF C.m pc Ls st) rfl (hsz.trans r1.symm) (argsL := argsL) (rest := rest) (lenOf hpd hlen) hst (by show 2 * 0 + _ ≤ _; rw [Nat.mul_zero, Nat.zero_add]; exact hW) hd (fun _ _ => ⟨rfl, eT, hcl, hsl⟩)
  dsimp only [Pt.U, Pt.locs, Pt.cells, Pt.slots] at X' l' y' z' stp hQ
  subst l' y' z'
  obtain ⟨hF, hK, hE, hQ⟩ := hQ
  have hb : C.s.heap.size ≤ h.size := eT ▸ X.same.2.1
  have he : T'.heap = h := hE hrc hwc
  refine (K v T' ⟨⟨hx, hZ, rfl, r1, hown, r2⟩, ⟨_, X', N.app fun y hy => (hF y hy).elim (fun z => by rw [hwc] at z; cases z) fun z => Or.inr (Nat.le_trans hb z)⟩, he⟩ (he ▸ hQ)).of fun _ kk => stp _ kk
theorem callI (O : On l Z ws R own nm bytes maxL ret C T h cells slots) {i : Nat} {y : MethodName} {yb : ByteArray} {yl : Nat} {rm : Room} {argsL rest : List Value} {wsc : List Addr} {Qc : Option Value → Heap → Prop} {ps : List FieldType} {rr : Option FieldType} {W c2 s2 : Nat} {a : Addr}
    (hd : decode bytes pc = .ok (.invokespecial i, 3)) (hy1 : y.name = "<init>") (w1 : (Cond.methodLink own i y).before a0 Z = true) (w2 : (Cond.instanceMethod y).before a0 Z = true) (w3 : (Cond.initialized y.cls).before a0 Z = true) (w4 : (Cond.code y yb yl none).before a0 Z = true) (hy : y.cls ≠ "java/lang/invoke/MethodHandle" ∧ y.cls ≠ "java/lang/invoke/VarHandle")
    (hM : Met l Z y yb yl none [] rm (Value.ref a :: argsL).toArray wsc h Qc) (hsz : Ls.size = maxL) (hpd : parseMethodDescriptor y.desc = some ⟨ps, rr⟩) (hlen : argsL.length = ps.length) (hst : st = argsL.reverse ++ .ref a :: rest) (hW : (rest.map fun v => v.category).sum ≤ W)
    (hf : rm.frames + 1 ≤ R.frames) (hl : W + (yl + 11) + rm.locals ≤ R.locals) (hc2 : cells + rm.cells = c2) (hs2 : slots + rm.slots = s2) (hcl : c2 ≤ R.cells) (hsl : s2 ≤ R.slots) (hws : ∀ x ∈ wsc, x ∈ ws ∨ C.s.heap.size ≤ x) (hq : pc + 3 = q)
    (K : ∀ v T' h', On l Z ws R own nm bytes maxL ret C T' h' c2 s2 → Keep h h' wsc → Qc v h' → Go C ws Q k n (T'.setTop (mkF C.m q Ls (v.toList ++ rest)))) : Go C ws Q k n (T.setTop (mkF C.m pc Ls st)) := by
  obtain ⟨⟨hx, hZ, rfl, r1, hown, r2⟩, ⟨locs, X, N⟩, eT⟩ := O; subst hq hc2 hs2
  obtain ⟨v, _, ⟨T', L', k', n'⟩, -, X', ⟨Lc, hQ, l', y', z'⟩, stp⟩ := X.specialBack hx (y := y) hy1 hown (mvT hZ w1) (mvT hZ w2) (mvT hZ w4) hy (backOf (W := W) (Q := Post wsc rm.cells h Qc) hM hZ w4 w3 hf hl) (g := mkF C.m pc Ls st) rfl (hsz.trans r1.symm) (Steps.refl _) (a := a) (argsL := argsL) (rest := rest) (lenOf hpd hlen) hst (by show 2 * 0 + _ ≤ _; rw [Nat.mul_zero, Nat.zero_add]; exact hW) hd (fun _ _ => ⟨rfl, eT, hcl, hsl⟩)
  dsimp only [Pt.U, Pt.locs, Pt.cells, Pt.slots] at X' l' y' z' stp hQ
  subst l' y' z'
  obtain ⟨hF, hK, hE, hQ⟩ := hQ
  have hb : C.s.heap.size ≤ h.size := eT ▸ X.same.2.1
  exact (K v T' T'.heap ⟨⟨hx, hZ, rfl, r1, hown, r2⟩, ⟨_, X', N.app fun y hy => (hF y hy).elim (hws _) fun z => Or.inr (Nat.le_trans hb z)⟩, rfl⟩ hK hQ).via (stp)
theorem callI0 (O : On l Z ws R own nm bytes maxL ret C T h cells slots) {i : Nat} {y : MethodName} {yb : ByteArray} {yl : Nat} {rm : Room} {argsL rest : List Value} {wsc : List Addr} {Qc : Option Value → Heap → Prop} {ps : List FieldType} {rr : Option FieldType} {W c2 s2 : Nat} {a : Addr}
    (hd : decode bytes pc = .ok (.invokespecial i, 3)) (hy1 : y.name = "<init>") (w1 : (Cond.methodLink own i y).before a0 Z = true) (w2 : (Cond.instanceMethod y).before a0 Z = true) (w3 : (Cond.initialized y.cls).before a0 Z = true) (w4 : (Cond.code y yb yl none).before a0 Z = true) (hy : y.cls ≠ "java/lang/invoke/MethodHandle" ∧ y.cls ≠ "java/lang/invoke/VarHandle")
    (hM : Met l Z y yb yl none [] rm (Value.ref a :: argsL).toArray wsc h Qc) (hsz : Ls.size = maxL) (hpd : parseMethodDescriptor y.desc = some ⟨ps, rr⟩) (hlen : argsL.length = ps.length) (hst : st = argsL.reverse ++ .ref a :: rest) (hW : (rest.map fun v => v.category).sum ≤ W)
    (hf : rm.frames + 1 ≤ R.frames) (hl : W + (yl + 11) + rm.locals ≤ R.locals) (hc2 : cells + rm.cells = c2) (hs2 : slots + rm.slots = s2) (hcl : c2 ≤ R.cells) (hsl : s2 ≤ R.slots) (hrc : rm.cells = 0) (hwc : wsc = []) (hq : pc + 3 = q)
    (K : ∀ v T', On l Z ws R own nm bytes maxL ret C T' h c2 s2 → Qc v h → Go C ws Q k n (T'.setTop (mkF C.m q Ls (v.toList ++ rest)))) : Go C ws Q k n (T.setTop (mkF C.m pc Ls st)) := by
  obtain ⟨⟨hx, hZ, rfl, r1, hown, r2⟩, ⟨locs, X, N⟩, eT⟩ := O; subst hq hc2 hs2
  obtain ⟨v, _, ⟨T', L', k', n'⟩, -, X', ⟨Lc, hQ, l', y', z'⟩, stp⟩ := X.specialBack hx (y := y) hy1 hown (mvT hZ w1) (mvT hZ w2) (mvT hZ w4) hy (backOf (W := W) (Q := Post wsc rm.cells h Qc) hM hZ w4 w3 hf hl) (g := mkF C.m pc Ls st) rfl (hsz.trans r1.symm) (Steps.refl _) (a := a) (argsL := argsL) (rest := rest) (lenOf hpd hlen) hst (by show 2 * 0 + _ ≤ _; rw [Nat.mul_zero, Nat.zero_add]; exact hW) hd (fun _ _ => ⟨rfl, eT, hcl, hsl⟩)
  dsimp only [Pt.U, Pt.locs, Pt.cells, Pt.slots] at X' l' y' z' stp hQ
  subst l' y' z'
  obtain ⟨hF, hK, hE, hQ⟩ := hQ
  have hb : C.s.heap.size ≤ h.size := eT ▸ X.same.2.1
  have he : T'.heap = h := hE hrc hwc
  refine (K v T' ⟨⟨hx, hZ, rfl, r1, hown, r2⟩, ⟨_, X', N.app fun y hy => (hF y hy).elim (fun z => by rw [hwc] at z; cases z) fun z => Or.inr (Nat.le_trans hb z)⟩, he⟩ (he ▸ hQ)).via (stp)
theorem callV (O : On l Z ws R own nm bytes maxL ret C T h cells slots) {i : Nat} {y z : MethodName} {yb : ByteArray} {yl : Nat} {yr : Option FieldType} {rm : Room} {argsL rest : List Value} {wsc : List Addr} {Qc : Option Value → Heap → Prop} {ps : List FieldType} {rr : Option FieldType} {W c2 s2 : Nat} {a : Addr} {K0 : String}
    (hd : decode bytes pc = .ok (.invokevirtual i, 3)) (w1 : (Cond.methodLink own i y).before a0 Z = true) (wd : (Cond.declares y).before a0 Z = true) (ws1 : (Cond.selects K0 y z).before a0 Z = true) (hyz : y = z) (w2 : (Cond.instanceMethod z).before a0 Z = true) (w3 : (Cond.initialized z.cls).before a0 Z = true) (w4 : (Cond.code z yb yl yr).before a0 Z = true) (hy : y.cls ≠ "java/lang/invoke/MethodHandle" ∧ y.cls ≠ "java/lang/invoke/VarHandle")
    (hM : Met l Z z yb yl yr [] rm (Value.ref a :: argsL).toArray wsc h Qc) (E : Exa Z h a K0) (hsz : Ls.size = maxL) (hpd : parseMethodDescriptor y.desc = some ⟨ps, rr⟩) (hlen : argsL.length = ps.length) (hst : st = argsL.reverse ++ .ref a :: rest) (hW : (rest.map fun v => v.category).sum ≤ W)
    (hf : rm.frames + 1 ≤ R.frames) (hl : W + (yl + 11) + rm.locals ≤ R.locals) (hc2 : cells + rm.cells = c2) (hs2 : slots + rm.slots = s2) (hcl : c2 ≤ R.cells) (hsl : s2 ≤ R.slots) (hws : ∀ x ∈ wsc, x ∈ ws ∨ C.s.heap.size ≤ x) (hq : pc + 3 = q)
    (K : ∀ v T' h', On l Z ws R own nm bytes maxL ret C T' h' c2 s2 → Keep h h' wsc → Qc v h' → Go C ws Q k n (T'.setTop (mkF C.m q Ls (v.toList ++ rest)))) : Go C ws Q k n (T.setTop (mkF C.m pc Ls st)) := by
  obtain ⟨⟨hx, hZ, rfl, r1, hown, r2⟩, ⟨locs, X, N⟩, eT⟩ := O; subst hq hc2 hs2
  subst hyz
  obtain ⟨_, _, q1, -, q3⟩ := isOf hZ eT E
  obtain ⟨v, _, ⟨T', L', k', n'⟩, -, X', ⟨Lc, hQ, l', y', z'⟩, stp⟩ := X.virtualBack hx (y := y) (z := y) hown (mvT hZ w1) (mvT hZ wd) (notFace_of_selects (args := #[]) (mvT hZ ws1)) (mvT hZ ws1) (mvT hZ w2) hy (backOf (W := W) (Q := Post wsc rm.cells h Qc) hM hZ w4 w3 hf hl) q1 q3 (g := mkF C.m pc Ls st) rfl (hsz.trans r1.symm) (Steps.refl _) (argsL := argsL) (rest := rest) (lenOf hpd hlen) hst (by show 2 * 0 + _ ≤ _; rw [Nat.mul_zero, Nat.zero_add]; exact hW) hd (fun _ _ => ⟨rfl, eT, hcl, hsl⟩)
  dsimp only [Pt.U, Pt.locs, Pt.cells, Pt.slots] at X' l' y' z' stp hQ
  subst l' y' z'
  obtain ⟨hF, hK, hE, hQ⟩ := hQ
  have hb : C.s.heap.size ≤ h.size := eT ▸ X.same.2.1
  exact (K v T' T'.heap ⟨⟨hx, hZ, rfl, r1, hown, r2⟩, ⟨_, X', N.app fun y hy => (hF y hy).elim (hws _) fun z => Or.inr (Nat.le_trans hb z)⟩, rfl⟩ hK hQ).via (stp)
theorem callV0 (O : On l Z ws R own nm bytes maxL ret C T h cells slots) {i : Nat} {y z : MethodName} {yb : ByteArray} {yl : Nat} {yr : Option FieldType} {rm : Room} {argsL rest : List Value} {wsc : List Addr} {Qc : Option Value → Heap → Prop} {ps : List FieldType} {rr : Option FieldType} {W c2 s2 : Nat} {a : Addr} {K0 : String}
    (hd : decode bytes pc = .ok (.invokevirtual i, 3)) (w1 : (Cond.methodLink own i y).before a0 Z = true) (wd : (Cond.declares y).before a0 Z = true) (ws1 : (Cond.selects K0 y z).before a0 Z = true) (hyz : y = z) (w2 : (Cond.instanceMethod z).before a0 Z = true) (w3 : (Cond.initialized z.cls).before a0 Z = true) (w4 : (Cond.code z yb yl yr).before a0 Z = true) (hy : y.cls ≠ "java/lang/invoke/MethodHandle" ∧ y.cls ≠ "java/lang/invoke/VarHandle")
    (hM : Met l Z z yb yl yr [] rm (Value.ref a :: argsL).toArray wsc h Qc) (E : Exa Z h a K0) (hsz : Ls.size = maxL) (hpd : parseMethodDescriptor y.desc = some ⟨ps, rr⟩) (hlen : argsL.length = ps.length) (hst : st = argsL.reverse ++ .ref a :: rest) (hW : (rest.map fun v => v.category).sum ≤ W)
    (hf : rm.frames + 1 ≤ R.frames) (hl : W + (yl + 11) + rm.locals ≤ R.locals) (hc2 : cells + rm.cells = c2) (hs2 : slots + rm.slots = s2) (hcl : c2 ≤ R.cells) (hsl : s2 ≤ R.slots) (hrc : rm.cells = 0) (hwc : wsc = []) (hq : pc + 3 = q)
    (K : ∀ v T', On l Z ws R own nm bytes maxL ret C T' h c2 s2 → Qc v h → Go C ws Q k n (T'.setTop (mkF C.m q Ls (v.toList ++ rest)))) : Go C ws Q k n (T.setTop (mkF C.m pc Ls st)) := by
  obtain ⟨⟨hx, hZ, rfl, r1, hown, r2⟩, ⟨locs, X, N⟩, eT⟩ := O; subst hq hc2 hs2
  subst hyz
  obtain ⟨_, _, q1, -, q3⟩ := isOf hZ eT E
  obtain ⟨v, _, ⟨T', L', k', n'⟩, -, X', ⟨Lc, hQ, l', y', z'⟩, stp⟩ := X.virtualBack hx (y := y) (z := y) hown (mvT hZ w1) (mvT hZ wd) (notFace_of_selects (args := #[]) (mvT hZ ws1)) (mvT hZ ws1) (mvT hZ w2) hy (backOf (W := W) (Q := Post wsc rm.cells h Qc) hM hZ w4 w3 hf hl) q1 q3 (g := mkF C.m pc Ls st) rfl (hsz.trans r1.symm) (Steps.refl _) (argsL := argsL) (rest := rest) (lenOf hpd hlen) hst (by show 2 * 0 + _ ≤ _; rw [Nat.mul_zero, Nat.zero_add]; exact hW) hd (fun _ _ => ⟨rfl, eT, hcl, hsl⟩)
  dsimp only [Pt.U, Pt.locs, Pt.cells, Pt.slots] at X' l' y' z' stp hQ
  subst l' y' z'
  obtain ⟨hF, hK, hE, hQ⟩ := hQ
  have hb : C.s.heap.size ≤ h.size := eT ▸ X.same.2.1
  have he : T'.heap = h := hE hrc hwc
  refine (K v T' ⟨⟨hx, hZ, rfl, r1, hown, r2⟩, ⟨_, X', N.app fun y hy => (hF y hy).elim (fun z => by rw [hwc] at z; cases z) fun z => Or.inr (Nat.le_trans hb z)⟩, he⟩ (he ▸ hQ)).via (stp)
theorem tltL {x y : Int64} (h : x < y) : ifCond.holds .lt (lcmpW x y) = true ∧ ifCond.holds .ge (lcmpW x y) = false ∧ ifCond.holds .gt (lcmpW y x) = true ∧ ifCond.holds .le (lcmpW y x) = false := by
  rw [if0, if0, if0, if0]
  exact ⟨(tlt ((lw_lt x y).mpr h)).1, (tlt ((lw_lt x y).mpr h)).2.1, (tlt ((lw_gt y x).mpr h)).2.2.1, (tlt ((lw_gt y x).mpr h)).2.2.2⟩
theorem fltL {x y : Int64} (h : ¬ x < y) : ifCond.holds .lt (lcmpW x y) = false ∧ ifCond.holds .ge (lcmpW x y) = true ∧ ifCond.holds .gt (lcmpW y x) = false ∧ ifCond.holds .le (lcmpW y x) = true := by
  rw [if0, if0, if0, if0]
  have h1 : ¬ lcmpW x y < 0 := fun q => h ((lw_lt x y).mp q)
  have h2 : ¬ 0 < lcmpW y x := fun q => h ((lw_gt y x).mp q)
  exact ⟨(flt h1).1, (flt h1).2.1, (flt h2).2.2.1, (flt h2).2.2.2⟩
theorem teqL {x y : Int64} (h : x = y) : ifCond.holds .eq (lcmpW x y) = true ∧ ifCond.holds .ne (lcmpW x y) = false := by
  rw [if0, if0]; exact teq ((lw_eq x y).mpr h)
theorem feqL {x y : Int64} (h : ¬ x = y) : ifCond.holds .eq (lcmpW x y) = false ∧ ifCond.holds .ne (lcmpW x y) = true := by
  rw [if0, if0]; exact feq fun q => h ((lw_eq x y).mp q)
theorem tlt0 {x : Int32} (h : x < 0) : ifCond.holds .lt x = true ∧ ifCond.holds .ge x = false := by rw [if0, if0]; exact ⟨(tlt h).1, (tlt h).2.1⟩
theorem flt0 {x : Int32} (h : ¬ x < 0) : ifCond.holds .lt x = false ∧ ifCond.holds .ge x = true := by rw [if0, if0]; exact ⟨(flt h).1, (flt h).2.1⟩
theorem tgt0 {x : Int32} (h : 0 < x) : ifCond.holds .gt x = true ∧ ifCond.holds .le x = false := by rw [if0, if0]; exact ⟨(tlt h).2.2.1, (tlt h).2.2.2⟩
theorem fgt0 {x : Int32} (h : ¬ 0 < x) : ifCond.holds .gt x = false ∧ ifCond.holds .le x = true := by rw [if0, if0]; exact ⟨(flt h).2.2.1, (flt h).2.2.2⟩
theorem teq0 {x : Int32} (h : x = 0) : ifCond.holds .eq x = true ∧ ifCond.holds .ne x = false := by rw [if0, if0]; exact teq h
theorem feq0 {x : Int32} (h : ¬ x = 0) : ifCond.holds .eq x = false ∧ ifCond.holds .ne x = true := by rw [if0, if0]; exact feq h
end Steps
end Jvm.OwnW

namespace Jvm.OwnW
open Sem ClassFile Op Lib Jvm.Free Jvm.Stand Jvm.LawKit Jvm.RoadKit
/-- an array of n places of the kind ty; place j holds f j -/
def Ar (Z : State) (h : Heap) (a : Addr) (ty : FieldType) (n : Nat) (f : Nat → Value) : Prop := ∃ cl : Cell, Arr Z h a cl ty ∧ cl.slots.size = n ∧ n < 2147483648 ∧ ∀ j, j < n → cl.slots[j]? = some (f j)
/-- the values of a list by their places -/
def lf (vs : List Value) : Nat → Value := fun j => vs.getD j .null
def updV (f : Nat → Value) (i : Nat) (v : Value) : Nat → Value := fun j => if j = i then v else f j
section Arrs
variable {Z : State} {h h' : Heap} {a b : Addr} {ty : FieldType} {n i sl : Nat} {f g : Nat → Value} {v : Value} {ws : List Addr} {vs : List Value}
theorem Ar.lt (F : Ar Z h a ty n f) : a < h.size := by obtain ⟨_, A, -⟩ := F; exact A.lt
theorem Ar.ext (F : Ar Z h a ty n f) (E : Ext h h') : Ar Z h' a ty n f := by obtain ⟨c, A, r⟩ := F; exact ⟨c, A.ext E, r⟩
theorem Ar.keep (F : Ar Z h a ty n f) (K : Keep h h' ws) (q : a ∉ ws) : Ar Z h' a ty n f := by obtain ⟨c, A, r⟩ := F; exact ⟨c, ⟨K.2.1 a c A.1 q, A.2⟩, r⟩
theorem Ar.other (F : Ar Z h b ty n f) (W : Wr h h' a sl v) (q : b ≠ a) : Ar Z h' b ty n f := by obtain ⟨c, A, r⟩ := F; exact ⟨c, A.other W q, r⟩
theorem Ar.congr (F : Ar Z h a ty n f) (q : ∀ j, j < n → f j = g j) : Ar Z h a ty n g := by obtain ⟨c, A, r1, r2, r3⟩ := F; exact ⟨c, A, r1, r2, fun j hj => by rw [r3 j hj, q j hj]⟩
theorem Ar.small (F : Ar Z h a ty n f) : n < 2147483648 := by obtain ⟨c, A, r1, r2, r3⟩ := F; exact r2
theorem toNat_of {z : Int32} {n : Nat} (hz : z.toInt = n) : z.toNatClampNeg = n := by simp only [Int32.toNatClampNeg, hz, Int.toNat_natCast]
theorem Ar.new {k : ClassId} {z : Int32} (A : Arr Z h a (newA k ty z) ty) (hz : z.toInt = n) : Ar Z h a ty n (fun _ => defaultValue ty) := by
  have q := toNat_of hz
  refine ⟨_, A, by rw [sz_new, q], ?_, fun j hj => ?_⟩
  · have := z.toInt_lt; omega
  · simp [newA, q, hj]
theorem Ar.set (F : Ar Z h a ty n f) (W : Wr h h' a i v) (hi : i < n) : Ar Z h' a ty n (updV f i v) := by
  obtain ⟨c, A, r1, r2, r3⟩ := F
  refine ⟨_, A.same W, by rw [sz_set]; exact r1, r2, fun j hj => ?_⟩
  by_cases e : j = i
  · subst e; simp [Cell.setSlot, updV, r1, hi]
  · simp only [Cell.setSlot, updV, if_neg e]; rw [Array.getElem?_setIfInBounds_ne (Ne.symm e)]; exact r3 j hj
theorem Ar.setL (F : Ar Z h a ty n (lf vs)) (W : Wr h h' a i v) (hi : i < n) (hl : i < vs.length) : Ar Z h' a ty n (lf (vs.set i v)) := (F.set W hi).congr fun j _ => by
  simp only [updV, lf, List.getD_eq_getElem?_getD]
  by_cases e : j = i
  · subst e; simp [hl]
  · rw [if_neg e, List.getElem?_set_ne (Ne.symm e)]
theorem lf_rep (n : Nat) (d : Value) (j : Nat) (hj : j < n) : d = lf (List.replicate n d) j := by simp [lf, hj]
theorem updV_lf (L : List Value) (hi : i < L.length) : updV (lf L) i v = lf (L.set i v) := by
  funext j
  simp only [updV, lf, List.getD_eq_getElem?_getD]
  by_cases e : j = i
  · subst e; simp [hi]
  · rw [if_neg e, List.getElem?_set_ne (Ne.symm e)]
theorem fill_step (N : Nat → Value) (d : Value) (i j : Nat) : updV (fun j => if j < i then N j else d) i (N i) j = if j < i + 1 then N j else d := by
  simp only [updV]
  by_cases e : j = i
  · subst e; rw [if_pos rfl, if_pos (Nat.lt_succ_self j)]
  · rw [if_neg e]
    by_cases q : j < i
    · rw [if_pos q, if_pos (by omega)]
    · rw [if_neg q, if_neg (by omega)]
theorem Ar.of_arr {cl : Cell} (A : Arr Z h a cl ty) (hn : cl.slots.size = n) (h31 : n < 2147483648) : ∃ f, Ar Z h a ty n f :=
  ⟨fun j => cl.slots.getD j .null, cl, A, hn, h31, fun j hj => by simp [Array.getD, hn, hj]⟩
theorem staKeep {D n d : String} (F : Sta Z h D n d v) (K : Keep h h' []) : Sta Z h' D n d v := by
  obtain ⟨cf, i, k, f, st, cell, h1, h2, h3, h4, h5, r⟩ := F
  exact ⟨cf, i, k, f, st, cell, h1, h2, h3, h4, K.2.1 _ _ h5 (fun q => nomatch q), r⟩
theorem inb {z : Int32} {m : Nat} (hz : z.toInt = (i : Int)) (hm : m = n) (hi : i < n) : ¬ (z < 0 ∨ m ≤ z.toNatClampNeg) := by
  rw [toNat_of hz, Int32.lt_iff_toInt_lt, hz, hm]
  have : (0 : Int32).toInt = 0 := rfl
  rw [this]; omega
theorem len32 {m : Nat} {z : Int32} (hm : m = n) (hn : n < 2147483648) (hz : z.toInt = n) : m.toInt32 = z := by
  apply Int32.toInt_inj.mp; rw [hz, hm]; exact len_toInt hn
end Arrs
section ArrSteps
variable {l : Launch} {Z : State} {a0 : Array Value} {ws : List Addr} {R : Room} {own nm : String} {bytes : ByteArray} {maxL : Nat} {ret : Option FieldType} {C : Ctx} {T : State} {h : Heap} {cells slots k n : Nat} {Q : Option Value → Heap → Prop} {pc q : Nat} {Ls L' : Array Slot} {st : List Value}
  {a : Addr} {j : Int32} {i N : Nat} {f : Nat → Value} {v : Value} {ty : FieldType}
theorem ialA (O : On l Z ws R own nm bytes maxL ret C T h cells slots) (hd : decode bytes pc = .ok (.iaload, 1)) (V : Ar Z h a .int N f) (hj : j.toInt = (i : Int)) (hi : i < N) (hv : f i = v) (hq : pc + 1 = q)
    (K : Go C ws Q k n (T.setTop (mkF C.m q Ls (v :: st)))) : Go C ws Q k n (T.setTop (mkF C.m pc Ls (.int j :: .ref a :: st))) := by
  obtain ⟨c, A, r1, r2, r3⟩ := V
  exact iaload O hd A (inb hj r1 hi) (by rw [toNat_of hj, ← hv]; exact r3 i hi) hq K
theorem lalA (O : On l Z ws R own nm bytes maxL ret C T h cells slots) (hd : decode bytes pc = .ok (.laload, 1)) (V : Ar Z h a .long N f) (hj : j.toInt = (i : Int)) (hi : i < N) (hv : f i = v) (hq : pc + 1 = q)
    (K : Go C ws Q k n (T.setTop (mkF C.m q Ls (v :: st)))) : Go C ws Q k n (T.setTop (mkF C.m pc Ls (.int j :: .ref a :: st))) := by
  obtain ⟨c, A, r1, r2, r3⟩ := V
  exact laload O hd A (inb hj r1 hi) (by rw [toNat_of hj, ← hv]; exact r3 i hi) hq K
theorem balA (O : On l Z ws R own nm bytes maxL ret C T h cells slots) (hd : decode bytes pc = .ok (.baload, 1)) (V : Ar Z h a .byte N f) (hj : j.toInt = (i : Int)) (hi : i < N) (hv : f i = v) (hq : pc + 1 = q)
    (K : Go C ws Q k n (T.setTop (mkF C.m q Ls (v :: st)))) : Go C ws Q k n (T.setTop (mkF C.m pc Ls (.int j :: .ref a :: st))) := by
  obtain ⟨c, A, r1, r2, r3⟩ := V
  exact baload O hd A (inb hj r1 hi) (by rw [toNat_of hj, ← hv]; exact r3 i hi) hq K
theorem aalA (O : On l Z ws R own nm bytes maxL ret C T h cells slots) (hd : decode bytes pc = .ok (.aaload, 1)) (V : Ar Z h a ty N f) (hty : ty.isReference = true) (hj : j.toInt = (i : Int)) (hi : i < N) (hv : f i = v) (hq : pc + 1 = q)
    (K : Go C ws Q k n (T.setTop (mkF C.m q Ls (v :: st)))) : Go C ws Q k n (T.setTop (mkF C.m pc Ls (.int j :: .ref a :: st))) := by
  obtain ⟨c, A, r1, r2, r3⟩ := V
  exact aaload O hd A hty (inb hj r1 hi) (by rw [toNat_of hj, ← hv]; exact r3 i hi) hq K
theorem lenA (O : On l Z ws R own nm bytes maxL ret C T h cells slots) (hd : decode bytes pc = .ok (.arraylength, 1)) (V : Ar Z h a ty N f) {z : Int32} (hz : z.toInt = N) (hq : pc + 1 = q)
    (K : Go C ws Q k n (T.setTop (mkF C.m q Ls (.int z :: st)))) : Go C ws Q k n (T.setTop (mkF C.m pc Ls (.ref a :: st))) := by
  obtain ⟨c, A, r1, r2, r3⟩ := V
  exact arraylength O hd A (len32 r1 r2 hz) hq K
theorem iasA (O : On l Z ws R own nm bytes maxL ret C T h cells slots) {x : Int32} (hd : decode bytes pc = .ok (.iastore, 1)) (V : Ar Z h a .int N f) (hj : j.toInt = (i : Int)) (hi : i < N) (ha : a ∈ ws ∨ C.s.heap.size ≤ a) (hq : pc + 1 = q)
    (K : ∀ T' h', On l Z ws R own nm bytes maxL ret C T' h' cells slots → Wr h h' a i (.int x) → Go C ws Q k n (T'.setTop (mkF C.m q Ls st))) : Go C ws Q k n (T.setTop (mkF C.m pc Ls (.int x :: .int j :: .ref a :: st))) := by
  obtain ⟨c, A, r1, r2, r3⟩ := V
  exact iastore O hd A (inb hj r1 hi) ha hq fun T' h' O' W => K T' h' O' (toNat_of hj ▸ W)
theorem lasA (O : On l Z ws R own nm bytes maxL ret C T h cells slots) {x : Int64} (hd : decode bytes pc = .ok (.lastore, 1)) (V : Ar Z h a .long N f) (hj : j.toInt = (i : Int)) (hi : i < N) (ha : a ∈ ws ∨ C.s.heap.size ≤ a) (hq : pc + 1 = q)
    (K : ∀ T' h', On l Z ws R own nm bytes maxL ret C T' h' cells slots → Wr h h' a i (.long x) → Go C ws Q k n (T'.setTop (mkF C.m q Ls st))) : Go C ws Q k n (T.setTop (mkF C.m pc Ls (.long x :: .int j :: .ref a :: st))) := by
  obtain ⟨c, A, r1, r2, r3⟩ := V
  exact lastore O hd A (inb hj r1 hi) ha hq fun T' h' O' W => K T' h' O' (toNat_of hj ▸ W)
theorem basA (O : On l Z ws R own nm bytes maxL ret C T h cells slots) {x y : Int32} (hd : decode bytes pc = .ok (.bastore, 1)) (V : Ar Z h a .byte N f) (hj : j.toInt = (i : Int)) (hi : i < N) (ha : a ∈ ws ∨ C.s.heap.size ≤ a) (hy : x.toInt8.toInt32 = y) (hq : pc + 1 = q)
    (K : ∀ T' h', On l Z ws R own nm bytes maxL ret C T' h' cells slots → Wr h h' a i (.int y) → Go C ws Q k n (T'.setTop (mkF C.m q Ls st))) : Go C ws Q k n (T.setTop (mkF C.m pc Ls (.int x :: .int j :: .ref a :: st))) := by
  obtain ⟨c, A, r1, r2, r3⟩ := V
  subst hy
  exact bastore O hd A (inb hj r1 hi) ha hq fun T' h' O' W => K T' h' O' (toNat_of hj ▸ W)
theorem newA' (O : On l Z ws R own nm bytes maxL ret C T h cells slots) {aty : ArrayType} {c2 s2 : Nat} (hd : decode bytes pc = .ok (.newarray aty, 2)) (ht : newarray.typeOf aty = ty) (w : (Cond.arrayClass ty).before a0 Z = true) {z : Int32} (hz : z.toInt = N) {cap : Nat} (hcap : N ≤ cap) (hb : cap * 8 ≤ 536870912) (hc2 : cells + 1 = c2) (hs2 : slots + cap = s2) (hc : c2 ≤ R.cells) (hl : s2 ≤ R.slots) (hq : pc + 2 = q)
    (K : ∀ a T' h', a = h.size → C.s.heap.size ≤ a → On l Z ws R own nm bytes maxL ret C T' h' c2 s2 → Ext h h' → Ar Z h' a ty N (fun _ => defaultValue ty) → Go C ws Q k n (T'.setTop (mkF C.m q Ls (.ref a :: st)))) : Go C ws Q k n (T.setTop (mkF C.m pc Ls (.int z :: st))) := by
  subst ht
  refine newP O hd w ?_ (by rw [toNat_of hz]; exact hcap) hb hc2 hs2 hc hl hq fun a T' h' cA e1 e2 O' E A => K a T' h' e1 e2 O' E (Ar.new A hz)
  rw [Int32.lt_iff_toInt_lt, hz]
  have : (0 : Int32).toInt = 0 := rfl
  rw [this]; omega
end ArrSteps
end Jvm.OwnW

namespace Jvm.OwnW
open Jvm.RoadKit
theorem add32 {x y : Int32} (h1 : -2147483648 ≤ x.toInt + y.toInt) (h2 : x.toInt + y.toInt < 2147483648) : (x + y).toInt = x.toInt + y.toInt := by
  have := c_iadd x y; have := rng32 (x + y); omega
theorem sub32 {x y : Int32} (h1 : -2147483648 ≤ x.toInt - y.toInt) (h2 : x.toInt - y.toInt < 2147483648) : (x - y).toInt = x.toInt - y.toInt := by
  have := c_isub x y; have := rng32 (x - y); omega
theorem mul32 {x y : Int32} (h1 : -2147483648 ≤ x.toInt * y.toInt) (h2 : x.toInt * y.toInt < 2147483648) : (x * y).toInt = x.toInt * y.toInt := by
  have := c_imul x y; have := rng32 (x * y); omega
theorem add64 {x y : Int64} (h1 : -9223372036854775808 ≤ x.toInt + y.toInt) (h2 : x.toInt + y.toInt < 9223372036854775808) : (x + y).toInt = x.toInt + y.toInt := by
  have := c_ladd x y; have := rng64 (x + y); omega
theorem sub64 {x y : Int64} (h1 : -9223372036854775808 ≤ x.toInt - y.toInt) (h2 : x.toInt - y.toInt < 9223372036854775808) : (x - y).toInt = x.toInt - y.toInt := by
  have := c_lsub x y; have := rng64 (x - y); omega
theorem mul64 {x y : Int64} (h1 : -9223372036854775808 ≤ x.toInt * y.toInt) (h2 : x.toInt * y.toInt < 9223372036854775808) : (x * y).toInt = x.toInt * y.toInt := by
  have := c_lmul x y; have := rng64 (x * y); omega
theorem ne0_32 {z : Int32} (h : 0 < z.toInt) : z ≠ 0 := fun e => by subst e; exact absurd h (by decide)
theorem ne0_64 {z : Int64} (h : 0 < z.toInt) : z ≠ 0 := fun e => by subst e; exact absurd h (by decide)
theorem lt32 {x y : Int32} (h : x.toInt < y.toInt) : x < y := Int32.lt_iff_toInt_lt.mpr h
theorem nlt32 {x y : Int32} (h : y.toInt ≤ x.toInt) : ¬ x < y := fun q => by rw [Int32.lt_iff_toInt_lt] at q; omega
theorem lt64 {x y : Int64} (h : x.toInt < y.toInt) : x < y := Int64.lt_iff_toInt_lt.mpr h
theorem nlt64 {x y : Int64} (h : y.toInt ≤ x.toInt) : ¬ x < y := fun q => by rw [Int64.lt_iff_toInt_lt] at q; omega
theorem eq32 {x y : Int32} (h : x.toInt = y.toInt) : x = y := Int32.toInt_inj.mp h
theorem ne32 {x y : Int32} (h : x.toInt ≠ y.toInt) : ¬ x = y := fun e => h (congrArg _ e)
theorem ne64 {x y : Int64} (h : x.toInt ≠ y.toInt) : ¬ x = y := fun e => h (congrArg _ e)
/-- (s & 0x7fffffff) % z for a z above 0 -/
theorem rem_in (s z : Int32) (hz : 0 < z.toInt) : ∃ i : Nat, ((s &&& 2147483647) % z).toInt = (i : Int) ∧ (i : Int) < z.toInt := by
  have h1 := c_mask s 2147483647 31 (by decide) (by decide)
  have h2 := (c_iremV (s &&& 2147483647) z).1 (by omega) hz
  exact ⟨((s &&& 2147483647) % z).toInt.toNat, by omega, by omega⟩
theorem b8 (x : Int32) : x.toInt8.toInt32.toInt8.toInt32 = x.toInt8.toInt32 := by
  have h := c_i2b x; have h2 := c_i2b x.toInt8.toInt32
  apply Int32.toInt_inj.mp; omega
theorem lf_int (L : List Int32) (j : Nat) (hj : j < L.length) : lf (L.map Value.int) j = .int (L.getD j 0) := by
  simp [lf, List.getD_eq_getElem?_getD, hj]
theorem lf_long (L : List Int64) (j : Nat) (hj : j < L.length) : lf (L.map Value.long) j = .long (L.getD j 0) := by
  simp [lf, List.getD_eq_getElem?_getD, hj]
end Jvm.OwnW

namespace Jvm.Pilot.@@N@@
open Jvm Jvm.ClassFile Sem Op Lib Jvm.Free Jvm.Stand Jvm.LawKit Jvm.RoadKit Bundle Jvm.OwnW Jvm.Pilot.@@N@@.Jvm.D

theorem dp_0 : decode method_3_code 0 = .ok (.lload_n 0, 1) := by decide +kernel
theorem dp_1 : decode method_3_code 1 = .ok (.bipush 9, 2) := by decide +kernel
theorem dp_3 : decode method_3_code 3 = .ok (.iload_n 2, 1) := by decide +kernel
theorem dp_4 : decode method_3_code 4 = .ok (.imul, 1) := by decide +kernel
theorem dp_5 : decode method_3_code 5 = .ok (.lushr, 1) := by decide +kernel
theorem dp_6 : decode method_3_code 6 = .ok (.lstore_n 3, 1) := by decide +kernel
theorem dp_7 : decode method_3_code 7 = .ok (.lload_n 3, 1) := by decide +kernel
theorem dp_8 : decode method_3_code 8 = .ok (.lconst 1, 1) := by decide +kernel
theorem dp_9 : decode method_3_code 9 = .ok (.land, 1) := by decide +kernel
theorem dp_10 : decode method_3_code 10 = .ok (.lconst 0, 1) := by decide +kernel
theorem dp_11 : decode method_3_code 11 = .ok (.lcmp, 1) := by decide +kernel
theorem dp_12 : decode method_3_code 12 = .ok (.ifCond .eq 6, 3) := by decide +kernel
theorem dp_15 : decode method_3_code 15 = .ok (.bipush 124, 2) := by decide +kernel
theorem dp_17 : decode method_3_code 17 = .ok (.ireturn, 1) := by decide +kernel
theorem dp_18 : decode method_3_code 18 = .ok (.lload_n 3, 1) := by decide +kernel
theorem dp_19 : decode method_3_code 19 = .ok (.iconst 1, 1) := by decide +kernel
theorem dp_20 : decode method_3_code 20 = .ok (.lushr, 1) := by decide +kernel
theorem dp_21 : decode method_3_code 21 = .ok (.l2i, 1) := by decide +kernel
theorem dp_22 : decode method_3_code 22 = .ok (.i2b, 1) := by decide +kernel
theorem dp_23 : decode method_3_code 23 = .ok (.ireturn, 1) := by decide +kernel
def fn_p (p1 : Int64) (p2 : Int32) : Int32 := (if (((p1.toUInt64 >>> (((9 : Int32) * p2) &&& 0x3f).toInt64.toUInt64).toInt64) &&& (1 : Int64)) = (0 : Int64) then ((((p1.toUInt64 >>> (((9 : Int32) * p2) &&& 0x3f).toInt64.toUInt64).toInt64).toUInt64 >>> ((1 : Int32) &&& 0x3f).toInt64.toUInt64).toInt64).toInt32.toInt8.toInt32 else (124 : Int32))
theorem ef_p (p1 : Int64) (p2 : Int32) (m : MethodId) : entryFrame m #[(.long p1), (.int p2)] 5 = mkF m 0 #[.val (.long p1), .second, .val (.int p2), .unset, .unset] [] := by first | (simp [entryFrame, mkF, argsToLocals, Value.category, maxLocals]; done) | rfl
theorem pn_p : plainFor (⟨"com/example/lamina/lamina/table/DelimitedLineSplitPinLaw", "pick", "(JI)B"⟩ : MethodName) = true := by first | exact plainFor_of_name (by first | (simp [plainName, overriddenIn]; done) | decide +kernel) | decide +kernel
set_option maxRecDepth 65536 in
set_option maxHeartbeats 40000000 in
theorem rm_p (l : Launch) (Z : State) (a0 : Array Value) (hw : ∀ d ∈ tables_1, d.before a0 Z = true) (p1 : Int64) (p2 : Int32) (h0 : Heap)  :
    Met l Z (⟨"com/example/lamina/lamina/table/DelimitedLineSplitPinLaw", "pick", "(JI)B"⟩ : MethodName) method_3_code 5 (some .byte) [] ({ frames := 0, cells := 0, slots := 0, locals := 0 } : Room) #[(.long p1), (.int p2)] [] h0 (fun v h => v = some (Value.int (fn_p p1 p2))) := by
  refine Met.mk pn_p (ef_p p1 p2) ?_
  intro C T hs0 O
  show Go C [] (fun v h => v = some (Value.int (fn_p p1 p2))) 0 0 (T.setTop (mkF C.m 0 #[.val (.long p1), .second, .val (.int p2), .unset, .unset] []))
  refine Jvm.OwnW.lloadN O dp_0 rfl (q := 1) rfl ?_
  refine Jvm.OwnW.bipush O dp_1 (r := (9 : Int32)) rfl (q := 3) rfl ?_
  refine Jvm.OwnW.iloadN O dp_3 rfl (q := 4) rfl ?_
  refine Jvm.OwnW.imul O dp_4 rfl (q := 5) rfl ?_
  refine Jvm.OwnW.lushr O dp_5 rfl (q := 6) rfl ?_
  refine Jvm.OwnW.lstoreN O dp_6 (L' := #[.val (.long p1), .second, .val (.int p2), .val (.long ((p1.toUInt64 >>> (((9 : Int32) * p2) &&& 0x3f).toInt64.toUInt64).toInt64)), .second]) rfl (q := 7) rfl ?_
  refine Jvm.OwnW.lloadN O dp_7 rfl (q := 8) rfl ?_
  refine Jvm.OwnW.lconst O dp_8 (r := (1 : Int64)) rfl (q := 9) rfl ?_
  refine Jvm.OwnW.land O dp_9 rfl (q := 10) rfl ?_
  refine Jvm.OwnW.lconst O dp_10 (r := (0 : Int64)) rfl (q := 11) rfl ?_
  refine Jvm.OwnW.lcmp O dp_11 rfl (q := 12) rfl ?_
  by_cases hc12 : (((p1.toUInt64 >>> (((9 : Int32) * p2) &&& 0x3f).toInt64.toUInt64).toInt64) &&& (1 : Int64)) = (0 : Int64)
  · refine Jvm.OwnW.ifYes O dp_12 (teqL hc12).1 (by decide) (q := 18) rfl ?_
    refine Jvm.OwnW.lloadN O dp_18 rfl (q := 19) rfl ?_
    refine Jvm.OwnW.iconst O dp_19 (r := (1 : Int32)) rfl (q := 20) rfl ?_
    refine Jvm.OwnW.lushr O dp_20 rfl (q := 21) rfl ?_
    refine Jvm.OwnW.l2i O dp_21 rfl (q := 22) rfl ?_
    refine Jvm.OwnW.i2b O dp_22 rfl (q := 23) rfl ?_
    exact Jvm.OwnW.retY O dp_23 rfl (b8 _) (by decide) (by decide) (by show some (Value.int ((((p1.toUInt64 >>> (((9 : Int32) * p2) &&& 0x3f).toInt64.toUInt64).toInt64).toUInt64 >>> ((1 : Int32) &&& 0x3f).toInt64.toUInt64).toInt64).toInt32.toInt8.toInt32) = some (Value.int (fn_p p1 p2)); rw [fn_p, if_pos hc12])
  · refine Jvm.OwnW.ifNo O dp_12 (feqL hc12).1 (q := 15) rfl ?_
    refine Jvm.OwnW.bipush O dp_15 (r := (124 : Int32)) rfl (q := 17) rfl ?_
    exact Jvm.OwnW.retY O dp_17 rfl rfl (by decide) (by decide) (by show some (Value.int (124 : Int32)) = some (Value.int (fn_p p1 p2)); rw [fn_p, if_neg hc12])
theorem own_b (p1 : Int64) (p2 : Int32) : (fn_p p1 p2).toInt8.toInt32 = fn_p p1 p2 := by
  rw [fn_p]; split
  · exact b8 _
  · rfl
theorem df_0 : decode method_4_code 0 = .ok (.iload_n 0, 1) := by decide +kernel
theorem df_1 : decode method_4_code 1 = .ok (.newarray .int, 2) := by decide +kernel
theorem df_3 : decode method_4_code 3 = .ok (.astore_n 1, 1) := by decide +kernel
theorem df_4 : decode method_4_code 4 = .ok (.iload_n 0, 1) := by decide +kernel
theorem df_5 : decode method_4_code 5 = .ok (.ifCond .le 8, 3) := by decide +kernel
theorem df_8 : decode method_4_code 8 = .ok (.aload_n 1, 1) := by decide +kernel
theorem df_9 : decode method_4_code 9 = .ok (.iconst 0, 1) := by decide +kernel
theorem df_10 : decode method_4_code 10 = .ok (.bipush (-7), 2) := by decide +kernel
theorem df_12 : decode method_4_code 12 = .ok (.iastore, 1) := by decide +kernel
theorem df_13 : decode method_4_code 13 = .ok (.iload_n 0, 1) := by decide +kernel
theorem df_14 : decode method_4_code 14 = .ok (.iconst 1, 1) := by decide +kernel
theorem df_15 : decode method_4_code 15 = .ok (.if_icmp .le 8, 3) := by decide +kernel
theorem df_18 : decode method_4_code 18 = .ok (.aload_n 1, 1) := by decide +kernel
theorem df_19 : decode method_4_code 19 = .ok (.iconst 1, 1) := by decide +kernel
theorem df_20 : decode method_4_code 20 = .ok (.bipush (-7), 2) := by decide +kernel
theorem df_22 : decode method_4_code 22 = .ok (.iastore, 1) := by decide +kernel
theorem df_23 : decode method_4_code 23 = .ok (.iload_n 0, 1) := by decide +kernel
theorem df_24 : decode method_4_code 24 = .ok (.iconst 2, 1) := by decide +kernel
theorem df_25 : decode method_4_code 25 = .ok (.if_icmp .le 8, 3) := by decide +kernel
theorem df_28 : decode method_4_code 28 = .ok (.aload_n 1, 1) := by decide +kernel
theorem df_29 : decode method_4_code 29 = .ok (.iconst 2, 1) := by decide +kernel
theorem df_30 : decode method_4_code 30 = .ok (.bipush (-7), 2) := by decide +kernel
theorem df_32 : decode method_4_code 32 = .ok (.iastore, 1) := by decide +kernel
theorem df_33 : decode method_4_code 33 = .ok (.iload_n 0, 1) := by decide +kernel
theorem df_34 : decode method_4_code 34 = .ok (.iconst 3, 1) := by decide +kernel
theorem df_35 : decode method_4_code 35 = .ok (.if_icmp .le 8, 3) := by decide +kernel
theorem df_38 : decode method_4_code 38 = .ok (.aload_n 1, 1) := by decide +kernel
theorem df_39 : decode method_4_code 39 = .ok (.iconst 3, 1) := by decide +kernel
theorem df_40 : decode method_4_code 40 = .ok (.bipush (-7), 2) := by decide +kernel
theorem df_42 : decode method_4_code 42 = .ok (.iastore, 1) := by decide +kernel
theorem df_43 : decode method_4_code 43 = .ok (.iload_n 0, 1) := by decide +kernel
theorem df_44 : decode method_4_code 44 = .ok (.iconst 4, 1) := by decide +kernel
theorem df_45 : decode method_4_code 45 = .ok (.if_icmp .le 8, 3) := by decide +kernel
theorem df_48 : decode method_4_code 48 = .ok (.aload_n 1, 1) := by decide +kernel
theorem df_49 : decode method_4_code 49 = .ok (.iconst 4, 1) := by decide +kernel
theorem df_50 : decode method_4_code 50 = .ok (.bipush (-7), 2) := by decide +kernel
theorem df_52 : decode method_4_code 52 = .ok (.iastore, 1) := by decide +kernel
theorem df_53 : decode method_4_code 53 = .ok (.iload_n 0, 1) := by decide +kernel
theorem df_54 : decode method_4_code 54 = .ok (.iconst 5, 1) := by decide +kernel
theorem df_55 : decode method_4_code 55 = .ok (.if_icmp .le 8, 3) := by decide +kernel
theorem df_58 : decode method_4_code 58 = .ok (.aload_n 1, 1) := by decide +kernel
theorem df_59 : decode method_4_code 59 = .ok (.iconst 5, 1) := by decide +kernel
theorem df_60 : decode method_4_code 60 = .ok (.bipush (-7), 2) := by decide +kernel
theorem df_62 : decode method_4_code 62 = .ok (.iastore, 1) := by decide +kernel
theorem df_63 : decode method_4_code 63 = .ok (.iload_n 0, 1) := by decide +kernel
theorem df_64 : decode method_4_code 64 = .ok (.bipush 6, 2) := by decide +kernel
theorem df_66 : decode method_4_code 66 = .ok (.if_icmp .le 9, 3) := by decide +kernel
theorem df_69 : decode method_4_code 69 = .ok (.aload_n 1, 1) := by decide +kernel
theorem df_70 : decode method_4_code 70 = .ok (.bipush 6, 2) := by decide +kernel
theorem df_72 : decode method_4_code 72 = .ok (.bipush (-7), 2) := by decide +kernel
theorem df_74 : decode method_4_code 74 = .ok (.iastore, 1) := by decide +kernel
theorem df_75 : decode method_4_code 75 = .ok (.aload_n 1, 1) := by decide +kernel
theorem df_76 : decode method_4_code 76 = .ok (.areturn, 1) := by decide +kernel
theorem ef_f (p1 : Int32) (m : MethodId) : entryFrame m #[(.int p1)] 2 = mkF m 0 #[.val (.int p1), .unset] [] := by first | (simp [entryFrame, mkF, argsToLocals, Value.category, maxLocals]; done) | rfl
theorem pn_f : plainFor (⟨"com/example/lamina/lamina/table/DelimitedLineSplitPinLaw", "filled", "(I)[I"⟩ : MethodName) = true := by first | exact plainFor_of_name (by first | (simp [plainName, overriddenIn]; done) | decide +kernel) | decide +kernel
set_option maxRecDepth 65536 in
set_option maxHeartbeats 40000000 in
theorem rm_f (l : Launch) (Z : State) (a0 : Array Value) (hw : ∀ d ∈ tables_1, d.before a0 Z = true) (p1 : Int32) (n : Nat) (h0 : Heap) (hn : p1.toInt = (n : Int)) (h7 : n ≤ 7) :
    Met l Z (⟨"com/example/lamina/lamina/table/DelimitedLineSplitPinLaw", "filled", "(I)[I"⟩ : MethodName) method_4_code 2 (some (.array .int)) [] ({ frames := 0, cells := 1, slots := 7, locals := 0 } : Room) #[(.int p1)] [] h0 (fun v h => ∃ a, v = some (.ref a) ∧ h0.size ≤ a ∧ Ar Z h a .int n (fun _ => .int (-7))) := by
  refine Met.mk pn_f (ef_f p1) ?_
  intro C T hs0 O
  show Go C [] (fun v h => ∃ a, v = some (.ref a) ∧ h0.size ≤ a ∧ Ar Z h a .int n (fun _ => .int (-7))) 1 7 (T.setTop (mkF C.m 0 #[.val (.int p1), .unset] []))
  have hn8 : n = 0 ∨ n = 1 ∨ n = 2 ∨ n = 3 ∨ n = 4 ∨ n = 5 ∨ n = 6 ∨ n = 7 := by omega
  rcases hn8 with rfl | rfl | rfl | rfl | rfl | rfl | rfl | rfl
  · skip
    obtain rfl : p1 = (0 : Int32) := eq32 hn
    refine Jvm.OwnW.iloadN O df_0 rfl (q := 1) rfl ?_
    refine Jvm.OwnW.newA' O df_1 (ty := .int) rfl (hw _ (List.mem_of_getElem? (i := 9) rfl)) (N := 0) rfl (cap := 0) (by decide) (by decide) (c2 := 1) (s2 := 0) rfl rfl (by decide) (by decide) (q := 3) rfl ?_
    intro a1 T1 h1 g1 N1 O1 X1 V_a1
    have V_a1 : Ar Z h1 a1 .int 0 (lf []) := V_a1.congr (lf_rep 0 _)
    refine Jvm.OwnW.astoreN O1 df_3 rfl (L' := #[.val (.int (0 : Int32)), .val (.ref a1)]) rfl (q := 4) rfl ?_
    refine Jvm.OwnW.iloadN O1 df_4 rfl (q := 5) rfl ?_
    refine Jvm.OwnW.ifYes O1 df_5 (fgt0 (show ¬ ((0 : Int32) < (0 : Int32)) from (by decide))).2 (by decide) (q := 13) rfl ?_
    refine Jvm.OwnW.iloadN O1 df_13 rfl (q := 14) rfl ?_
    refine Jvm.OwnW.iconst O1 df_14 (r := (1 : Int32)) rfl (q := 15) rfl ?_
    refine Jvm.OwnW.icmpYes O1 df_15 (flt (show ¬ ((1 : Int32) < (0 : Int32)) from (by decide))).2.2.2 (by decide) (q := 23) rfl ?_
    refine Jvm.OwnW.iloadN O1 df_23 rfl (q := 24) rfl ?_
    refine Jvm.OwnW.iconst O1 df_24 (r := (2 : Int32)) rfl (q := 25) rfl ?_
    refine Jvm.OwnW.icmpYes O1 df_25 (flt (show ¬ ((2 : Int32) < (0 : Int32)) from (by decide))).2.2.2 (by decide) (q := 33) rfl ?_
    refine Jvm.OwnW.iloadN O1 df_33 rfl (q := 34) rfl ?_
    refine Jvm.OwnW.iconst O1 df_34 (r := (3 : Int32)) rfl (q := 35) rfl ?_
    refine Jvm.OwnW.icmpYes O1 df_35 (flt (show ¬ ((3 : Int32) < (0 : Int32)) from (by decide))).2.2.2 (by decide) (q := 43) rfl ?_
    refine Jvm.OwnW.iloadN O1 df_43 rfl (q := 44) rfl ?_
    refine Jvm.OwnW.iconst O1 df_44 (r := (4 : Int32)) rfl (q := 45) rfl ?_
    refine Jvm.OwnW.icmpYes O1 df_45 (flt (show ¬ ((4 : Int32) < (0 : Int32)) from (by decide))).2.2.2 (by decide) (q := 53) rfl ?_
    refine Jvm.OwnW.iloadN O1 df_53 rfl (q := 54) rfl ?_
    refine Jvm.OwnW.iconst O1 df_54 (r := (5 : Int32)) rfl (q := 55) rfl ?_
    refine Jvm.OwnW.icmpYes O1 df_55 (flt (show ¬ ((5 : Int32) < (0 : Int32)) from (by decide))).2.2.2 (by decide) (q := 63) rfl ?_
    refine Jvm.OwnW.iloadN O1 df_63 rfl (q := 64) rfl ?_
    refine Jvm.OwnW.bipush O1 df_64 (r := (6 : Int32)) rfl (q := 66) rfl ?_
    refine Jvm.OwnW.icmpYes O1 df_66 (flt (show ¬ ((6 : Int32) < (0 : Int32)) from (by decide))).2.2.2 (by decide) (q := 75) rfl ?_
    refine Jvm.OwnW.aloadN O1 df_75 rfl rfl (q := 76) rfl ?_
    exact Jvm.OwnW.retA O1 df_76 rfl rfl rfl (by decide) (by decide) ⟨_, rfl, hs0 ▸ N1, V_a1.congr (fun j hj => (lf_rep 0 _ j hj).symm)⟩
  · skip
    obtain rfl : p1 = (1 : Int32) := eq32 hn
    refine Jvm.OwnW.iloadN O df_0 rfl (q := 1) rfl ?_
    refine Jvm.OwnW.newA' O df_1 (ty := .int) rfl (hw _ (List.mem_of_getElem? (i := 9) rfl)) (N := 1) rfl (cap := 1) (by decide) (by decide) (c2 := 1) (s2 := 1) rfl rfl (by decide) (by decide) (q := 3) rfl ?_
    intro a2 T2 h2 g2 N2 O2 X2 V_a2
    have V_a2 : Ar Z h2 a2 .int 1 (lf [(.int (0 : Int32))]) := V_a2.congr (lf_rep 1 _)
    refine Jvm.OwnW.astoreN O2 df_3 rfl (L' := #[.val (.int (1 : Int32)), .val (.ref a2)]) rfl (q := 4) rfl ?_
    refine Jvm.OwnW.iloadN O2 df_4 rfl (q := 5) rfl ?_
    refine Jvm.OwnW.ifNo O2 df_5 (tgt0 (show (0 : Int32) < (1 : Int32) from (by decide))).2 (q := 8) rfl ?_
    refine Jvm.OwnW.aloadN O2 df_8 rfl rfl (q := 9) rfl ?_
    refine Jvm.OwnW.iconst O2 df_9 (r := (0 : Int32)) rfl (q := 10) rfl ?_
    refine Jvm.OwnW.bipush O2 df_10 (r := (-7 : Int32)) rfl (q := 12) rfl ?_
    refine Jvm.OwnW.iasA O2 df_12 V_a2 (i := 0) rfl (by decide) (Or.inr N2) (q := 13) rfl ?_
    intro T3 h3 O3 W3
    have V_a2 : Ar Z h3 a2 .int 1 (lf [(.int (-7 : Int32))]) := V_a2.setL W3 (by decide) (Nat.le_of_ble_eq_true rfl)
    refine Jvm.OwnW.iloadN O3 df_13 rfl (q := 14) rfl ?_
    refine Jvm.OwnW.iconst O3 df_14 (r := (1 : Int32)) rfl (q := 15) rfl ?_
    refine Jvm.OwnW.icmpYes O3 df_15 (flt (show ¬ ((1 : Int32) < (1 : Int32)) from (by decide))).2.2.2 (by decide) (q := 23) rfl ?_
    refine Jvm.OwnW.iloadN O3 df_23 rfl (q := 24) rfl ?_
    refine Jvm.OwnW.iconst O3 df_24 (r := (2 : Int32)) rfl (q := 25) rfl ?_
    refine Jvm.OwnW.icmpYes O3 df_25 (flt (show ¬ ((2 : Int32) < (1 : Int32)) from (by decide))).2.2.2 (by decide) (q := 33) rfl ?_
    refine Jvm.OwnW.iloadN O3 df_33 rfl (q := 34) rfl ?_
    refine Jvm.OwnW.iconst O3 df_34 (r := (3 : Int32)) rfl (q := 35) rfl ?_
    refine Jvm.OwnW.icmpYes O3 df_35 (flt (show ¬ ((3 : Int32) < (1 : Int32)) from (by decide))).2.2.2 (by decide) (q := 43) rfl ?_
    refine Jvm.OwnW.iloadN O3 df_43 rfl (q := 44) rfl ?_
    refine Jvm.OwnW.iconst O3 df_44 (r := (4 : Int32)) rfl (q := 45) rfl ?_
    refine Jvm.OwnW.icmpYes O3 df_45 (flt (show ¬ ((4 : Int32) < (1 : Int32)) from (by decide))).2.2.2 (by decide) (q := 53) rfl ?_
    refine Jvm.OwnW.iloadN O3 df_53 rfl (q := 54) rfl ?_
    refine Jvm.OwnW.iconst O3 df_54 (r := (5 : Int32)) rfl (q := 55) rfl ?_
    refine Jvm.OwnW.icmpYes O3 df_55 (flt (show ¬ ((5 : Int32) < (1 : Int32)) from (by decide))).2.2.2 (by decide) (q := 63) rfl ?_
    refine Jvm.OwnW.iloadN O3 df_63 rfl (q := 64) rfl ?_
    refine Jvm.OwnW.bipush O3 df_64 (r := (6 : Int32)) rfl (q := 66) rfl ?_
    refine Jvm.OwnW.icmpYes O3 df_66 (flt (show ¬ ((6 : Int32) < (1 : Int32)) from (by decide))).2.2.2 (by decide) (q := 75) rfl ?_
    refine Jvm.OwnW.aloadN O3 df_75 rfl rfl (q := 76) rfl ?_
    exact Jvm.OwnW.retA O3 df_76 rfl rfl rfl (by decide) (by decide) ⟨_, rfl, hs0 ▸ N2, V_a2.congr (fun j hj => (lf_rep 1 _ j hj).symm)⟩
  · skip
    obtain rfl : p1 = (2 : Int32) := eq32 hn
    refine Jvm.OwnW.iloadN O df_0 rfl (q := 1) rfl ?_
    refine Jvm.OwnW.newA' O df_1 (ty := .int) rfl (hw _ (List.mem_of_getElem? (i := 9) rfl)) (N := 2) rfl (cap := 2) (by decide) (by decide) (c2 := 1) (s2 := 2) rfl rfl (by decide) (by decide) (q := 3) rfl ?_
    intro a4 T4 h4 g4 N4 O4 X4 V_a4
    have V_a4 : Ar Z h4 a4 .int 2 (lf [(.int (0 : Int32)), (.int (0 : Int32))]) := V_a4.congr (lf_rep 2 _)
    refine Jvm.OwnW.astoreN O4 df_3 rfl (L' := #[.val (.int (2 : Int32)), .val (.ref a4)]) rfl (q := 4) rfl ?_
    refine Jvm.OwnW.iloadN O4 df_4 rfl (q := 5) rfl ?_
    refine Jvm.OwnW.ifNo O4 df_5 (tgt0 (show (0 : Int32) < (2 : Int32) from (by decide))).2 (q := 8) rfl ?_
    refine Jvm.OwnW.aloadN O4 df_8 rfl rfl (q := 9) rfl ?_
    refine Jvm.OwnW.iconst O4 df_9 (r := (0 : Int32)) rfl (q := 10) rfl ?_
    refine Jvm.OwnW.bipush O4 df_10 (r := (-7 : Int32)) rfl (q := 12) rfl ?_
    refine Jvm.OwnW.iasA O4 df_12 V_a4 (i := 0) rfl (by decide) (Or.inr N4) (q := 13) rfl ?_
    intro T5 h5 O5 W5
    have V_a4 : Ar Z h5 a4 .int 2 (lf [(.int (-7 : Int32)), (.int (0 : Int32))]) := V_a4.setL W5 (by decide) (Nat.le_of_ble_eq_true rfl)
    refine Jvm.OwnW.iloadN O5 df_13 rfl (q := 14) rfl ?_
    refine Jvm.OwnW.iconst O5 df_14 (r := (1 : Int32)) rfl (q := 15) rfl ?_
    refine Jvm.OwnW.icmpNo O5 df_15 (tlt (show (1 : Int32) < (2 : Int32) from (by decide))).2.2.2 (q := 18) rfl ?_
    refine Jvm.OwnW.aloadN O5 df_18 rfl rfl (q := 19) rfl ?_
    refine Jvm.OwnW.iconst O5 df_19 (r := (1 : Int32)) rfl (q := 20) rfl ?_
    refine Jvm.OwnW.bipush O5 df_20 (r := (-7 : Int32)) rfl (q := 22) rfl ?_
    refine Jvm.OwnW.iasA O5 df_22 V_a4 (i := 1) rfl (by decide) (Or.inr N4) (q := 23) rfl ?_
    intro T6 h6 O6 W6
    have V_a4 : Ar Z h6 a4 .int 2 (lf [(.int (-7 : Int32)), (.int (-7 : Int32))]) := V_a4.setL W6 (by decide) (Nat.le_of_ble_eq_true rfl)
    refine Jvm.OwnW.iloadN O6 df_23 rfl (q := 24) rfl ?_
    refine Jvm.OwnW.iconst O6 df_24 (r := (2 : Int32)) rfl (q := 25) rfl ?_
    refine Jvm.OwnW.icmpYes O6 df_25 (flt (show ¬ ((2 : Int32) < (2 : Int32)) from (by decide))).2.2.2 (by decide) (q := 33) rfl ?_
    refine Jvm.OwnW.iloadN O6 df_33 rfl (q := 34) rfl ?_
    refine Jvm.OwnW.iconst O6 df_34 (r := (3 : Int32)) rfl (q := 35) rfl ?_
    refine Jvm.OwnW.icmpYes O6 df_35 (flt (show ¬ ((3 : Int32) < (2 : Int32)) from (by decide))).2.2.2 (by decide) (q := 43) rfl ?_
    refine Jvm.OwnW.iloadN O6 df_43 rfl (q := 44) rfl ?_
    refine Jvm.OwnW.iconst O6 df_44 (r := (4 : Int32)) rfl (q := 45) rfl ?_
    refine Jvm.OwnW.icmpYes O6 df_45 (flt (show ¬ ((4 : Int32) < (2 : Int32)) from (by decide))).2.2.2 (by decide) (q := 53) rfl ?_
    refine Jvm.OwnW.iloadN O6 df_53 rfl (q := 54) rfl ?_
    refine Jvm.OwnW.iconst O6 df_54 (r := (5 : Int32)) rfl (q := 55) rfl ?_
    refine Jvm.OwnW.icmpYes O6 df_55 (flt (show ¬ ((5 : Int32) < (2 : Int32)) from (by decide))).2.2.2 (by decide) (q := 63) rfl ?_
    refine Jvm.OwnW.iloadN O6 df_63 rfl (q := 64) rfl ?_
    refine Jvm.OwnW.bipush O6 df_64 (r := (6 : Int32)) rfl (q := 66) rfl ?_
    refine Jvm.OwnW.icmpYes O6 df_66 (flt (show ¬ ((6 : Int32) < (2 : Int32)) from (by decide))).2.2.2 (by decide) (q := 75) rfl ?_
    refine Jvm.OwnW.aloadN O6 df_75 rfl rfl (q := 76) rfl ?_
    exact Jvm.OwnW.retA O6 df_76 rfl rfl rfl (by decide) (by decide) ⟨_, rfl, hs0 ▸ N4, V_a4.congr (fun j hj => (lf_rep 2 _ j hj).symm)⟩
  · skip
    obtain rfl : p1 = (3 : Int32) := eq32 hn
    refine Jvm.OwnW.iloadN O df_0 rfl (q := 1) rfl ?_
    refine Jvm.OwnW.newA' O df_1 (ty := .int) rfl (hw _ (List.mem_of_getElem? (i := 9) rfl)) (N := 3) rfl (cap := 3) (by decide) (by decide) (c2 := 1) (s2 := 3) rfl rfl (by decide) (by decide) (q := 3) rfl ?_
    intro a7 T7 h7 g7 N7 O7 X7 V_a7
    have V_a7 : Ar Z h7 a7 .int 3 (lf [(.int (0 : Int32)), (.int (0 : Int32)), (.int (0 : Int32))]) := V_a7.congr (lf_rep 3 _)
    refine Jvm.OwnW.astoreN O7 df_3 rfl (L' := #[.val (.int (3 : Int32)), .val (.ref a7)]) rfl (q := 4) rfl ?_
    refine Jvm.OwnW.iloadN O7 df_4 rfl (q := 5) rfl ?_
    refine Jvm.OwnW.ifNo O7 df_5 (tgt0 (show (0 : Int32) < (3 : Int32) from (by decide))).2 (q := 8) rfl ?_
    refine Jvm.OwnW.aloadN O7 df_8 rfl rfl (q := 9) rfl ?_
    refine Jvm.OwnW.iconst O7 df_9 (r := (0 : Int32)) rfl (q := 10) rfl ?_
    refine Jvm.OwnW.bipush O7 df_10 (r := (-7 : Int32)) rfl (q := 12) rfl ?_
    refine Jvm.OwnW.iasA O7 df_12 V_a7 (i := 0) rfl (by decide) (Or.inr N7) (q := 13) rfl ?_
    intro T8 h8 O8 W8
    have V_a7 : Ar Z h8 a7 .int 3 (lf [(.int (-7 : Int32)), (.int (0 : Int32)), (.int (0 : Int32))]) := V_a7.setL W8 (by decide) (Nat.le_of_ble_eq_true rfl)
    refine Jvm.OwnW.iloadN O8 df_13 rfl (q := 14) rfl ?_
    refine Jvm.OwnW.iconst O8 df_14 (r := (1 : Int32)) rfl (q := 15) rfl ?_
    refine Jvm.OwnW.icmpNo O8 df_15 (tlt (show (1 : Int32) < (3 : Int32) from (by decide))).2.2.2 (q := 18) rfl ?_
    refine Jvm.OwnW.aloadN O8 df_18 rfl rfl (q := 19) rfl ?_
    refine Jvm.OwnW.iconst O8 df_19 (r := (1 : Int32)) rfl (q := 20) rfl ?_
    refine Jvm.OwnW.bipush O8 df_20 (r := (-7 : Int32)) rfl (q := 22) rfl ?_
    refine Jvm.OwnW.iasA O8 df_22 V_a7 (i := 1) rfl (by decide) (Or.inr N7) (q := 23) rfl ?_
    intro T9 h9 O9 W9
    have V_a7 : Ar Z h9 a7 .int 3 (lf [(.int (-7 : Int32)), (.int (-7 : Int32)), (.int (0 : Int32))]) := V_a7.setL W9 (by decide) (Nat.le_of_ble_eq_true rfl)
    refine Jvm.OwnW.iloadN O9 df_23 rfl (q := 24) rfl ?_
    refine Jvm.OwnW.iconst O9 df_24 (r := (2 : Int32)) rfl (q := 25) rfl ?_
    refine Jvm.OwnW.icmpNo O9 df_25 (tlt (show (2 : Int32) < (3 : Int32) from (by decide))).2.2.2 (q := 28) rfl ?_
    refine Jvm.OwnW.aloadN O9 df_28 rfl rfl (q := 29) rfl ?_
    refine Jvm.OwnW.iconst O9 df_29 (r := (2 : Int32)) rfl (q := 30) rfl ?_
    refine Jvm.OwnW.bipush O9 df_30 (r := (-7 : Int32)) rfl (q := 32) rfl ?_
    refine Jvm.OwnW.iasA O9 df_32 V_a7 (i := 2) rfl (by decide) (Or.inr N7) (q := 33) rfl ?_
    intro T10 h10 O10 W10
    have V_a7 : Ar Z h10 a7 .int 3 (lf [(.int (-7 : Int32)), (.int (-7 : Int32)), (.int (-7 : Int32))]) := V_a7.setL W10 (by decide) (Nat.le_of_ble_eq_true rfl)
    refine Jvm.OwnW.iloadN O10 df_33 rfl (q := 34) rfl ?_
    refine Jvm.OwnW.iconst O10 df_34 (r := (3 : Int32)) rfl (q := 35) rfl ?_
    refine Jvm.OwnW.icmpYes O10 df_35 (flt (show ¬ ((3 : Int32) < (3 : Int32)) from (by decide))).2.2.2 (by decide) (q := 43) rfl ?_
    refine Jvm.OwnW.iloadN O10 df_43 rfl (q := 44) rfl ?_
    refine Jvm.OwnW.iconst O10 df_44 (r := (4 : Int32)) rfl (q := 45) rfl ?_
    refine Jvm.OwnW.icmpYes O10 df_45 (flt (show ¬ ((4 : Int32) < (3 : Int32)) from (by decide))).2.2.2 (by decide) (q := 53) rfl ?_
    refine Jvm.OwnW.iloadN O10 df_53 rfl (q := 54) rfl ?_
    refine Jvm.OwnW.iconst O10 df_54 (r := (5 : Int32)) rfl (q := 55) rfl ?_
    refine Jvm.OwnW.icmpYes O10 df_55 (flt (show ¬ ((5 : Int32) < (3 : Int32)) from (by decide))).2.2.2 (by decide) (q := 63) rfl ?_
    refine Jvm.OwnW.iloadN O10 df_63 rfl (q := 64) rfl ?_
    refine Jvm.OwnW.bipush O10 df_64 (r := (6 : Int32)) rfl (q := 66) rfl ?_
    refine Jvm.OwnW.icmpYes O10 df_66 (flt (show ¬ ((6 : Int32) < (3 : Int32)) from (by decide))).2.2.2 (by decide) (q := 75) rfl ?_
    refine Jvm.OwnW.aloadN O10 df_75 rfl rfl (q := 76) rfl ?_
    exact Jvm.OwnW.retA O10 df_76 rfl rfl rfl (by decide) (by decide) ⟨_, rfl, hs0 ▸ N7, V_a7.congr (fun j hj => (lf_rep 3 _ j hj).symm)⟩
  · skip
    obtain rfl : p1 = (4 : Int32) := eq32 hn
    refine Jvm.OwnW.iloadN O df_0 rfl (q := 1) rfl ?_
    refine Jvm.OwnW.newA' O df_1 (ty := .int) rfl (hw _ (List.mem_of_getElem? (i := 9) rfl)) (N := 4) rfl (cap := 4) (by decide) (by decide) (c2 := 1) (s2 := 4) rfl rfl (by decide) (by decide) (q := 3) rfl ?_
    intro a11 T11 h11 g11 N11 O11 X11 V_a11
    have V_a11 : Ar Z h11 a11 .int 4 (lf [(.int (0 : Int32)), (.int (0 : Int32)), (.int (0 : Int32)), (.int (0 : Int32))]) := V_a11.congr (lf_rep 4 _)
    refine Jvm.OwnW.astoreN O11 df_3 rfl (L' := #[.val (.int (4 : Int32)), .val (.ref a11)]) rfl (q := 4) rfl ?_
    refine Jvm.OwnW.iloadN O11 df_4 rfl (q := 5) rfl ?_
    refine Jvm.OwnW.ifNo O11 df_5 (tgt0 (show (0 : Int32) < (4 : Int32) from (by decide))).2 (q := 8) rfl ?_
    refine Jvm.OwnW.aloadN O11 df_8 rfl rfl (q := 9) rfl ?_
    refine Jvm.OwnW.iconst O11 df_9 (r := (0 : Int32)) rfl (q := 10) rfl ?_
    refine Jvm.OwnW.bipush O11 df_10 (r := (-7 : Int32)) rfl (q := 12) rfl ?_
    refine Jvm.OwnW.iasA O11 df_12 V_a11 (i := 0) rfl (by decide) (Or.inr N11) (q := 13) rfl ?_
    intro T12 h12 O12 W12
    have V_a11 : Ar Z h12 a11 .int 4 (lf [(.int (-7 : Int32)), (.int (0 : Int32)), (.int (0 : Int32)), (.int (0 : Int32))]) := V_a11.setL W12 (by decide) (Nat.le_of_ble_eq_true rfl)
    refine Jvm.OwnW.iloadN O12 df_13 rfl (q := 14) rfl ?_
    refine Jvm.OwnW.iconst O12 df_14 (r := (1 : Int32)) rfl (q := 15) rfl ?_
    refine Jvm.OwnW.icmpNo O12 df_15 (tlt (show (1 : Int32) < (4 : Int32) from (by decide))).2.2.2 (q := 18) rfl ?_
    refine Jvm.OwnW.aloadN O12 df_18 rfl rfl (q := 19) rfl ?_
    refine Jvm.OwnW.iconst O12 df_19 (r := (1 : Int32)) rfl (q := 20) rfl ?_
    refine Jvm.OwnW.bipush O12 df_20 (r := (-7 : Int32)) rfl (q := 22) rfl ?_
    refine Jvm.OwnW.iasA O12 df_22 V_a11 (i := 1) rfl (by decide) (Or.inr N11) (q := 23) rfl ?_
    intro T13 h13 O13 W13
    have V_a11 : Ar Z h13 a11 .int 4 (lf [(.int (-7 : Int32)), (.int (-7 : Int32)), (.int (0 : Int32)), (.int (0 : Int32))]) := V_a11.setL W13 (by decide) (Nat.le_of_ble_eq_true rfl)
    refine Jvm.OwnW.iloadN O13 df_23 rfl (q := 24) rfl ?_
    refine Jvm.OwnW.iconst O13 df_24 (r := (2 : Int32)) rfl (q := 25) rfl ?_
    refine Jvm.OwnW.icmpNo O13 df_25 (tlt (show (2 : Int32) < (4 : Int32) from (by decide))).2.2.2 (q := 28) rfl ?_
    refine Jvm.OwnW.aloadN O13 df_28 rfl rfl (q := 29) rfl ?_
    refine Jvm.OwnW.iconst O13 df_29 (r := (2 : Int32)) rfl (q := 30) rfl ?_
    refine Jvm.OwnW.bipush O13 df_30 (r := (-7 : Int32)) rfl (q := 32) rfl ?_
    refine Jvm.OwnW.iasA O13 df_32 V_a11 (i := 2) rfl (by decide) (Or.inr N11) (q := 33) rfl ?_
    intro T14 h14 O14 W14
    have V_a11 : Ar Z h14 a11 .int 4 (lf [(.int (-7 : Int32)), (.int (-7 : Int32)), (.int (-7 : Int32)), (.int (0 : Int32))]) := V_a11.setL W14 (by decide) (Nat.le_of_ble_eq_true rfl)
    refine Jvm.OwnW.iloadN O14 df_33 rfl (q := 34) rfl ?_
    refine Jvm.OwnW.iconst O14 df_34 (r := (3 : Int32)) rfl (q := 35) rfl ?_
    refine Jvm.OwnW.icmpNo O14 df_35 (tlt (show (3 : Int32) < (4 : Int32) from (by decide))).2.2.2 (q := 38) rfl ?_
    refine Jvm.OwnW.aloadN O14 df_38 rfl rfl (q := 39) rfl ?_
    refine Jvm.OwnW.iconst O14 df_39 (r := (3 : Int32)) rfl (q := 40) rfl ?_
    refine Jvm.OwnW.bipush O14 df_40 (r := (-7 : Int32)) rfl (q := 42) rfl ?_
    refine Jvm.OwnW.iasA O14 df_42 V_a11 (i := 3) rfl (by decide) (Or.inr N11) (q := 43) rfl ?_
    intro T15 h15 O15 W15
    have V_a11 : Ar Z h15 a11 .int 4 (lf [(.int (-7 : Int32)), (.int (-7 : Int32)), (.int (-7 : Int32)), (.int (-7 : Int32))]) := V_a11.setL W15 (by decide) (Nat.le_of_ble_eq_true rfl)
    refine Jvm.OwnW.iloadN O15 df_43 rfl (q := 44) rfl ?_
    refine Jvm.OwnW.iconst O15 df_44 (r := (4 : Int32)) rfl (q := 45) rfl ?_
    refine Jvm.OwnW.icmpYes O15 df_45 (flt (show ¬ ((4 : Int32) < (4 : Int32)) from (by decide))).2.2.2 (by decide) (q := 53) rfl ?_
    refine Jvm.OwnW.iloadN O15 df_53 rfl (q := 54) rfl ?_
    refine Jvm.OwnW.iconst O15 df_54 (r := (5 : Int32)) rfl (q := 55) rfl ?_
    refine Jvm.OwnW.icmpYes O15 df_55 (flt (show ¬ ((5 : Int32) < (4 : Int32)) from (by decide))).2.2.2 (by decide) (q := 63) rfl ?_
    refine Jvm.OwnW.iloadN O15 df_63 rfl (q := 64) rfl ?_
    refine Jvm.OwnW.bipush O15 df_64 (r := (6 : Int32)) rfl (q := 66) rfl ?_
    refine Jvm.OwnW.icmpYes O15 df_66 (flt (show ¬ ((6 : Int32) < (4 : Int32)) from (by decide))).2.2.2 (by decide) (q := 75) rfl ?_
    refine Jvm.OwnW.aloadN O15 df_75 rfl rfl (q := 76) rfl ?_
    exact Jvm.OwnW.retA O15 df_76 rfl rfl rfl (by decide) (by decide) ⟨_, rfl, hs0 ▸ N11, V_a11.congr (fun j hj => (lf_rep 4 _ j hj).symm)⟩
  · skip
    obtain rfl : p1 = (5 : Int32) := eq32 hn
    refine Jvm.OwnW.iloadN O df_0 rfl (q := 1) rfl ?_
    refine Jvm.OwnW.newA' O df_1 (ty := .int) rfl (hw _ (List.mem_of_getElem? (i := 9) rfl)) (N := 5) rfl (cap := 5) (by decide) (by decide) (c2 := 1) (s2 := 5) rfl rfl (by decide) (by decide) (q := 3) rfl ?_
    intro a16 T16 h16 g16 N16 O16 X16 V_a16
    have V_a16 : Ar Z h16 a16 .int 5 (lf [(.int (0 : Int32)), (.int (0 : Int32)), (.int (0 : Int32)), (.int (0 : Int32)), (.int (0 : Int32))]) := V_a16.congr (lf_rep 5 _)
    refine Jvm.OwnW.astoreN O16 df_3 rfl (L' := #[.val (.int (5 : Int32)), .val (.ref a16)]) rfl (q := 4) rfl ?_
    refine Jvm.OwnW.iloadN O16 df_4 rfl (q := 5) rfl ?_
    refine Jvm.OwnW.ifNo O16 df_5 (tgt0 (show (0 : Int32) < (5 : Int32) from (by decide))).2 (q := 8) rfl ?_
    refine Jvm.OwnW.aloadN O16 df_8 rfl rfl (q := 9) rfl ?_
    refine Jvm.OwnW.iconst O16 df_9 (r := (0 : Int32)) rfl (q := 10) rfl ?_
    refine Jvm.OwnW.bipush O16 df_10 (r := (-7 : Int32)) rfl (q := 12) rfl ?_
    refine Jvm.OwnW.iasA O16 df_12 V_a16 (i := 0) rfl (by decide) (Or.inr N16) (q := 13) rfl ?_
    intro T17 h17 O17 W17
    have V_a16 : Ar Z h17 a16 .int 5 (lf [(.int (-7 : Int32)), (.int (0 : Int32)), (.int (0 : Int32)), (.int (0 : Int32)), (.int (0 : Int32))]) := V_a16.setL W17 (by decide) (Nat.le_of_ble_eq_true rfl)
    refine Jvm.OwnW.iloadN O17 df_13 rfl (q := 14) rfl ?_
    refine Jvm.OwnW.iconst O17 df_14 (r := (1 : Int32)) rfl (q := 15) rfl ?_
    refine Jvm.OwnW.icmpNo O17 df_15 (tlt (show (1 : Int32) < (5 : Int32) from (by decide))).2.2.2 (q := 18) rfl ?_
    refine Jvm.OwnW.aloadN O17 df_18 rfl rfl (q := 19) rfl ?_
    refine Jvm.OwnW.iconst O17 df_19 (r := (1 : Int32)) rfl (q := 20) rfl ?_
    refine Jvm.OwnW.bipush O17 df_20 (r := (-7 : Int32)) rfl (q := 22) rfl ?_
    refine Jvm.OwnW.iasA O17 df_22 V_a16 (i := 1) rfl (by decide) (Or.inr N16) (q := 23) rfl ?_
    intro T18 h18 O18 W18
    have V_a16 : Ar Z h18 a16 .int 5 (lf [(.int (-7 : Int32)), (.int (-7 : Int32)), (.int (0 : Int32)), (.int (0 : Int32)), (.int (0 : Int32))]) := V_a16.setL W18 (by decide) (Nat.le_of_ble_eq_true rfl)
    refine Jvm.OwnW.iloadN O18 df_23 rfl (q := 24) rfl ?_
    refine Jvm.OwnW.iconst O18 df_24 (r := (2 : Int32)) rfl (q := 25) rfl ?_
    refine Jvm.OwnW.icmpNo O18 df_25 (tlt (show (2 : Int32) < (5 : Int32) from (by decide))).2.2.2 (q := 28) rfl ?_
    refine Jvm.OwnW.aloadN O18 df_28 rfl rfl (q := 29) rfl ?_
    refine Jvm.OwnW.iconst O18 df_29 (r := (2 : Int32)) rfl (q := 30) rfl ?_
    refine Jvm.OwnW.bipush O18 df_30 (r := (-7 : Int32)) rfl (q := 32) rfl ?_
    refine Jvm.OwnW.iasA O18 df_32 V_a16 (i := 2) rfl (by decide) (Or.inr N16) (q := 33) rfl ?_
    intro T19 h19 O19 W19
    have V_a16 : Ar Z h19 a16 .int 5 (lf [(.int (-7 : Int32)), (.int (-7 : Int32)), (.int (-7 : Int32)), (.int (0 : Int32)), (.int (0 : Int32))]) := V_a16.setL W19 (by decide) (Nat.le_of_ble_eq_true rfl)
    refine Jvm.OwnW.iloadN O19 df_33 rfl (q := 34) rfl ?_
    refine Jvm.OwnW.iconst O19 df_34 (r := (3 : Int32)) rfl (q := 35) rfl ?_
    refine Jvm.OwnW.icmpNo O19 df_35 (tlt (show (3 : Int32) < (5 : Int32) from (by decide))).2.2.2 (q := 38) rfl ?_
    refine Jvm.OwnW.aloadN O19 df_38 rfl rfl (q := 39) rfl ?_
    refine Jvm.OwnW.iconst O19 df_39 (r := (3 : Int32)) rfl (q := 40) rfl ?_
    refine Jvm.OwnW.bipush O19 df_40 (r := (-7 : Int32)) rfl (q := 42) rfl ?_
    refine Jvm.OwnW.iasA O19 df_42 V_a16 (i := 3) rfl (by decide) (Or.inr N16) (q := 43) rfl ?_
    intro T20 h20 O20 W20
    have V_a16 : Ar Z h20 a16 .int 5 (lf [(.int (-7 : Int32)), (.int (-7 : Int32)), (.int (-7 : Int32)), (.int (-7 : Int32)), (.int (0 : Int32))]) := V_a16.setL W20 (by decide) (Nat.le_of_ble_eq_true rfl)
    refine Jvm.OwnW.iloadN O20 df_43 rfl (q := 44) rfl ?_
    refine Jvm.OwnW.iconst O20 df_44 (r := (4 : Int32)) rfl (q := 45) rfl ?_
    refine Jvm.OwnW.icmpNo O20 df_45 (tlt (show (4 : Int32) < (5 : Int32) from (by decide))).2.2.2 (q := 48) rfl ?_
    refine Jvm.OwnW.aloadN O20 df_48 rfl rfl (q := 49) rfl ?_
    refine Jvm.OwnW.iconst O20 df_49 (r := (4 : Int32)) rfl (q := 50) rfl ?_
    refine Jvm.OwnW.bipush O20 df_50 (r := (-7 : Int32)) rfl (q := 52) rfl ?_
    refine Jvm.OwnW.iasA O20 df_52 V_a16 (i := 4) rfl (by decide) (Or.inr N16) (q := 53) rfl ?_
    intro T21 h21 O21 W21
    have V_a16 : Ar Z h21 a16 .int 5 (lf [(.int (-7 : Int32)), (.int (-7 : Int32)), (.int (-7 : Int32)), (.int (-7 : Int32)), (.int (-7 : Int32))]) := V_a16.setL W21 (by decide) (Nat.le_of_ble_eq_true rfl)
    refine Jvm.OwnW.iloadN O21 df_53 rfl (q := 54) rfl ?_
    refine Jvm.OwnW.iconst O21 df_54 (r := (5 : Int32)) rfl (q := 55) rfl ?_
    refine Jvm.OwnW.icmpYes O21 df_55 (flt (show ¬ ((5 : Int32) < (5 : Int32)) from (by decide))).2.2.2 (by decide) (q := 63) rfl ?_
    refine Jvm.OwnW.iloadN O21 df_63 rfl (q := 64) rfl ?_
    refine Jvm.OwnW.bipush O21 df_64 (r := (6 : Int32)) rfl (q := 66) rfl ?_
    refine Jvm.OwnW.icmpYes O21 df_66 (flt (show ¬ ((6 : Int32) < (5 : Int32)) from (by decide))).2.2.2 (by decide) (q := 75) rfl ?_
    refine Jvm.OwnW.aloadN O21 df_75 rfl rfl (q := 76) rfl ?_
    exact Jvm.OwnW.retA O21 df_76 rfl rfl rfl (by decide) (by decide) ⟨_, rfl, hs0 ▸ N16, V_a16.congr (fun j hj => (lf_rep 5 _ j hj).symm)⟩
  · skip
    obtain rfl : p1 = (6 : Int32) := eq32 hn
    refine Jvm.OwnW.iloadN O df_0 rfl (q := 1) rfl ?_
    refine Jvm.OwnW.newA' O df_1 (ty := .int) rfl (hw _ (List.mem_of_getElem? (i := 9) rfl)) (N := 6) rfl (cap := 6) (by decide) (by decide) (c2 := 1) (s2 := 6) rfl rfl (by decide) (by decide) (q := 3) rfl ?_
    intro a22 T22 h22 g22 N22 O22 X22 V_a22
    have V_a22 : Ar Z h22 a22 .int 6 (lf [(.int (0 : Int32)), (.int (0 : Int32)), (.int (0 : Int32)), (.int (0 : Int32)), (.int (0 : Int32)), (.int (0 : Int32))]) := V_a22.congr (lf_rep 6 _)
    refine Jvm.OwnW.astoreN O22 df_3 rfl (L' := #[.val (.int (6 : Int32)), .val (.ref a22)]) rfl (q := 4) rfl ?_
    refine Jvm.OwnW.iloadN O22 df_4 rfl (q := 5) rfl ?_
    refine Jvm.OwnW.ifNo O22 df_5 (tgt0 (show (0 : Int32) < (6 : Int32) from (by decide))).2 (q := 8) rfl ?_
    refine Jvm.OwnW.aloadN O22 df_8 rfl rfl (q := 9) rfl ?_
    refine Jvm.OwnW.iconst O22 df_9 (r := (0 : Int32)) rfl (q := 10) rfl ?_
    refine Jvm.OwnW.bipush O22 df_10 (r := (-7 : Int32)) rfl (q := 12) rfl ?_
    refine Jvm.OwnW.iasA O22 df_12 V_a22 (i := 0) rfl (by decide) (Or.inr N22) (q := 13) rfl ?_
    intro T23 h23 O23 W23
    have V_a22 : Ar Z h23 a22 .int 6 (lf [(.int (-7 : Int32)), (.int (0 : Int32)), (.int (0 : Int32)), (.int (0 : Int32)), (.int (0 : Int32)), (.int (0 : Int32))]) := V_a22.setL W23 (by decide) (Nat.le_of_ble_eq_true rfl)
    refine Jvm.OwnW.iloadN O23 df_13 rfl (q := 14) rfl ?_
    refine Jvm.OwnW.iconst O23 df_14 (r := (1 : Int32)) rfl (q := 15) rfl ?_
    refine Jvm.OwnW.icmpNo O23 df_15 (tlt (show (1 : Int32) < (6 : Int32) from (by decide))).2.2.2 (q := 18) rfl ?_
    refine Jvm.OwnW.aloadN O23 df_18 rfl rfl (q := 19) rfl ?_
    refine Jvm.OwnW.iconst O23 df_19 (r := (1 : Int32)) rfl (q := 20) rfl ?_
    refine Jvm.OwnW.bipush O23 df_20 (r := (-7 : Int32)) rfl (q := 22) rfl ?_
    refine Jvm.OwnW.iasA O23 df_22 V_a22 (i := 1) rfl (by decide) (Or.inr N22) (q := 23) rfl ?_
    intro T24 h24 O24 W24
    have V_a22 : Ar Z h24 a22 .int 6 (lf [(.int (-7 : Int32)), (.int (-7 : Int32)), (.int (0 : Int32)), (.int (0 : Int32)), (.int (0 : Int32)), (.int (0 : Int32))]) := V_a22.setL W24 (by decide) (Nat.le_of_ble_eq_true rfl)
    refine Jvm.OwnW.iloadN O24 df_23 rfl (q := 24) rfl ?_
    refine Jvm.OwnW.iconst O24 df_24 (r := (2 : Int32)) rfl (q := 25) rfl ?_
    refine Jvm.OwnW.icmpNo O24 df_25 (tlt (show (2 : Int32) < (6 : Int32) from (by decide))).2.2.2 (q := 28) rfl ?_
    refine Jvm.OwnW.aloadN O24 df_28 rfl rfl (q := 29) rfl ?_
    refine Jvm.OwnW.iconst O24 df_29 (r := (2 : Int32)) rfl (q := 30) rfl ?_
    refine Jvm.OwnW.bipush O24 df_30 (r := (-7 : Int32)) rfl (q := 32) rfl ?_
    refine Jvm.OwnW.iasA O24 df_32 V_a22 (i := 2) rfl (by decide) (Or.inr N22) (q := 33) rfl ?_
    intro T25 h25 O25 W25
    have V_a22 : Ar Z h25 a22 .int 6 (lf [(.int (-7 : Int32)), (.int (-7 : Int32)), (.int (-7 : Int32)), (.int (0 : Int32)), (.int (0 : Int32)), (.int (0 : Int32))]) := V_a22.setL W25 (by decide) (Nat.le_of_ble_eq_true rfl)
    refine Jvm.OwnW.iloadN O25 df_33 rfl (q := 34) rfl ?_
    refine Jvm.OwnW.iconst O25 df_34 (r := (3 : Int32)) rfl (q := 35) rfl ?_
    refine Jvm.OwnW.icmpNo O25 df_35 (tlt (show (3 : Int32) < (6 : Int32) from (by decide))).2.2.2 (q := 38) rfl ?_
    refine Jvm.OwnW.aloadN O25 df_38 rfl rfl (q := 39) rfl ?_
    refine Jvm.OwnW.iconst O25 df_39 (r := (3 : Int32)) rfl (q := 40) rfl ?_
    refine Jvm.OwnW.bipush O25 df_40 (r := (-7 : Int32)) rfl (q := 42) rfl ?_
    refine Jvm.OwnW.iasA O25 df_42 V_a22 (i := 3) rfl (by decide) (Or.inr N22) (q := 43) rfl ?_
    intro T26 h26 O26 W26
    have V_a22 : Ar Z h26 a22 .int 6 (lf [(.int (-7 : Int32)), (.int (-7 : Int32)), (.int (-7 : Int32)), (.int (-7 : Int32)), (.int (0 : Int32)), (.int (0 : Int32))]) := V_a22.setL W26 (by decide) (Nat.le_of_ble_eq_true rfl)
    refine Jvm.OwnW.iloadN O26 df_43 rfl (q := 44) rfl ?_
    refine Jvm.OwnW.iconst O26 df_44 (r := (4 : Int32)) rfl (q := 45) rfl ?_
    refine Jvm.OwnW.icmpNo O26 df_45 (tlt (show (4 : Int32) < (6 : Int32) from (by decide))).2.2.2 (q := 48) rfl ?_
    refine Jvm.OwnW.aloadN O26 df_48 rfl rfl (q := 49) rfl ?_
    refine Jvm.OwnW.iconst O26 df_49 (r := (4 : Int32)) rfl (q := 50) rfl ?_
    refine Jvm.OwnW.bipush O26 df_50 (r := (-7 : Int32)) rfl (q := 52) rfl ?_
    refine Jvm.OwnW.iasA O26 df_52 V_a22 (i := 4) rfl (by decide) (Or.inr N22) (q := 53) rfl ?_
    intro T27 h27 O27 W27
    have V_a22 : Ar Z h27 a22 .int 6 (lf [(.int (-7 : Int32)), (.int (-7 : Int32)), (.int (-7 : Int32)), (.int (-7 : Int32)), (.int (-7 : Int32)), (.int (0 : Int32))]) := V_a22.setL W27 (by decide) (Nat.le_of_ble_eq_true rfl)
    refine Jvm.OwnW.iloadN O27 df_53 rfl (q := 54) rfl ?_
    refine Jvm.OwnW.iconst O27 df_54 (r := (5 : Int32)) rfl (q := 55) rfl ?_
    refine Jvm.OwnW.icmpNo O27 df_55 (tlt (show (5 : Int32) < (6 : Int32) from (by decide))).2.2.2 (q := 58) rfl ?_
    refine Jvm.OwnW.aloadN O27 df_58 rfl rfl (q := 59) rfl ?_
    refine Jvm.OwnW.iconst O27 df_59 (r := (5 : Int32)) rfl (q := 60) rfl ?_
    refine Jvm.OwnW.bipush O27 df_60 (r := (-7 : Int32)) rfl (q := 62) rfl ?_
    refine Jvm.OwnW.iasA O27 df_62 V_a22 (i := 5) rfl (by decide) (Or.inr N22) (q := 63) rfl ?_
    intro T28 h28 O28 W28
    have V_a22 : Ar Z h28 a22 .int 6 (lf [(.int (-7 : Int32)), (.int (-7 : Int32)), (.int (-7 : Int32)), (.int (-7 : Int32)), (.int (-7 : Int32)), (.int (-7 : Int32))]) := V_a22.setL W28 (by decide) (Nat.le_of_ble_eq_true rfl)
    refine Jvm.OwnW.iloadN O28 df_63 rfl (q := 64) rfl ?_
    refine Jvm.OwnW.bipush O28 df_64 (r := (6 : Int32)) rfl (q := 66) rfl ?_
    refine Jvm.OwnW.icmpYes O28 df_66 (flt (show ¬ ((6 : Int32) < (6 : Int32)) from (by decide))).2.2.2 (by decide) (q := 75) rfl ?_
    refine Jvm.OwnW.aloadN O28 df_75 rfl rfl (q := 76) rfl ?_
    exact Jvm.OwnW.retA O28 df_76 rfl rfl rfl (by decide) (by decide) ⟨_, rfl, hs0 ▸ N22, V_a22.congr (fun j hj => (lf_rep 6 _ j hj).symm)⟩
  · skip
    obtain rfl : p1 = (7 : Int32) := eq32 hn
    refine Jvm.OwnW.iloadN O df_0 rfl (q := 1) rfl ?_
    refine Jvm.OwnW.newA' O df_1 (ty := .int) rfl (hw _ (List.mem_of_getElem? (i := 9) rfl)) (N := 7) rfl (cap := 7) (by decide) (by decide) (c2 := 1) (s2 := 7) rfl rfl (by decide) (by decide) (q := 3) rfl ?_
    intro a29 T29 h29 g29 N29 O29 X29 V_a29
    have V_a29 : Ar Z h29 a29 .int 7 (lf [(.int (0 : Int32)), (.int (0 : Int32)), (.int (0 : Int32)), (.int (0 : Int32)), (.int (0 : Int32)), (.int (0 : Int32)), (.int (0 : Int32))]) := V_a29.congr (lf_rep 7 _)
    refine Jvm.OwnW.astoreN O29 df_3 rfl (L' := #[.val (.int (7 : Int32)), .val (.ref a29)]) rfl (q := 4) rfl ?_
    refine Jvm.OwnW.iloadN O29 df_4 rfl (q := 5) rfl ?_
    refine Jvm.OwnW.ifNo O29 df_5 (tgt0 (show (0 : Int32) < (7 : Int32) from (by decide))).2 (q := 8) rfl ?_
    refine Jvm.OwnW.aloadN O29 df_8 rfl rfl (q := 9) rfl ?_
    refine Jvm.OwnW.iconst O29 df_9 (r := (0 : Int32)) rfl (q := 10) rfl ?_
    refine Jvm.OwnW.bipush O29 df_10 (r := (-7 : Int32)) rfl (q := 12) rfl ?_
    refine Jvm.OwnW.iasA O29 df_12 V_a29 (i := 0) rfl (by decide) (Or.inr N29) (q := 13) rfl ?_
    intro T30 h30 O30 W30
    have V_a29 : Ar Z h30 a29 .int 7 (lf [(.int (-7 : Int32)), (.int (0 : Int32)), (.int (0 : Int32)), (.int (0 : Int32)), (.int (0 : Int32)), (.int (0 : Int32)), (.int (0 : Int32))]) := V_a29.setL W30 (by decide) (Nat.le_of_ble_eq_true rfl)
    refine Jvm.OwnW.iloadN O30 df_13 rfl (q := 14) rfl ?_
    refine Jvm.OwnW.iconst O30 df_14 (r := (1 : Int32)) rfl (q := 15) rfl ?_
    refine Jvm.OwnW.icmpNo O30 df_15 (tlt (show (1 : Int32) < (7 : Int32) from (by decide))).2.2.2 (q := 18) rfl ?_
    refine Jvm.OwnW.aloadN O30 df_18 rfl rfl (q := 19) rfl ?_
    refine Jvm.OwnW.iconst O30 df_19 (r := (1 : Int32)) rfl (q := 20) rfl ?_
    refine Jvm.OwnW.bipush O30 df_20 (r := (-7 : Int32)) rfl (q := 22) rfl ?_
    refine Jvm.OwnW.iasA O30 df_22 V_a29 (i := 1) rfl (by decide) (Or.inr N29) (q := 23) rfl ?_
    intro T31 h31 O31 W31
    have V_a29 : Ar Z h31 a29 .int 7 (lf [(.int (-7 : Int32)), (.int (-7 : Int32)), (.int (0 : Int32)), (.int (0 : Int32)), (.int (0 : Int32)), (.int (0 : Int32)), (.int (0 : Int32))]) := V_a29.setL W31 (by decide) (Nat.le_of_ble_eq_true rfl)
    refine Jvm.OwnW.iloadN O31 df_23 rfl (q := 24) rfl ?_
    refine Jvm.OwnW.iconst O31 df_24 (r := (2 : Int32)) rfl (q := 25) rfl ?_
    refine Jvm.OwnW.icmpNo O31 df_25 (tlt (show (2 : Int32) < (7 : Int32) from (by decide))).2.2.2 (q := 28) rfl ?_
    refine Jvm.OwnW.aloadN O31 df_28 rfl rfl (q := 29) rfl ?_
    refine Jvm.OwnW.iconst O31 df_29 (r := (2 : Int32)) rfl (q := 30) rfl ?_
    refine Jvm.OwnW.bipush O31 df_30 (r := (-7 : Int32)) rfl (q := 32) rfl ?_
    refine Jvm.OwnW.iasA O31 df_32 V_a29 (i := 2) rfl (by decide) (Or.inr N29) (q := 33) rfl ?_
    intro T32 h32 O32 W32
    have V_a29 : Ar Z h32 a29 .int 7 (lf [(.int (-7 : Int32)), (.int (-7 : Int32)), (.int (-7 : Int32)), (.int (0 : Int32)), (.int (0 : Int32)), (.int (0 : Int32)), (.int (0 : Int32))]) := V_a29.setL W32 (by decide) (Nat.le_of_ble_eq_true rfl)
    refine Jvm.OwnW.iloadN O32 df_33 rfl (q := 34) rfl ?_
    refine Jvm.OwnW.iconst O32 df_34 (r := (3 : Int32)) rfl (q := 35) rfl ?_
    refine Jvm.OwnW.icmpNo O32 df_35 (tlt (show (3 : Int32) < (7 : Int32) from (by decide))).2.2.2 (q := 38) rfl ?_
    refine Jvm.OwnW.aloadN O32 df_38 rfl rfl (q := 39) rfl ?_
    refine Jvm.OwnW.iconst O32 df_39 (r := (3 : Int32)) rfl (q := 40) rfl ?_
    refine Jvm.OwnW.bipush O32 df_40 (r := (-7 : Int32)) rfl (q := 42) rfl ?_
    refine Jvm.OwnW.iasA O32 df_42 V_a29 (i := 3) rfl (by decide) (Or.inr N29) (q := 43) rfl ?_
    intro T33 h33 O33 W33
    have V_a29 : Ar Z h33 a29 .int 7 (lf [(.int (-7 : Int32)), (.int (-7 : Int32)), (.int (-7 : Int32)), (.int (-7 : Int32)), (.int (0 : Int32)), (.int (0 : Int32)), (.int (0 : Int32))]) := V_a29.setL W33 (by decide) (Nat.le_of_ble_eq_true rfl)
    refine Jvm.OwnW.iloadN O33 df_43 rfl (q := 44) rfl ?_
    refine Jvm.OwnW.iconst O33 df_44 (r := (4 : Int32)) rfl (q := 45) rfl ?_
    refine Jvm.OwnW.icmpNo O33 df_45 (tlt (show (4 : Int32) < (7 : Int32) from (by decide))).2.2.2 (q := 48) rfl ?_
    refine Jvm.OwnW.aloadN O33 df_48 rfl rfl (q := 49) rfl ?_
    refine Jvm.OwnW.iconst O33 df_49 (r := (4 : Int32)) rfl (q := 50) rfl ?_
    refine Jvm.OwnW.bipush O33 df_50 (r := (-7 : Int32)) rfl (q := 52) rfl ?_
    refine Jvm.OwnW.iasA O33 df_52 V_a29 (i := 4) rfl (by decide) (Or.inr N29) (q := 53) rfl ?_
    intro T34 h34 O34 W34
    have V_a29 : Ar Z h34 a29 .int 7 (lf [(.int (-7 : Int32)), (.int (-7 : Int32)), (.int (-7 : Int32)), (.int (-7 : Int32)), (.int (-7 : Int32)), (.int (0 : Int32)), (.int (0 : Int32))]) := V_a29.setL W34 (by decide) (Nat.le_of_ble_eq_true rfl)
    refine Jvm.OwnW.iloadN O34 df_53 rfl (q := 54) rfl ?_
    refine Jvm.OwnW.iconst O34 df_54 (r := (5 : Int32)) rfl (q := 55) rfl ?_
    refine Jvm.OwnW.icmpNo O34 df_55 (tlt (show (5 : Int32) < (7 : Int32) from (by decide))).2.2.2 (q := 58) rfl ?_
    refine Jvm.OwnW.aloadN O34 df_58 rfl rfl (q := 59) rfl ?_
    refine Jvm.OwnW.iconst O34 df_59 (r := (5 : Int32)) rfl (q := 60) rfl ?_
    refine Jvm.OwnW.bipush O34 df_60 (r := (-7 : Int32)) rfl (q := 62) rfl ?_
    refine Jvm.OwnW.iasA O34 df_62 V_a29 (i := 5) rfl (by decide) (Or.inr N29) (q := 63) rfl ?_
    intro T35 h35 O35 W35
    have V_a29 : Ar Z h35 a29 .int 7 (lf [(.int (-7 : Int32)), (.int (-7 : Int32)), (.int (-7 : Int32)), (.int (-7 : Int32)), (.int (-7 : Int32)), (.int (-7 : Int32)), (.int (0 : Int32))]) := V_a29.setL W35 (by decide) (Nat.le_of_ble_eq_true rfl)
    refine Jvm.OwnW.iloadN O35 df_63 rfl (q := 64) rfl ?_
    refine Jvm.OwnW.bipush O35 df_64 (r := (6 : Int32)) rfl (q := 66) rfl ?_
    refine Jvm.OwnW.icmpNo O35 df_66 (tlt (show (6 : Int32) < (7 : Int32) from (by decide))).2.2.2 (q := 69) rfl ?_
    refine Jvm.OwnW.aloadN O35 df_69 rfl rfl (q := 70) rfl ?_
    refine Jvm.OwnW.bipush O35 df_70 (r := (6 : Int32)) rfl (q := 72) rfl ?_
    refine Jvm.OwnW.bipush O35 df_72 (r := (-7 : Int32)) rfl (q := 74) rfl ?_
    refine Jvm.OwnW.iasA O35 df_74 V_a29 (i := 6) rfl (by decide) (Or.inr N29) (q := 75) rfl ?_
    intro T36 h36 O36 W36
    have V_a29 : Ar Z h36 a29 .int 7 (lf [(.int (-7 : Int32)), (.int (-7 : Int32)), (.int (-7 : Int32)), (.int (-7 : Int32)), (.int (-7 : Int32)), (.int (-7 : Int32)), (.int (-7 : Int32))]) := V_a29.setL W36 (by decide) (Nat.le_of_ble_eq_true rfl)
    refine Jvm.OwnW.aloadN O36 df_75 rfl rfl (q := 76) rfl ?_
    exact Jvm.OwnW.retA O36 df_76 rfl rfl rfl (by decide) (by decide) ⟨_, rfl, hs0 ▸ N29, V_a29.congr (fun j hj => (lf_rep 7 _ j hj).symm)⟩
def bx (g : Nat → Int32) (lo hi p : Nat) : Nat := if lo ≤ p ∧ p < hi ∧ g p = 124 then 1 else 0
def bs (g : Nat → Int32) (lo hi : Nat) : Nat → Nat
  | 0 => 0
  | n + 1 => bs g lo hi n + bx g lo hi n
def own_B (g : Nat → Int32) (lo hi : Nat) : Nat := bs g lo hi 6
theorem bs_self (g : Nat → Int32) (lo : Nat) : ∀ n, bs g lo lo n = 0
  | 0 => rfl
  | n + 1 => by
    show bs g lo lo n + bx g lo lo n = 0
    rw [bs_self g lo n, bx, if_neg (by omega)]
theorem bs_step (g : Nat → Int32) (lo hi : Nat) (h : lo ≤ hi) : ∀ n, bs g lo (hi + 1) n = bs g lo hi n + (if hi < n ∧ g hi = 124 then 1 else 0)
  | 0 => by rw [if_neg (by omega)]; rfl
  | n + 1 => by
    show bs g lo (hi + 1) n + bx g lo (hi + 1) n = bs g lo hi n + bx g lo hi n + _
    rw [bs_step g lo hi h n, bx, bx]
    by_cases e : n = hi
    · subst e
      rw [if_neg (by omega : ¬ (n < n ∧ g n = 124)), if_neg (by omega : ¬ (lo ≤ n ∧ n < n ∧ g n = 124))]
      by_cases q : g n = 124
      · rw [if_pos ⟨h, by omega, q⟩, if_pos ⟨by omega, q⟩]
      · rw [if_neg (fun z => q z.2.2), if_neg (fun z => q z.2)]
    · have e1 : (lo ≤ n ∧ n < hi + 1 ∧ g n = 124) ↔ (lo ≤ n ∧ n < hi ∧ g n = 124) := ⟨fun z => ⟨z.1, by omega, z.2.2⟩, fun z => ⟨z.1, by omega, z.2.2⟩⟩
      have e2 : (hi < n ∧ g hi = 124) ↔ (hi < n + 1 ∧ g hi = 124) := ⟨fun z => ⟨by omega, z.2⟩, fun z => ⟨by omega, z.2⟩⟩
      simp only [e1, e2]; omega
theorem B_self (g : Nat → Int32) (lo : Nat) : own_B g lo lo = 0 := bs_self g lo 6
theorem B_bar (g : Nat → Int32) (lo hi : Nat) (h : lo ≤ hi) (h6 : hi < 6) (q : g hi = 124) : own_B g lo (hi + 1) = own_B g lo hi + 1 := by
  rw [own_B, bs_step g lo hi h 6, if_pos ⟨h6, q⟩]; rfl
theorem B_no (g : Nat → Int32) (lo hi : Nat) (h : lo ≤ hi) (q : ¬ g hi = 124) : own_B g lo (hi + 1) = own_B g lo hi := by
  rw [own_B, bs_step g lo hi h 6, if_neg (fun z => q z.2)]; rfl
theorem bx_le (g : Nat → Int32) (lo hi p : Nat) : bx g lo hi p ≤ 1 := by rw [bx]; split <;> omega
def updI (f : Nat → Int32) (i : Nat) (v : Int32) : Nat → Int32 := fun j => if j = i then v else f j
theorem updI_eq (f : Nat → Int32) (i : Nat) (v : Int32) (j : Nat) : updV (fun j => .int (f j)) i (.int v) j = .int (updI f i v j) := by
  simp only [updV, updI]; split <;> rfl
theorem updI_self (f : Nat → Int32) (i : Nat) (v : Int32) : updI f i v i = v := if_pos rfl
theorem updI_ne (f : Nat → Int32) (i : Nat) (v : Int32) (j : Nat) (h : j ≠ i) : updI f i v j = f j := if_neg h
def Core (g : Nat → Int32) (fN eN : Nat) (fs fe : Nat → Int32) (f s e : Nat) : Prop := (fs f).toInt = s ∧ (fe f).toInt = e ∧ fN ≤ s ∧ s ≤ e ∧ e ≤ eN ∧ own_B g s e = 0 ∧ (f = 0 → s = fN) ∧ (0 < f → 1 ≤ s ∧ g (s - 1) = 124 ∧ (fe (f - 1)).toInt = ((s - 1 : Nat) : Int))
def InvA (g : Nat → Int32) (fN eN n i c st : Nat) (fs fe : Nat → Int32) : Prop := fN ≤ st ∧ st ≤ i ∧ i ≤ eN ∧ c = own_B g fN i ∧ own_B g st i = 0 ∧ (c = 0 → st = fN) ∧ (0 < c → 1 ≤ st ∧ g (st - 1) = 124 ∧ (c - 1 < n → (fe (c - 1)).toInt = ((st - 1 : Nat) : Int))) ∧ (∀ f, f < c → f < n → ∃ s e, Core g fN eN fs fe f s e ∧ e < eN ∧ g e = 124) ∧ (∀ f, c ≤ f → f < n → fs f = -7 ∧ fe f = -7)
def FinA (g : Nat → Int32) (fN eN n c : Nat) (fs fe : Nat → Int32) : Prop := c = own_B g fN eN + 1 ∧ (∀ f, f < c → f < n → ∃ s e, Core g fN eN fs fe f s e ∧ (f + 1 = c → e = eN) ∧ (f + 1 ≠ c → e < eN ∧ g e = 124)) ∧ (∀ f, c ≤ f → f < n → fs f = -7 ∧ fe f = -7)
theorem core_upd {g : Nat → Int32} {fN eN : Nat} {fs fe : Nat → Int32} {f s e c : Nat} {a b : Int32} (h : Core g fN eN fs fe f s e) (hf : f < c) : Core g fN eN (updI fs c a) (updI fe c b) f s e := by
  obtain ⟨h1, h2, h3, h4, h5, h6, h7, h8⟩ := h
  refine ⟨by rw [updI_ne _ _ _ _ (by omega)]; exact h1, by rw [updI_ne _ _ _ _ (by omega)]; exact h2, h3, h4, h5, h6, h7, fun q => ?_⟩
  rw [updI_ne _ _ _ _ (by omega)]; exact h8 q
theorem core_new {g : Nat → Int32} {fN eN n i c st : Nat} {fs fe : Nat → Int32} {a b : Int32} (h : InvA g fN eN n i c st fs fe) (ha : a.toInt = (st : Int)) (hb : b.toInt = (i : Int)) (hn : c < n) : Core g fN eN (updI fs c a) (updI fe c b) c st i := by
  obtain ⟨h1, h2, h3, h4, h5, h6, h7, h8, h9⟩ := h
  refine ⟨by rw [updI_self]; exact ha, by rw [updI_self]; exact hb, h1, h2, h3, h5, h6, fun q => ?_⟩
  obtain ⟨q1, q2, q3⟩ := h7 q
  rw [updI_ne _ _ _ _ (by omega)]
  exact ⟨q1, q2, q3 (by omega)⟩
theorem inv_bar {g : Nat → Int32} {fN eN n i c st : Nat} {fs fe : Nat → Int32} {a b : Int32} (h : InvA g fN eN n i c st fs fe) (h6 : eN ≤ 6) (hi : i < eN) (hg : g i = 124) (ha : a.toInt = (st : Int)) (hb : b.toInt = (i : Int)) : InvA g fN eN n (i + 1) (c + 1) (i + 1) (updI fs c a) (updI fe c b) := by
  have h' := h
  obtain ⟨h1, h2, h3, h4, h5, h6', h7, h8, h9⟩ := h
  refine ⟨by omega, by omega, by omega, by rw [B_bar g fN i (by omega) (by omega) hg, h4], B_self _ _, fun q => by omega, fun _ => ⟨by omega, by rw [Nat.add_sub_cancel]; exact hg, fun q => ?_⟩, fun f hf hn => ?_, fun f hf hn => ?_⟩
  · rw [Nat.add_sub_cancel, Nat.add_sub_cancel, updI_self]; exact hb
  · by_cases e : f = c
    · subst e; exact ⟨st, i, core_new h' ha hb hn, hi, hg⟩
    · obtain ⟨s, e', q1, q2, q3⟩ := h8 f (by omega) hn
      exact ⟨s, e', core_upd q1 (by omega), q2, q3⟩
  · rw [updI_ne _ _ _ _ (by omega), updI_ne _ _ _ _ (by omega)]; exact h9 f (by omega) hn
theorem inv_no {g : Nat → Int32} {fN eN n i c st : Nat} {fs fe : Nat → Int32} (h : InvA g fN eN n i c st fs fe) (hi : i < eN) (hg : ¬ g i = 124) : InvA g fN eN n (i + 1) c st fs fe := by
  obtain ⟨h1, h2, h3, h4, h5, h6', h7, h8, h9⟩ := h
  exact ⟨h1, by omega, by omega, by rw [B_no g fN i (by omega) hg]; exact h4, by rw [B_no g st i h2 hg]; exact h5, h6', h7, h8, h9⟩
theorem inv_end {g : Nat → Int32} {fN eN n c st : Nat} {fs fe : Nat → Int32} {a b : Int32} (h : InvA g fN eN n eN c st fs fe) (ha : a.toInt = (st : Int)) (hb : b.toInt = (eN : Int)) : FinA g fN eN n (c + 1) (updI fs c a) (updI fe c b) := by
  have h' := h
  obtain ⟨h1, h2, h3, h4, h5, h6', h7, h8, h9⟩ := h
  refine ⟨by rw [h4], fun f hf hn => ?_, fun f hf hn => ?_⟩
  · by_cases e : f = c
    · subst e; exact ⟨st, eN, core_new h' ha hb hn, fun _ => rfl, fun q => absurd rfl q⟩
    · obtain ⟨s, e', q1, q2, q3⟩ := h8 f (by omega) hn
      exact ⟨s, e', core_upd q1 (by omega), fun q => by omega, fun _ => ⟨q2, q3⟩⟩
  · rw [updI_ne _ _ _ _ (by omega), updI_ne _ _ _ _ (by omega)]; exact h9 f (by omega) hn
theorem inv_start (g : Nat → Int32) (fN eN n : Nat) (h : fN ≤ eN) : InvA g fN eN n fN 0 fN (fun _ => -7) (fun _ => -7) :=
  ⟨Nat.le_refl _, Nat.le_refl _, h, (B_self _ _).symm, B_self _ _, fun _ => rfl, fun q => absurd q (by omega), fun f q => absurd q (by omega), fun f _ _ => ⟨rfl, rfl⟩⟩
def own_end (g : Nat → Int32) (fN tN : Nat) : Nat := if fN < tN ∧ g (tN - 1) = 124 then tN - 1 else tN
theorem own_end_in (g : Nat → Int32) (fN tN : Nat) (h : fN ≤ tN) : fN ≤ own_end g fN tN ∧ own_end g fN tN ≤ tN := by
  rw [own_end]; split <;> omega
theorem B_le (g : Nat → Int32) (lo hi : Nat) : own_B g lo hi ≤ 6 := by
  show 0 + bx g lo hi 0 + bx g lo hi 1 + bx g lo hi 2 + bx g lo hi 3 + bx g lo hi 4 + bx g lo hi 5 ≤ 6
  have h0 := bx_le g lo hi 0; have h1 := bx_le g lo hi 1; have h2 := bx_le g lo hi 2; have h3 := bx_le g lo hi 3; have h4 := bx_le g lo hi 4; have h5 := bx_le g lo hi 5
  omega
theorem dr_0 : decode method_5_code 0 = .ok (.iload_n 1, 1) := by decide +kernel
theorem dr_1 : decode method_5_code 1 = .ok (.iload_n 2, 1) := by decide +kernel
theorem dr_2 : decode method_5_code 2 = .ok (.if_icmp .lt 20, 3) := by decide +kernel
theorem dr_5 : decode method_5_code 5 = .ok (.iload_n 1, 1) := by decide +kernel
theorem dr_6 : decode method_5_code 6 = .ok (.iload_n 3, 1) := by decide +kernel
theorem dr_7 : decode method_5_code 7 = .ok (.if_icmp .ge 15, 3) := by decide +kernel
theorem dr_10 : decode method_5_code 10 = .ok (.aload_n 0, 1) := by decide +kernel
theorem dr_11 : decode method_5_code 11 = .ok (.iload_n 1, 1) := by decide +kernel
theorem dr_12 : decode method_5_code 12 = .ok (.baload, 1) := by decide +kernel
theorem dr_13 : decode method_5_code 13 = .ok (.bipush 124, 2) := by decide +kernel
theorem dr_15 : decode method_5_code 15 = .ok (.if_icmp .ne 7, 3) := by decide +kernel
theorem dr_18 : decode method_5_code 18 = .ok (.iconst 1, 1) := by decide +kernel
theorem dr_19 : decode method_5_code 19 = .ok (.goto 4, 3) := by decide +kernel
theorem dr_22 : decode method_5_code 22 = .ok (.iconst 0, 1) := by decide +kernel
theorem dr_23 : decode method_5_code 23 = .ok (.ireturn, 1) := by decide +kernel
theorem ef_r (a1 : Addr) (p2 : Int32) (p3 : Int32) (p4 : Int32) (m : MethodId) : entryFrame m #[(.ref a1), (.int p2), (.int p3), (.int p4)] 4 = mkF m 0 #[.val (.ref a1), .val (.int p2), .val (.int p3), .val (.int p4)] [] := by first | (simp [entryFrame, mkF, argsToLocals, Value.category, maxLocals]; done) | rfl
theorem pn_r : plainFor (⟨"com/example/lamina/lamina/table/DelimitedLineSplitPinLaw", "bar", "([BIII)I"⟩ : MethodName) = true := by first | exact plainFor_of_name (by first | (simp [plainName, overriddenIn]; done) | decide +kernel) | decide +kernel
set_option maxRecDepth 65536 in
set_option maxHeartbeats 40000000 in
theorem rm_r (l : Launch) (Z : State) (a0 : Array Value) (hw : ∀ d ∈ tables_1, d.before a0 Z = true) (a1 : Addr) (p2 : Int32) (p3 : Int32) (p4 : Int32) (g : Nat → Int32) (pN lo hi : Nat) (h0 : Heap) (V_a1 : Ar Z h0 a1 .byte 6 (fun j => .int (g j))) (hp : p2.toInt = (pN : Int)) (h6 : pN < 6) (hlo : p3.toInt = (lo : Int)) (hhi : p4.toInt = (hi : Int)) :
    Met l Z (⟨"com/example/lamina/lamina/table/DelimitedLineSplitPinLaw", "bar", "([BIII)I"⟩ : MethodName) method_5_code 4 (some .int) [] ({ frames := 0, cells := 0, slots := 0, locals := 0 } : Room) #[(.ref a1), (.int p2), (.int p3), (.int p4)] [] h0 (fun v h => ∃ z : Int32, v = some (.int z) ∧ z.toInt = (bx g lo hi pN : Int)) := by
  refine Met.mk pn_r (ef_r a1 p2 p3 p4) ?_
  intro C T hs0 O
  show Go C [] (fun v h => ∃ z : Int32, v = some (.int z) ∧ z.toInt = (bx g lo hi pN : Int)) 0 0 (T.setTop (mkF C.m 0 #[.val (.ref a1), .val (.int p2), .val (.int p3), .val (.int p4)] []))
  refine Jvm.OwnW.iloadN O dr_0 rfl (q := 1) rfl ?_
  refine Jvm.OwnW.iloadN O dr_1 rfl (q := 2) rfl ?_
  by_cases hc2 : p2 < p3
  · refine Jvm.OwnW.icmpYes O dr_2 (tlt hc2).1 (by decide) (q := 22) rfl ?_
    refine Jvm.OwnW.iconst O dr_22 (r := (0 : Int32)) rfl (q := 23) rfl ?_
    exact Jvm.OwnW.retI O dr_23 rfl (by decide) (by decide) ⟨_, rfl, by rw [bx, if_neg (fun q => by rw [Int32.lt_iff_toInt_lt] at hc2; omega)]; rfl⟩
  · refine Jvm.OwnW.icmpNo O dr_2 (flt hc2).1 (q := 5) rfl ?_
    refine Jvm.OwnW.iloadN O dr_5 rfl (q := 6) rfl ?_
    refine Jvm.OwnW.iloadN O dr_6 rfl (q := 7) rfl ?_
    by_cases hc7 : p2 < p4
    · refine Jvm.OwnW.icmpNo O dr_7 (tlt hc7).2.1 (q := 10) rfl ?_
      refine Jvm.OwnW.aloadN O dr_10 rfl rfl (q := 11) rfl ?_
      refine Jvm.OwnW.iloadN O dr_11 rfl (q := 12) rfl ?_
      refine Jvm.OwnW.balA O dr_12 V_a1 (i := pN) hp (by omega) (v := (.int (g pN))) rfl (q := 13) rfl ?_
      refine Jvm.OwnW.bipush O dr_13 (r := (124 : Int32)) rfl (q := 15) rfl ?_
      by_cases hc15 : (g pN) = (124 : Int32)
      · refine Jvm.OwnW.icmpNo O dr_15 (teq hc15).2 (q := 18) rfl ?_
        refine Jvm.OwnW.iconst O dr_18 (r := (1 : Int32)) rfl (q := 19) rfl ?_
        refine Jvm.OwnW.goto O dr_19 (by decide) (q := 23) rfl ?_
        exact Jvm.OwnW.retI O dr_23 rfl (by decide) (by decide) ⟨_, rfl, by rw [bx, if_pos ⟨by rw [Int32.lt_iff_toInt_lt] at hc2; omega, by rw [Int32.lt_iff_toInt_lt] at hc7; omega, hc15⟩]; rfl⟩
      · refine Jvm.OwnW.icmpYes O dr_15 (feq hc15).2 (by decide) (q := 22) rfl ?_
        refine Jvm.OwnW.iconst O dr_22 (r := (0 : Int32)) rfl (q := 23) rfl ?_
        exact Jvm.OwnW.retI O dr_23 rfl (by decide) (by decide) ⟨_, rfl, by rw [bx, if_neg (fun q => hc15 q.2.2)]; rfl⟩
    · refine Jvm.OwnW.icmpYes O dr_7 (flt hc7).2.1 (by decide) (q := 22) rfl ?_
      refine Jvm.OwnW.iconst O dr_22 (r := (0 : Int32)) rfl (q := 23) rfl ?_
      exact Jvm.OwnW.retI O dr_23 rfl (by decide) (by decide) ⟨_, rfl, by rw [bx, if_neg (fun q => by rw [Int32.lt_iff_toInt_lt] at hc7; omega)]; rfl⟩
theorem pd_0 : parseMethodDescriptor "([BIII)I" = some ⟨[(.array .byte), .int, .int, .int], some .int⟩ := by decide +kernel
theorem db_0 : decode method_6_code 0 = .ok (.aload_n 0, 1) := by decide +kernel
theorem db_1 : decode method_6_code 1 = .ok (.iconst 0, 1) := by decide +kernel
theorem db_2 : decode method_6_code 2 = .ok (.iload_n 1, 1) := by decide +kernel
theorem db_3 : decode method_6_code 3 = .ok (.iload_n 2, 1) := by decide +kernel
theorem db_4 : decode method_6_code 4 = .ok (.invokestatic 32, 3) := by decide +kernel
theorem db_7 : decode method_6_code 7 = .ok (.aload_n 0, 1) := by decide +kernel
theorem db_8 : decode method_6_code 8 = .ok (.iconst 1, 1) := by decide +kernel
theorem db_9 : decode method_6_code 9 = .ok (.iload_n 1, 1) := by decide +kernel
theorem db_10 : decode method_6_code 10 = .ok (.iload_n 2, 1) := by decide +kernel
theorem db_11 : decode method_6_code 11 = .ok (.invokestatic 32, 3) := by decide +kernel
theorem db_14 : decode method_6_code 14 = .ok (.iadd, 1) := by decide +kernel
theorem db_15 : decode method_6_code 15 = .ok (.aload_n 0, 1) := by decide +kernel
theorem db_16 : decode method_6_code 16 = .ok (.iconst 2, 1) := by decide +kernel
theorem db_17 : decode method_6_code 17 = .ok (.iload_n 1, 1) := by decide +kernel
theorem db_18 : decode method_6_code 18 = .ok (.iload_n 2, 1) := by decide +kernel
theorem db_19 : decode method_6_code 19 = .ok (.invokestatic 32, 3) := by decide +kernel
theorem db_22 : decode method_6_code 22 = .ok (.iadd, 1) := by decide +kernel
theorem db_23 : decode method_6_code 23 = .ok (.aload_n 0, 1) := by decide +kernel
theorem db_24 : decode method_6_code 24 = .ok (.iconst 3, 1) := by decide +kernel
theorem db_25 : decode method_6_code 25 = .ok (.iload_n 1, 1) := by decide +kernel
theorem db_26 : decode method_6_code 26 = .ok (.iload_n 2, 1) := by decide +kernel
theorem db_27 : decode method_6_code 27 = .ok (.invokestatic 32, 3) := by decide +kernel
theorem db_30 : decode method_6_code 30 = .ok (.iadd, 1) := by decide +kernel
theorem db_31 : decode method_6_code 31 = .ok (.aload_n 0, 1) := by decide +kernel
theorem db_32 : decode method_6_code 32 = .ok (.iconst 4, 1) := by decide +kernel
theorem db_33 : decode method_6_code 33 = .ok (.iload_n 1, 1) := by decide +kernel
theorem db_34 : decode method_6_code 34 = .ok (.iload_n 2, 1) := by decide +kernel
theorem db_35 : decode method_6_code 35 = .ok (.invokestatic 32, 3) := by decide +kernel
theorem db_38 : decode method_6_code 38 = .ok (.iadd, 1) := by decide +kernel
theorem db_39 : decode method_6_code 39 = .ok (.aload_n 0, 1) := by decide +kernel
theorem db_40 : decode method_6_code 40 = .ok (.iconst 5, 1) := by decide +kernel
theorem db_41 : decode method_6_code 41 = .ok (.iload_n 1, 1) := by decide +kernel
theorem db_42 : decode method_6_code 42 = .ok (.iload_n 2, 1) := by decide +kernel
theorem db_43 : decode method_6_code 43 = .ok (.invokestatic 32, 3) := by decide +kernel
theorem db_46 : decode method_6_code 46 = .ok (.iadd, 1) := by decide +kernel
theorem db_47 : decode method_6_code 47 = .ok (.ireturn, 1) := by decide +kernel
theorem ef_b (a1 : Addr) (p2 : Int32) (p3 : Int32) (m : MethodId) : entryFrame m #[(.ref a1), (.int p2), (.int p3)] 3 = mkF m 0 #[.val (.ref a1), .val (.int p2), .val (.int p3)] [] := by first | (simp [entryFrame, mkF, argsToLocals, Value.category, maxLocals]; done) | rfl
theorem pn_b : plainFor (⟨"com/example/lamina/lamina/table/DelimitedLineSplitPinLaw", "bars", "([BII)I"⟩ : MethodName) = true := by first | exact plainFor_of_name (by first | (simp [plainName, overriddenIn]; done) | decide +kernel) | decide +kernel
set_option maxRecDepth 65536 in
set_option maxHeartbeats 40000000 in
theorem rm_b (l : Launch) (Z : State) (a0 : Array Value) (hw : ∀ d ∈ tables_1, d.before a0 Z = true) (a1 : Addr) (p2 : Int32) (p3 : Int32) (g : Nat → Int32) (lo hi : Nat) (h0 : Heap) (V_a1 : Ar Z h0 a1 .byte 6 (fun j => .int (g j))) (hlo : p2.toInt = (lo : Int)) (hhi : p3.toInt = (hi : Int)) :
    Met l Z (⟨"com/example/lamina/lamina/table/DelimitedLineSplitPinLaw", "bars", "([BII)I"⟩ : MethodName) method_6_code 3 (some .int) [] ({ frames := 1, cells := 0, slots := 0, locals := 16 } : Room) #[(.ref a1), (.int p2), (.int p3)] [] h0 (fun v h => ∃ z : Int32, v = some (.int z) ∧ z.toInt = (own_B g lo hi : Int)) := by
  refine Met.mk pn_b (ef_b a1 p2 p3) ?_
  intro C T hs0 O
  show Go C [] (fun v h => ∃ z : Int32, v = some (.int z) ∧ z.toInt = (own_B g lo hi : Int)) 0 0 (T.setTop (mkF C.m 0 #[.val (.ref a1), .val (.int p2), .val (.int p3)] []))
  refine Jvm.OwnW.aloadN O db_0 rfl rfl (q := 1) rfl ?_
  refine Jvm.OwnW.iconst O db_1 (r := (0 : Int32)) rfl (q := 2) rfl ?_
  refine Jvm.OwnW.iloadN O db_2 rfl (q := 3) rfl ?_
  refine Jvm.OwnW.iloadN O db_3 rfl (q := 4) rfl ?_
  refine Jvm.OwnW.callS0 O (y := (⟨"com/example/lamina/lamina/table/DelimitedLineSplitPinLaw", "bar", "([BIII)I"⟩ : MethodName)) (argsL := [(.ref a1), (.int (0 : Int32)), (.int p2), (.int p3)]) (rest := []) db_4 (hw _ (List.mem_of_getElem? (i := 17) rfl)) (hw _ (List.mem_of_getElem? (i := 18) rfl)) (hw _ (List.mem_of_getElem? (i := 3) rfl)) (hw _ (List.mem_of_getElem? (i := 19) rfl)) (by decide) (rm_r l Z a0 hw a1 (0 : Int32) p2 p3 g 0 lo hi h0 V_a1 rfl (by decide) hlo hhi) rfl pd_0 rfl (hst := rfl) (W := 0) (Nat.le_of_eq rfl) (by decide) (by decide) (c2 := 0) (s2 := 0) rfl rfl (by decide) (by decide) rfl rfl (q := 7) rfl ?_
  intro v1 T1 O1 q1
  obtain ⟨z0, rfl, hz0⟩ := q1
  show Go C _ _ _ _ (T1.setTop (mkF C.m 7 #[.val (.ref a1), .val (.int p2), .val (.int p3)] [(.int z0)]))
  refine Jvm.OwnW.aloadN O1 db_7 rfl rfl (q := 8) rfl ?_
  refine Jvm.OwnW.iconst O1 db_8 (r := (1 : Int32)) rfl (q := 9) rfl ?_
  refine Jvm.OwnW.iloadN O1 db_9 rfl (q := 10) rfl ?_
  refine Jvm.OwnW.iloadN O1 db_10 rfl (q := 11) rfl ?_
  refine Jvm.OwnW.callS0 O1 (y := (⟨"com/example/lamina/lamina/table/DelimitedLineSplitPinLaw", "bar", "([BIII)I"⟩ : MethodName)) (argsL := [(.ref a1), (.int (1 : Int32)), (.int p2), (.int p3)]) (rest := [(.int z0)]) db_11 (hw _ (List.mem_of_getElem? (i := 17) rfl)) (hw _ (List.mem_of_getElem? (i := 18) rfl)) (hw _ (List.mem_of_getElem? (i := 3) rfl)) (hw _ (List.mem_of_getElem? (i := 19) rfl)) (by decide) (rm_r l Z a0 hw a1 (1 : Int32) p2 p3 g 1 lo hi h0 V_a1 rfl (by decide) hlo hhi) rfl pd_0 rfl (hst := rfl) (W := 1) (Nat.le_of_eq rfl) (by decide) (by decide) (c2 := 0) (s2 := 0) rfl rfl (by decide) (by decide) rfl rfl (q := 14) rfl ?_
  intro v2 T2 O2 q2
  obtain ⟨z1, rfl, hz1⟩ := q2
  show Go C _ _ _ _ (T2.setTop (mkF C.m 14 #[.val (.ref a1), .val (.int p2), .val (.int p3)] [(.int z1), (.int z0)]))
  obtain ⟨s1, hs1⟩ : ∃ zz_, (z0 + z1) = zz_ := ⟨_, rfl⟩
  refine Jvm.OwnW.iadd O2 db_14 hs1 (q := 15) rfl ?_
  refine Jvm.OwnW.aloadN O2 db_15 rfl rfl (q := 16) rfl ?_
  refine Jvm.OwnW.iconst O2 db_16 (r := (2 : Int32)) rfl (q := 17) rfl ?_
  refine Jvm.OwnW.iloadN O2 db_17 rfl (q := 18) rfl ?_
  refine Jvm.OwnW.iloadN O2 db_18 rfl (q := 19) rfl ?_
  refine Jvm.OwnW.callS0 O2 (y := (⟨"com/example/lamina/lamina/table/DelimitedLineSplitPinLaw", "bar", "([BIII)I"⟩ : MethodName)) (argsL := [(.ref a1), (.int (2 : Int32)), (.int p2), (.int p3)]) (rest := [(.int s1)]) db_19 (hw _ (List.mem_of_getElem? (i := 17) rfl)) (hw _ (List.mem_of_getElem? (i := 18) rfl)) (hw _ (List.mem_of_getElem? (i := 3) rfl)) (hw _ (List.mem_of_getElem? (i := 19) rfl)) (by decide) (rm_r l Z a0 hw a1 (2 : Int32) p2 p3 g 2 lo hi h0 V_a1 rfl (by decide) hlo hhi) rfl pd_0 rfl (hst := rfl) (W := 1) (Nat.le_of_eq rfl) (by decide) (by decide) (c2 := 0) (s2 := 0) rfl rfl (by decide) (by decide) rfl rfl (q := 22) rfl ?_
  intro v3 T3 O3 q3
  obtain ⟨z2, rfl, hz2⟩ := q3
  show Go C _ _ _ _ (T3.setTop (mkF C.m 22 #[.val (.ref a1), .val (.int p2), .val (.int p3)] [(.int z2), (.int s1)]))
  obtain ⟨s2, hs2⟩ : ∃ zz_, (s1 + z2) = zz_ := ⟨_, rfl⟩
  refine Jvm.OwnW.iadd O3 db_22 hs2 (q := 23) rfl ?_
  refine Jvm.OwnW.aloadN O3 db_23 rfl rfl (q := 24) rfl ?_
  refine Jvm.OwnW.iconst O3 db_24 (r := (3 : Int32)) rfl (q := 25) rfl ?_
  refine Jvm.OwnW.iloadN O3 db_25 rfl (q := 26) rfl ?_
  refine Jvm.OwnW.iloadN O3 db_26 rfl (q := 27) rfl ?_
  refine Jvm.OwnW.callS0 O3 (y := (⟨"com/example/lamina/lamina/table/DelimitedLineSplitPinLaw", "bar", "([BIII)I"⟩ : MethodName)) (argsL := [(.ref a1), (.int (3 : Int32)), (.int p2), (.int p3)]) (rest := [(.int s2)]) db_27 (hw _ (List.mem_of_getElem? (i := 17) rfl)) (hw _ (List.mem_of_getElem? (i := 18) rfl)) (hw _ (List.mem_of_getElem? (i := 3) rfl)) (hw _ (List.mem_of_getElem? (i := 19) rfl)) (by decide) (rm_r l Z a0 hw a1 (3 : Int32) p2 p3 g 3 lo hi h0 V_a1 rfl (by decide) hlo hhi) rfl pd_0 rfl (hst := rfl) (W := 1) (Nat.le_of_eq rfl) (by decide) (by decide) (c2 := 0) (s2 := 0) rfl rfl (by decide) (by decide) rfl rfl (q := 30) rfl ?_
  intro v4 T4 O4 q4
  obtain ⟨z3, rfl, hz3⟩ := q4
  show Go C _ _ _ _ (T4.setTop (mkF C.m 30 #[.val (.ref a1), .val (.int p2), .val (.int p3)] [(.int z3), (.int s2)]))
  obtain ⟨s3, hs3⟩ : ∃ zz_, (s2 + z3) = zz_ := ⟨_, rfl⟩
  refine Jvm.OwnW.iadd O4 db_30 hs3 (q := 31) rfl ?_
  refine Jvm.OwnW.aloadN O4 db_31 rfl rfl (q := 32) rfl ?_
  refine Jvm.OwnW.iconst O4 db_32 (r := (4 : Int32)) rfl (q := 33) rfl ?_
  refine Jvm.OwnW.iloadN O4 db_33 rfl (q := 34) rfl ?_
  refine Jvm.OwnW.iloadN O4 db_34 rfl (q := 35) rfl ?_
  refine Jvm.OwnW.callS0 O4 (y := (⟨"com/example/lamina/lamina/table/DelimitedLineSplitPinLaw", "bar", "([BIII)I"⟩ : MethodName)) (argsL := [(.ref a1), (.int (4 : Int32)), (.int p2), (.int p3)]) (rest := [(.int s3)]) db_35 (hw _ (List.mem_of_getElem? (i := 17) rfl)) (hw _ (List.mem_of_getElem? (i := 18) rfl)) (hw _ (List.mem_of_getElem? (i := 3) rfl)) (hw _ (List.mem_of_getElem? (i := 19) rfl)) (by decide) (rm_r l Z a0 hw a1 (4 : Int32) p2 p3 g 4 lo hi h0 V_a1 rfl (by decide) hlo hhi) rfl pd_0 rfl (hst := rfl) (W := 1) (Nat.le_of_eq rfl) (by decide) (by decide) (c2 := 0) (s2 := 0) rfl rfl (by decide) (by decide) rfl rfl (q := 38) rfl ?_
  intro v5 T5 O5 q5
  obtain ⟨z4, rfl, hz4⟩ := q5
  show Go C _ _ _ _ (T5.setTop (mkF C.m 38 #[.val (.ref a1), .val (.int p2), .val (.int p3)] [(.int z4), (.int s3)]))
  obtain ⟨s4, hs4⟩ : ∃ zz_, (s3 + z4) = zz_ := ⟨_, rfl⟩
  refine Jvm.OwnW.iadd O5 db_38 hs4 (q := 39) rfl ?_
  refine Jvm.OwnW.aloadN O5 db_39 rfl rfl (q := 40) rfl ?_
  refine Jvm.OwnW.iconst O5 db_40 (r := (5 : Int32)) rfl (q := 41) rfl ?_
  refine Jvm.OwnW.iloadN O5 db_41 rfl (q := 42) rfl ?_
  refine Jvm.OwnW.iloadN O5 db_42 rfl (q := 43) rfl ?_
  refine Jvm.OwnW.callS0 O5 (y := (⟨"com/example/lamina/lamina/table/DelimitedLineSplitPinLaw", "bar", "([BIII)I"⟩ : MethodName)) (argsL := [(.ref a1), (.int (5 : Int32)), (.int p2), (.int p3)]) (rest := [(.int s4)]) db_43 (hw _ (List.mem_of_getElem? (i := 17) rfl)) (hw _ (List.mem_of_getElem? (i := 18) rfl)) (hw _ (List.mem_of_getElem? (i := 3) rfl)) (hw _ (List.mem_of_getElem? (i := 19) rfl)) (by decide) (rm_r l Z a0 hw a1 (5 : Int32) p2 p3 g 5 lo hi h0 V_a1 rfl (by decide) hlo hhi) rfl pd_0 rfl (hst := rfl) (W := 1) (Nat.le_of_eq rfl) (by decide) (by decide) (c2 := 0) (s2 := 0) rfl rfl (by decide) (by decide) rfl rfl (q := 46) rfl ?_
  intro v6 T6 O6 q6
  obtain ⟨z5, rfl, hz5⟩ := q6
  show Go C _ _ _ _ (T6.setTop (mkF C.m 46 #[.val (.ref a1), .val (.int p2), .val (.int p3)] [(.int z5), (.int s4)]))
  obtain ⟨s5, hs5⟩ : ∃ zz_, (s4 + z5) = zz_ := ⟨_, rfl⟩
  refine Jvm.OwnW.iadd O6 db_46 hs5 (q := 47) rfl ?_
  have hsum : s5.toInt = (own_B g lo hi : Int) := by
    have b0 := bx_le g lo hi 0; have b1 := bx_le g lo hi 1; have b2 := bx_le g lo hi 2; have b3 := bx_le g lo hi 3; have b4 := bx_le g lo hi 4; have b5 := bx_le g lo hi 5
    have t1 : s1.toInt = z0.toInt + z1.toInt := by rw [← hs1, add32 (by omega) (by omega)]
    have t2 : s2.toInt = s1.toInt + z2.toInt := by rw [← hs2, add32 (by omega) (by omega)]
    have t3 : s3.toInt = s2.toInt + z3.toInt := by rw [← hs3, add32 (by omega) (by omega)]
    have t4 : s4.toInt = s3.toInt + z4.toInt := by rw [← hs4, add32 (by omega) (by omega)]
    have t5 : s5.toInt = s4.toInt + z5.toInt := by rw [← hs5, add32 (by omega) (by omega)]
    show s5.toInt = ((0 + bx g lo hi 0 + bx g lo hi 1 + bx g lo hi 2 + bx g lo hi 3 + bx g lo hi 4 + bx g lo hi 5 : Nat) : Int)
    omega
  exact Jvm.OwnW.retI O6 db_47 rfl (by decide) (by decide) ⟨_, rfl, hsum⟩
theorem ds_0 : decode prog_70_method_2_code 0 = .ok (.iload_n 2, 1) := by decide +kernel
theorem ds_1 : decode prog_70_method_2_code 1 = .ok (.iload_n 1, 1) := by decide +kernel
theorem ds_2 : decode prog_70_method_2_code 2 = .ok (.if_icmp .le 19, 3) := by decide +kernel
theorem ds_5 : decode prog_70_method_2_code 5 = .ok (.aload_n 0, 1) := by decide +kernel
theorem ds_6 : decode prog_70_method_2_code 6 = .ok (.iload_n 2, 1) := by decide +kernel
theorem ds_7 : decode prog_70_method_2_code 7 = .ok (.iconst 1, 1) := by decide +kernel
theorem ds_8 : decode prog_70_method_2_code 8 = .ok (.isub, 1) := by decide +kernel
theorem ds_9 : decode prog_70_method_2_code 9 = .ok (.baload, 1) := by decide +kernel
theorem ds_10 : decode prog_70_method_2_code 10 = .ok (.bipush 124, 2) := by decide +kernel
theorem ds_12 : decode prog_70_method_2_code 12 = .ok (.if_icmp .ne 9, 3) := by decide +kernel
theorem ds_15 : decode prog_70_method_2_code 15 = .ok (.iload_n 2, 1) := by decide +kernel
theorem ds_16 : decode prog_70_method_2_code 16 = .ok (.iconst 1, 1) := by decide +kernel
theorem ds_17 : decode prog_70_method_2_code 17 = .ok (.isub, 1) := by decide +kernel
theorem ds_18 : decode prog_70_method_2_code 18 = .ok (.goto 4, 3) := by decide +kernel
theorem ds_21 : decode prog_70_method_2_code 21 = .ok (.iload_n 2, 1) := by decide +kernel
theorem ds_22 : decode prog_70_method_2_code 22 = .ok (.istore 5, 2) := by decide +kernel
theorem ds_24 : decode prog_70_method_2_code 24 = .ok (.iconst 0, 1) := by decide +kernel
theorem ds_25 : decode prog_70_method_2_code 25 = .ok (.istore 6, 2) := by decide +kernel
theorem ds_27 : decode prog_70_method_2_code 27 = .ok (.iload_n 1, 1) := by decide +kernel
theorem ds_28 : decode prog_70_method_2_code 28 = .ok (.istore 7, 2) := by decide +kernel
theorem ds_30 : decode prog_70_method_2_code 30 = .ok (.iload_n 1, 1) := by decide +kernel
theorem ds_31 : decode prog_70_method_2_code 31 = .ok (.istore 8, 2) := by decide +kernel
theorem ds_33 : decode prog_70_method_2_code 33 = .ok (.iload 8, 2) := by decide +kernel
theorem ds_35 : decode prog_70_method_2_code 35 = .ok (.iload 5, 2) := by decide +kernel
theorem ds_37 : decode prog_70_method_2_code 37 = .ok (.if_icmp .gt 54, 3) := by decide +kernel
theorem ds_40 : decode prog_70_method_2_code 40 = .ok (.iload 8, 2) := by decide +kernel
theorem ds_42 : decode prog_70_method_2_code 42 = .ok (.iload 5, 2) := by decide +kernel
theorem ds_44 : decode prog_70_method_2_code 44 = .ok (.if_icmp .eq 12, 3) := by decide +kernel
theorem ds_47 : decode prog_70_method_2_code 47 = .ok (.aload_n 0, 1) := by decide +kernel
theorem ds_48 : decode prog_70_method_2_code 48 = .ok (.iload 8, 2) := by decide +kernel
theorem ds_50 : decode prog_70_method_2_code 50 = .ok (.baload, 1) := by decide +kernel
theorem ds_51 : decode prog_70_method_2_code 51 = .ok (.bipush 124, 2) := by decide +kernel
theorem ds_53 : decode prog_70_method_2_code 53 = .ok (.if_icmp .ne 32, 3) := by decide +kernel
theorem ds_56 : decode prog_70_method_2_code 56 = .ok (.iload 6, 2) := by decide +kernel
theorem ds_58 : decode prog_70_method_2_code 58 = .ok (.aload_n 3, 1) := by decide +kernel
theorem ds_59 : decode prog_70_method_2_code 59 = .ok (.arraylength, 1) := by decide +kernel
theorem ds_60 : decode prog_70_method_2_code 60 = .ok (.if_icmp .ge 16, 3) := by decide +kernel
theorem ds_63 : decode prog_70_method_2_code 63 = .ok (.aload_n 3, 1) := by decide +kernel
theorem ds_64 : decode prog_70_method_2_code 64 = .ok (.iload 6, 2) := by decide +kernel
theorem ds_66 : decode prog_70_method_2_code 66 = .ok (.iload 7, 2) := by decide +kernel
theorem ds_68 : decode prog_70_method_2_code 68 = .ok (.iastore, 1) := by decide +kernel
theorem ds_69 : decode prog_70_method_2_code 69 = .ok (.aload 4, 2) := by decide +kernel
theorem ds_71 : decode prog_70_method_2_code 71 = .ok (.iload 6, 2) := by decide +kernel
theorem ds_73 : decode prog_70_method_2_code 73 = .ok (.iload 8, 2) := by decide +kernel
theorem ds_75 : decode prog_70_method_2_code 75 = .ok (.iastore, 1) := by decide +kernel
theorem ds_76 : decode prog_70_method_2_code 76 = .ok (.iinc 6 1, 3) := by decide +kernel
theorem ds_79 : decode prog_70_method_2_code 79 = .ok (.iload 8, 2) := by decide +kernel
theorem ds_81 : decode prog_70_method_2_code 81 = .ok (.iconst 1, 1) := by decide +kernel
theorem ds_82 : decode prog_70_method_2_code 82 = .ok (.iadd, 1) := by decide +kernel
theorem ds_83 : decode prog_70_method_2_code 83 = .ok (.istore 7, 2) := by decide +kernel
theorem ds_85 : decode prog_70_method_2_code 85 = .ok (.iinc 8 1, 3) := by decide +kernel
theorem ds_88 : decode prog_70_method_2_code 88 = .ok (.goto (-55), 3) := by decide +kernel
theorem ds_91 : decode prog_70_method_2_code 91 = .ok (.iload 6, 2) := by decide +kernel
theorem ds_93 : decode prog_70_method_2_code 93 = .ok (.ireturn, 1) := by decide +kernel
theorem ef_s (a1 : Addr) (p2 : Int32) (p3 : Int32) (a4 : Addr) (a5 : Addr) (zl : Int32) (m : MethodId) : entryFrame m #[(.ref a1), (.int p2), (.int p3), (.ref a4), (.ref a5)] 9 = mkF m 0 #[.val (.ref a1), .val (.int p2), .val (.int p3), .val (.ref a4), .val (.ref a5), .unset, .unset, .unset, .unset] [] := by first | (simp [entryFrame, mkF, argsToLocals, Value.category, maxLocals]; done) | rfl
theorem pn_s : plainFor (⟨"com/example/lamina/lamina/table/DelimitedLine", "split", "([BII[I[I)I"⟩ : MethodName) = true := by first | exact plainFor_of_name (by first | (simp [plainName, overriddenIn]; done) | decide +kernel) | decide +kernel
set_option maxRecDepth 65536 in
set_option maxHeartbeats 40000000 in
theorem rm_s (l : Launch) (Z : State) (a0 : Array Value) (hw : ∀ d ∈ tables_1, d.before a0 Z = true) (a1 : Addr) (p2 : Int32) (p3 : Int32) (a4 : Addr) (a5 : Addr) (g : Nat → Int32) (fN tN n : Nat) (zl : Int32) (h0 : Heap) (V_a1 : Ar Z h0 a1 .byte 6 (fun j => .int (g j))) (V_a4 : Ar Z h0 a4 .int n (fun _ => .int (-7))) (V_a5 : Ar Z h0 a5 .int n (fun _ => .int (-7))) (n14 : a1 ≠ a4) (n15 : a1 ≠ a5) (n45 : a4 ≠ a5) (hf : p2.toInt = (fN : Int)) (ht : p3.toInt = (tN : Int)) (hzl : zl.toInt = (n : Int)) (hft : fN ≤ tN) (ht6 : tN ≤ 6) :
    Met l Z (⟨"com/example/lamina/lamina/table/DelimitedLine", "split", "([BII[I[I)I"⟩ : MethodName) prog_70_method_2_code 9 (some .int) [] ({ frames := 0, cells := 0, slots := 0, locals := 0 } : Room) #[(.ref a1), (.int p2), (.int p3), (.ref a4), (.ref a5)] [a4, a5] h0 (fun v h => ∃ (z : Int32) (c : Nat) (fs fe : Nat → Int32), v = some (.int z) ∧ z.toInt = (c : Int) ∧ FinA g fN (own_end g fN tN) n c fs fe ∧ Ar Z h a4 .int n (fun j => .int (fs j)) ∧ Ar Z h a5 .int n (fun j => .int (fe j))) := by
  refine Met.mk pn_s (ef_s a1 p2 p3 a4 a5 zl) ?_
  intro C T hs0 O
  obtain ⟨hE1, hE2⟩ := own_end_in g fN tN hft
  obtain ⟨eN, heN⟩ : ∃ z, own_end g fN tN = z := ⟨_, rfl⟩
  rw [heN] at hE1 hE2
  show Go C [a4, a5] (fun v h => ∃ (z : Int32) (c : Nat) (fs fe : Nat → Int32), v = some (.int z) ∧ z.toInt = (c : Int) ∧ FinA g fN (own_end g fN tN) n c fs fe ∧ Ar Z h a4 .int n (fun j => .int (fs j)) ∧ Ar Z h a5 .int n (fun j => .int (fe j))) 0 0 (T.setTop (mkF C.m 0 #[.val (.ref a1), .val (.int p2), .val (.int p3), .val (.ref a4), .val (.ref a5), .unset, .unset, .unset, .unset] []))
  have J22 : ∀ (T1 : State), On l Z [a4, a5] ({ frames := 0, cells := 0, slots := 0, locals := 0 } : Room) "com/example/lamina/lamina/table/DelimitedLine" "split" prog_70_method_2_code 9 (some .int) C T1 h0 0 0 → ∀ (en : Int32), ∀ (hen : en.toInt = (eN : Int)), Go C [a4, a5] (fun v h => ∃ (z : Int32) (c : Nat) (fs fe : Nat → Int32), v = some (.int z) ∧ z.toInt = (c : Int) ∧ FinA g fN (own_end g fN tN) n c fs fe ∧ Ar Z h a4 .int n (fun j => .int (fs j)) ∧ Ar Z h a5 .int n (fun j => .int (fe j))) 0 0 (T1.setTop (mkF C.m 22 #[.val (.ref a1), .val (.int p2), .val (.int p3), .val (.ref a4), .val (.ref a5), .unset, .unset, .unset, .unset] [(.int en)])) := by
    intro T1 O1 en hen 
    refine Jvm.OwnW.istore O1 ds_22 (L' := #[.val (.ref a1), .val (.int p2), .val (.int p3), .val (.ref a4), .val (.ref a5), .val (.int en), .unset, .unset, .unset]) rfl (q := 24) rfl ?_
    refine Jvm.OwnW.iconst O1 ds_24 (r := (0 : Int32)) rfl (q := 25) rfl ?_
    refine Jvm.OwnW.istore O1 ds_25 (L' := #[.val (.ref a1), .val (.int p2), .val (.int p3), .val (.ref a4), .val (.ref a5), .val (.int en), .val (.int (0 : Int32)), .unset, .unset]) rfl (q := 27) rfl ?_
    refine Jvm.OwnW.iloadN O1 ds_27 rfl (q := 28) rfl ?_
    refine Jvm.OwnW.istore O1 ds_28 (L' := #[.val (.ref a1), .val (.int p2), .val (.int p3), .val (.ref a4), .val (.ref a5), .val (.int en), .val (.int (0 : Int32)), .val (.int p2), .unset]) rfl (q := 30) rfl ?_
    refine Jvm.OwnW.iloadN O1 ds_30 rfl (q := 31) rfl ?_
    refine Jvm.OwnW.istore O1 ds_31 (L' := #[.val (.ref a1), .val (.int p2), .val (.int p3), .val (.ref a4), .val (.ref a5), .val (.int en), .val (.int (0 : Int32)), .val (.int p2), .val (.int p2)]) rfl (q := 33) rfl ?_
    have lp : ∀ (k : Nat) (T2 : State) (h2 : Heap), On l Z [a4, a5] ({ frames := 0, cells := 0, slots := 0, locals := 0 } : Room) "com/example/lamina/lamina/table/DelimitedLine" "split" prog_70_method_2_code 9 (some .int) C T2 h2 0 0 → ∀ (i c st : Nat), ∀ (zi zc zs : Int32), ∀ (fs fe : Nat → Int32), ∀ (hi : zi.toInt = (i : Int)), ∀ (hc : zc.toInt = (c : Int)), ∀ (hs : zs.toInt = (st : Int)), ∀ (hk : i + k = eN), ∀ (I : InvA g fN eN n i c st fs fe), Ar Z h2 a1 .byte 6 (fun j => .int (g j)) → Ar Z h2 a4 .int n (fun j => .int (fs j)) → Ar Z h2 a5 .int n (fun j => .int (fe j)) → Go C [a4, a5] (fun v h => ∃ (z : Int32) (c : Nat) (fs fe : Nat → Int32), v = some (.int z) ∧ z.toInt = (c : Int) ∧ FinA g fN (own_end g fN tN) n c fs fe ∧ Ar Z h a4 .int n (fun j => .int (fs j)) ∧ Ar Z h a5 .int n (fun j => .int (fe j))) 0 0 (T2.setTop (mkF C.m 33 #[.val (.ref a1), .val (.int p2), .val (.int p3), .val (.ref a4), .val (.ref a5), .val (.int en), .val (.int zc), .val (.int zs), .val (.int zi)] [])) := by
      intro k
      induction k with
      | zero =>
        intro T2 h2 O2 i c st zi zc zs fs fe hi hc hs hk I V_a1 V_a4 V_a5
        have hI := I
        obtain ⟨hI1, hI2, hI3, hI4, -⟩ := hI
        have hB := own_B g fN i |> fun _ => B_le g fN i
        refine Jvm.OwnW.iload O2 ds_33 rfl (q := 35) rfl ?_
        refine Jvm.OwnW.iload O2 ds_35 rfl (q := 37) rfl ?_
        refine Jvm.OwnW.icmpNo O2 ds_37 (flt (show ¬ (en < zi) from nlt32 (by omega))).2.2.1 (q := 40) rfl ?_
        refine Jvm.OwnW.iload O2 ds_40 rfl (q := 42) rfl ?_
        refine Jvm.OwnW.iload O2 ds_42 rfl (q := 44) rfl ?_
        refine Jvm.OwnW.icmpYes O2 ds_44 (teq (show zi = en from eq32 (by omega))).1 (by decide) (q := 56) rfl ?_
        refine Jvm.OwnW.iload O2 ds_56 rfl (q := 58) rfl ?_
        refine Jvm.OwnW.aloadN O2 ds_58 rfl rfl (q := 59) rfl ?_
        refine Jvm.OwnW.lenA O2 ds_59 V_a4 (z := zl) hzl (q := 60) rfl ?_
        by_cases hc60 : zc < zl
        · refine Jvm.OwnW.icmpNo O2 ds_60 (tlt hc60).2.1 (q := 63) rfl ?_
          refine Jvm.OwnW.aloadN O2 ds_63 rfl rfl (q := 64) rfl ?_
          refine Jvm.OwnW.iload O2 ds_64 rfl (q := 66) rfl ?_
          refine Jvm.OwnW.iload O2 ds_66 rfl (q := 68) rfl ?_
          refine Jvm.OwnW.iasA O2 ds_68 V_a4 (i := c) hc (by rw [Int32.lt_iff_toInt_lt] at hc60; omega) (Or.inl (List.mem_cons_self ..)) (q := 69) rfl ?_
          intro T3 h3 O3 W3
          have V_a4 := V_a4.set W3 (by rw [Int32.lt_iff_toInt_lt] at hc60; omega)
          have V_a1 := V_a1.other W3 n14
          have V_a5 := V_a5.other W3 (Ne.symm n45)
          refine Jvm.OwnW.aload O3 ds_69 rfl rfl (q := 71) rfl ?_
          refine Jvm.OwnW.iload O3 ds_71 rfl (q := 73) rfl ?_
          refine Jvm.OwnW.iload O3 ds_73 rfl (q := 75) rfl ?_
          refine Jvm.OwnW.iasA O3 ds_75 V_a5 (i := c) hc (by rw [Int32.lt_iff_toInt_lt] at hc60; omega) (Or.inl (List.mem_cons_of_mem _ (List.mem_cons_self ..))) (q := 76) rfl ?_
          intro T4 h4 O4 W4
          have V_a5 := V_a5.set W4 (by rw [Int32.lt_iff_toInt_lt] at hc60; omega)
          have V_a1 := V_a1.other W4 n15
          have V_a4 := V_a4.other W4 n45
          have V_a4 : Ar Z h4 a4 .int n (fun j => .int (updI fs c zs j)) := V_a4.congr (fun j _ => updI_eq fs c zs j)
          have V_a5 : Ar Z h4 a5 .int n (fun j => .int (updI fe c zi j)) := V_a5.congr (fun j _ => updI_eq fe c zi j)
          refine Jvm.OwnW.iinc O4 ds_76 rfl (L' := #[.val (.ref a1), .val (.int p2), .val (.int p3), .val (.ref a4), .val (.ref a5), .val (.int en), .val (.int (zc + (1 : Int32))), .val (.int zs), .val (.int zi)]) rfl (q := 79) rfl ?_
          refine Jvm.OwnW.iload O4 ds_79 rfl (q := 81) rfl ?_
          refine Jvm.OwnW.iconst O4 ds_81 (r := (1 : Int32)) rfl (q := 82) rfl ?_
          refine Jvm.OwnW.iadd O4 ds_82 rfl (q := 83) rfl ?_
          refine Jvm.OwnW.istore O4 ds_83 (L' := #[.val (.ref a1), .val (.int p2), .val (.int p3), .val (.ref a4), .val (.ref a5), .val (.int en), .val (.int (zc + (1 : Int32))), .val (.int (zi + (1 : Int32))), .val (.int zi)]) rfl (q := 85) rfl ?_
          refine Jvm.OwnW.iinc O4 ds_85 rfl (L' := #[.val (.ref a1), .val (.int p2), .val (.int p3), .val (.ref a4), .val (.ref a5), .val (.int en), .val (.int (zc + (1 : Int32))), .val (.int (zi + (1 : Int32))), .val (.int (zi + (1 : Int32)))]) rfl (q := 88) rfl ?_
          refine Jvm.OwnW.goto O4 ds_88 (by decide) (q := 33) rfl ?_
          obtain rfl : i = eN := by omega
          refine Jvm.OwnW.iload O4 ds_33 rfl (q := 35) rfl ?_
          refine Jvm.OwnW.iload O4 ds_35 rfl (q := 37) rfl ?_
          refine Jvm.OwnW.icmpYes O4 ds_37 (tlt (show en < (zi + (1 : Int32)) from lt32 (by rw [add32 (by rw [hi]; show _ ≤ _ + (1 : Int); omega) (by rw [hi]; show _ + (1 : Int) < _; omega), hi, hen]; show _ < _ + (1 : Int); omega))).2.2.1 (by decide) (q := 91) rfl ?_
          refine Jvm.OwnW.iload O4 ds_91 rfl (q := 93) rfl ?_
          exact Jvm.OwnW.retI O4 ds_93 rfl (by decide) (by decide) ⟨_, c + 1, _, _, rfl, (by rw [add32 (by rw [hc]; show _ ≤ _ + (1 : Int); omega) (by rw [hc]; show _ + (1 : Int) < _; omega), hc]; rfl), heN ▸ inv_end I hs hi, V_a4, V_a5⟩
        · refine Jvm.OwnW.icmpYes O2 ds_60 (flt hc60).2.1 (by decide) (q := 76) rfl ?_
          have V_a4 : Ar Z h2 a4 .int n (fun j => .int (updI fs c zs j)) := V_a4.congr (fun j hj => by rw [updI_ne _ _ _ _ (fun q => hc60 (lt32 (by omega)))])
          have V_a5 : Ar Z h2 a5 .int n (fun j => .int (updI fe c zi j)) := V_a5.congr (fun j hj => by rw [updI_ne _ _ _ _ (fun q => hc60 (lt32 (by omega)))])
          refine Jvm.OwnW.iinc O2 ds_76 rfl (L' := #[.val (.ref a1), .val (.int p2), .val (.int p3), .val (.ref a4), .val (.ref a5), .val (.int en), .val (.int (zc + (1 : Int32))), .val (.int zs), .val (.int zi)]) rfl (q := 79) rfl ?_
          refine Jvm.OwnW.iload O2 ds_79 rfl (q := 81) rfl ?_
          refine Jvm.OwnW.iconst O2 ds_81 (r := (1 : Int32)) rfl (q := 82) rfl ?_
          refine Jvm.OwnW.iadd O2 ds_82 rfl (q := 83) rfl ?_
          refine Jvm.OwnW.istore O2 ds_83 (L' := #[.val (.ref a1), .val (.int p2), .val (.int p3), .val (.ref a4), .val (.ref a5), .val (.int en), .val (.int (zc + (1 : Int32))), .val (.int (zi + (1 : Int32))), .val (.int zi)]) rfl (q := 85) rfl ?_
          refine Jvm.OwnW.iinc O2 ds_85 rfl (L' := #[.val (.ref a1), .val (.int p2), .val (.int p3), .val (.ref a4), .val (.ref a5), .val (.int en), .val (.int (zc + (1 : Int32))), .val (.int (zi + (1 : Int32))), .val (.int (zi + (1 : Int32)))]) rfl (q := 88) rfl ?_
          refine Jvm.OwnW.goto O2 ds_88 (by decide) (q := 33) rfl ?_
          obtain rfl : i = eN := by omega
          refine Jvm.OwnW.iload O2 ds_33 rfl (q := 35) rfl ?_
          refine Jvm.OwnW.iload O2 ds_35 rfl (q := 37) rfl ?_
          refine Jvm.OwnW.icmpYes O2 ds_37 (tlt (show en < (zi + (1 : Int32)) from lt32 (by rw [add32 (by rw [hi]; show _ ≤ _ + (1 : Int); omega) (by rw [hi]; show _ + (1 : Int) < _; omega), hi, hen]; show _ < _ + (1 : Int); omega))).2.2.1 (by decide) (q := 91) rfl ?_
          refine Jvm.OwnW.iload O2 ds_91 rfl (q := 93) rfl ?_
          exact Jvm.OwnW.retI O2 ds_93 rfl (by decide) (by decide) ⟨_, c + 1, _, _, rfl, (by rw [add32 (by rw [hc]; show _ ≤ _ + (1 : Int); omega) (by rw [hc]; show _ + (1 : Int) < _; omega), hc]; rfl), heN ▸ inv_end I hs hi, V_a4, V_a5⟩
      | succ k ih =>
        intro T2 h2 O2 i c st zi zc zs fs fe hi hc hs hk I V_a1 V_a4 V_a5
        have hI := I
        obtain ⟨hI1, hI2, hI3, hI4, -⟩ := hI
        have hB := own_B g fN i |> fun _ => B_le g fN i
        refine Jvm.OwnW.iload O2 ds_33 rfl (q := 35) rfl ?_
        refine Jvm.OwnW.iload O2 ds_35 rfl (q := 37) rfl ?_
        refine Jvm.OwnW.icmpNo O2 ds_37 (flt (show ¬ (en < zi) from nlt32 (by omega))).2.2.1 (q := 40) rfl ?_
        refine Jvm.OwnW.iload O2 ds_40 rfl (q := 42) rfl ?_
        refine Jvm.OwnW.iload O2 ds_42 rfl (q := 44) rfl ?_
        refine Jvm.OwnW.icmpNo O2 ds_44 (feq (show ¬ (zi = en) from ne32 (by omega))).1 (q := 47) rfl ?_
        refine Jvm.OwnW.aloadN O2 ds_47 rfl rfl (q := 48) rfl ?_
        refine Jvm.OwnW.iload O2 ds_48 rfl (q := 50) rfl ?_
        refine Jvm.OwnW.balA O2 ds_50 V_a1 (i := i) hi (by omega) (v := (.int (g i))) rfl (q := 51) rfl ?_
        refine Jvm.OwnW.bipush O2 ds_51 (r := (124 : Int32)) rfl (q := 53) rfl ?_
        by_cases hc53 : (g i) = (124 : Int32)
        · refine Jvm.OwnW.icmpNo O2 ds_53 (teq hc53).2 (q := 56) rfl ?_
          refine Jvm.OwnW.iload O2 ds_56 rfl (q := 58) rfl ?_
          refine Jvm.OwnW.aloadN O2 ds_58 rfl rfl (q := 59) rfl ?_
          refine Jvm.OwnW.lenA O2 ds_59 V_a4 (z := zl) hzl (q := 60) rfl ?_
          by_cases hc60 : zc < zl
          · refine Jvm.OwnW.icmpNo O2 ds_60 (tlt hc60).2.1 (q := 63) rfl ?_
            refine Jvm.OwnW.aloadN O2 ds_63 rfl rfl (q := 64) rfl ?_
            refine Jvm.OwnW.iload O2 ds_64 rfl (q := 66) rfl ?_
            refine Jvm.OwnW.iload O2 ds_66 rfl (q := 68) rfl ?_
            refine Jvm.OwnW.iasA O2 ds_68 V_a4 (i := c) hc (by rw [Int32.lt_iff_toInt_lt] at hc60; omega) (Or.inl (List.mem_cons_self ..)) (q := 69) rfl ?_
            intro T5 h5 O5 W5
            have V_a4 := V_a4.set W5 (by rw [Int32.lt_iff_toInt_lt] at hc60; omega)
            have V_a1 := V_a1.other W5 n14
            have V_a5 := V_a5.other W5 (Ne.symm n45)
            refine Jvm.OwnW.aload O5 ds_69 rfl rfl (q := 71) rfl ?_
            refine Jvm.OwnW.iload O5 ds_71 rfl (q := 73) rfl ?_
            refine Jvm.OwnW.iload O5 ds_73 rfl (q := 75) rfl ?_
            refine Jvm.OwnW.iasA O5 ds_75 V_a5 (i := c) hc (by rw [Int32.lt_iff_toInt_lt] at hc60; omega) (Or.inl (List.mem_cons_of_mem _ (List.mem_cons_self ..))) (q := 76) rfl ?_
            intro T6 h6 O6 W6
            have V_a5 := V_a5.set W6 (by rw [Int32.lt_iff_toInt_lt] at hc60; omega)
            have V_a1 := V_a1.other W6 n15
            have V_a4 := V_a4.other W6 n45
            have V_a4 : Ar Z h6 a4 .int n (fun j => .int (updI fs c zs j)) := V_a4.congr (fun j _ => updI_eq fs c zs j)
            have V_a5 : Ar Z h6 a5 .int n (fun j => .int (updI fe c zi j)) := V_a5.congr (fun j _ => updI_eq fe c zi j)
            refine Jvm.OwnW.iinc O6 ds_76 rfl (L' := #[.val (.ref a1), .val (.int p2), .val (.int p3), .val (.ref a4), .val (.ref a5), .val (.int en), .val (.int (zc + (1 : Int32))), .val (.int zs), .val (.int zi)]) rfl (q := 79) rfl ?_
            refine Jvm.OwnW.iload O6 ds_79 rfl (q := 81) rfl ?_
            refine Jvm.OwnW.iconst O6 ds_81 (r := (1 : Int32)) rfl (q := 82) rfl ?_
            refine Jvm.OwnW.iadd O6 ds_82 rfl (q := 83) rfl ?_
            refine Jvm.OwnW.istore O6 ds_83 (L' := #[.val (.ref a1), .val (.int p2), .val (.int p3), .val (.ref a4), .val (.ref a5), .val (.int en), .val (.int (zc + (1 : Int32))), .val (.int (zi + (1 : Int32))), .val (.int zi)]) rfl (q := 85) rfl ?_
            refine Jvm.OwnW.iinc O6 ds_85 rfl (L' := #[.val (.ref a1), .val (.int p2), .val (.int p3), .val (.ref a4), .val (.ref a5), .val (.int en), .val (.int (zc + (1 : Int32))), .val (.int (zi + (1 : Int32))), .val (.int (zi + (1 : Int32)))]) rfl (q := 88) rfl ?_
            refine Jvm.OwnW.goto O6 ds_88 (by decide) (q := 33) rfl ?_
            exact ih _ _ O6 (i + 1) (c + 1) (i + 1) _ _ _ (updI fs c zs) (updI fe c zi) (by rw [add32 (by rw [hi]; show _ ≤ _ + (1 : Int); omega) (by rw [hi]; show _ + (1 : Int) < _; omega), hi]; rfl) (by rw [add32 (by rw [hc]; show _ ≤ _ + (1 : Int); omega) (by rw [hc]; show _ + (1 : Int) < _; omega), hc]; rfl) (by rw [add32 (by rw [hi]; show _ ≤ _ + (1 : Int); omega) (by rw [hi]; show _ + (1 : Int) < _; omega), hi]; rfl) (by omega) (inv_bar I (by omega) (by omega) hc53 hs hi) V_a1 V_a4 V_a5
          · refine Jvm.OwnW.icmpYes O2 ds_60 (flt hc60).2.1 (by decide) (q := 76) rfl ?_
            have V_a4 : Ar Z h2 a4 .int n (fun j => .int (updI fs c zs j)) := V_a4.congr (fun j hj => by rw [updI_ne _ _ _ _ (fun q => hc60 (lt32 (by omega)))])
            have V_a5 : Ar Z h2 a5 .int n (fun j => .int (updI fe c zi j)) := V_a5.congr (fun j hj => by rw [updI_ne _ _ _ _ (fun q => hc60 (lt32 (by omega)))])
            refine Jvm.OwnW.iinc O2 ds_76 rfl (L' := #[.val (.ref a1), .val (.int p2), .val (.int p3), .val (.ref a4), .val (.ref a5), .val (.int en), .val (.int (zc + (1 : Int32))), .val (.int zs), .val (.int zi)]) rfl (q := 79) rfl ?_
            refine Jvm.OwnW.iload O2 ds_79 rfl (q := 81) rfl ?_
            refine Jvm.OwnW.iconst O2 ds_81 (r := (1 : Int32)) rfl (q := 82) rfl ?_
            refine Jvm.OwnW.iadd O2 ds_82 rfl (q := 83) rfl ?_
            refine Jvm.OwnW.istore O2 ds_83 (L' := #[.val (.ref a1), .val (.int p2), .val (.int p3), .val (.ref a4), .val (.ref a5), .val (.int en), .val (.int (zc + (1 : Int32))), .val (.int (zi + (1 : Int32))), .val (.int zi)]) rfl (q := 85) rfl ?_
            refine Jvm.OwnW.iinc O2 ds_85 rfl (L' := #[.val (.ref a1), .val (.int p2), .val (.int p3), .val (.ref a4), .val (.ref a5), .val (.int en), .val (.int (zc + (1 : Int32))), .val (.int (zi + (1 : Int32))), .val (.int (zi + (1 : Int32)))]) rfl (q := 88) rfl ?_
            refine Jvm.OwnW.goto O2 ds_88 (by decide) (q := 33) rfl ?_
            exact ih _ _ O2 (i + 1) (c + 1) (i + 1) _ _ _ (updI fs c zs) (updI fe c zi) (by rw [add32 (by rw [hi]; show _ ≤ _ + (1 : Int); omega) (by rw [hi]; show _ + (1 : Int) < _; omega), hi]; rfl) (by rw [add32 (by rw [hc]; show _ ≤ _ + (1 : Int); omega) (by rw [hc]; show _ + (1 : Int) < _; omega), hc]; rfl) (by rw [add32 (by rw [hi]; show _ ≤ _ + (1 : Int); omega) (by rw [hi]; show _ + (1 : Int) < _; omega), hi]; rfl) (by omega) (inv_bar I (by omega) (by omega) hc53 hs hi) V_a1 V_a4 V_a5
        · refine Jvm.OwnW.icmpYes O2 ds_53 (feq hc53).2 (by decide) (q := 85) rfl ?_
          refine Jvm.OwnW.iinc O2 ds_85 rfl (L' := #[.val (.ref a1), .val (.int p2), .val (.int p3), .val (.ref a4), .val (.ref a5), .val (.int en), .val (.int zc), .val (.int zs), .val (.int (zi + (1 : Int32)))]) rfl (q := 88) rfl ?_
          refine Jvm.OwnW.goto O2 ds_88 (by decide) (q := 33) rfl ?_
          exact ih _ _ O2 (i + 1) c st _ _ _ fs fe (by rw [add32 (by rw [hi]; show _ ≤ _ + (1 : Int); omega) (by rw [hi]; show _ + (1 : Int) < _; omega), hi]; rfl) hc hs (by omega) (inv_no I (by omega) hc53) V_a1 V_a4 V_a5
    exact lp (eN - fN) _ _ O1 fN 0 fN _ _ _ (fun _ => -7) (fun _ => -7) hf rfl hf (by omega) (inv_start g fN eN n hE1) V_a1 V_a4 V_a5
  refine Jvm.OwnW.iloadN O ds_0 rfl (q := 1) rfl ?_
  refine Jvm.OwnW.iloadN O ds_1 rfl (q := 2) rfl ?_
  by_cases hc2 : p2 < p3
  · refine Jvm.OwnW.icmpNo O ds_2 (tlt hc2).2.2.2 (q := 5) rfl ?_
    have hlt : fN < tN := by rw [Int32.lt_iff_toInt_lt] at hc2; omega
    have hsub : (p3 - 1).toInt = ((tN - 1 : Nat) : Int) := by rw [sub32 (by rw [ht]; show _ ≤ _ - (1 : Int); omega) (by rw [ht]; show _ - (1 : Int) < _; omega), ht]; show _ - (1 : Int) = _; omega
    refine Jvm.OwnW.aloadN O ds_5 rfl rfl (q := 6) rfl ?_
    refine Jvm.OwnW.iloadN O ds_6 rfl (q := 7) rfl ?_
    refine Jvm.OwnW.iconst O ds_7 (r := (1 : Int32)) rfl (q := 8) rfl ?_
    refine Jvm.OwnW.isub O ds_8 rfl (q := 9) rfl ?_
    refine Jvm.OwnW.balA O ds_9 V_a1 (i := (tN - 1)) hsub (by omega) (v := (.int (g (tN - 1)))) rfl (q := 10) rfl ?_
    refine Jvm.OwnW.bipush O ds_10 (r := (124 : Int32)) rfl (q := 12) rfl ?_
    by_cases hc12 : (g (tN - 1)) = (124 : Int32)
    · refine Jvm.OwnW.icmpNo O ds_12 (teq hc12).2 (q := 15) rfl ?_
      refine Jvm.OwnW.iloadN O ds_15 rfl (q := 16) rfl ?_
      refine Jvm.OwnW.iconst O ds_16 (r := (1 : Int32)) rfl (q := 17) rfl ?_
      refine Jvm.OwnW.isub O ds_17 rfl (q := 18) rfl ?_
      refine Jvm.OwnW.goto O ds_18 (by decide) (q := 22) rfl ?_
      exact J22 _ O _ (by rw [← heN, own_end, if_pos ⟨hlt, hc12⟩]; exact hsub) 
    · refine Jvm.OwnW.icmpYes O ds_12 (feq hc12).2 (by decide) (q := 21) rfl ?_
      refine Jvm.OwnW.iloadN O ds_21 rfl (q := 22) rfl ?_
      exact J22 _ O _ (by rw [← heN, own_end, if_neg (fun q => hc12 q.2)]; exact ht) 
  · refine Jvm.OwnW.icmpYes O ds_2 (flt hc2).2.2.2 (by decide) (q := 21) rfl ?_
    refine Jvm.OwnW.iloadN O ds_21 rfl (q := 22) rfl ?_
    exact J22 _ O _ (by rw [← heN, own_end, if_neg (fun q => by rw [Int32.lt_iff_toInt_lt] at hc2; omega)]; exact ht) 
theorem pd_1 : parseMethodDescriptor "([BII)I" = some ⟨[(.array .byte), .int, .int], some .int⟩ := by decide +kernel
theorem dd_0 : decode method_7_code 0 = .ok (.iload 6, 2) := by decide +kernel
theorem dd_2 : decode method_7_code 2 = .ok (.aload 4, 2) := by decide +kernel
theorem dd_4 : decode method_7_code 4 = .ok (.arraylength, 1) := by decide +kernel
theorem dd_5 : decode method_7_code 5 = .ok (.if_icmp .lt 5, 3) := by decide +kernel
theorem dd_8 : decode method_7_code 8 = .ok (.iconst 1, 1) := by decide +kernel
theorem dd_9 : decode method_7_code 9 = .ok (.ireturn, 1) := by decide +kernel
theorem dd_10 : decode method_7_code 10 = .ok (.iload 6, 2) := by decide +kernel
theorem dd_12 : decode method_7_code 12 = .ok (.iload_n 3, 1) := by decide +kernel
theorem dd_13 : decode method_7_code 13 = .ok (.if_icmp .lt 29, 3) := by decide +kernel
theorem dd_16 : decode method_7_code 16 = .ok (.aload 4, 2) := by decide +kernel
theorem dd_18 : decode method_7_code 18 = .ok (.iload 6, 2) := by decide +kernel
theorem dd_20 : decode method_7_code 20 = .ok (.iaload, 1) := by decide +kernel
theorem dd_21 : decode method_7_code 21 = .ok (.bipush (-7), 2) := by decide +kernel
theorem dd_23 : decode method_7_code 23 = .ok (.if_icmp .ne 17, 3) := by decide +kernel
theorem dd_26 : decode method_7_code 26 = .ok (.aload 5, 2) := by decide +kernel
theorem dd_28 : decode method_7_code 28 = .ok (.iload 6, 2) := by decide +kernel
theorem dd_30 : decode method_7_code 30 = .ok (.iaload, 1) := by decide +kernel
theorem dd_31 : decode method_7_code 31 = .ok (.bipush (-7), 2) := by decide +kernel
theorem dd_33 : decode method_7_code 33 = .ok (.if_icmp .ne 7, 3) := by decide +kernel
theorem dd_36 : decode method_7_code 36 = .ok (.iconst 1, 1) := by decide +kernel
theorem dd_37 : decode method_7_code 37 = .ok (.goto 4, 3) := by decide +kernel
theorem dd_41 : decode method_7_code 41 = .ok (.ireturn, 1) := by decide +kernel
theorem dd_42 : decode method_7_code 42 = .ok (.aload 4, 2) := by decide +kernel
theorem dd_44 : decode method_7_code 44 = .ok (.iload 6, 2) := by decide +kernel
theorem dd_46 : decode method_7_code 46 = .ok (.iaload, 1) := by decide +kernel
theorem dd_47 : decode method_7_code 47 = .ok (.istore 7, 2) := by decide +kernel
theorem dd_49 : decode method_7_code 49 = .ok (.aload 5, 2) := by decide +kernel
theorem dd_51 : decode method_7_code 51 = .ok (.iload 6, 2) := by decide +kernel
theorem dd_53 : decode method_7_code 53 = .ok (.iaload, 1) := by decide +kernel
theorem dd_54 : decode method_7_code 54 = .ok (.istore 8, 2) := by decide +kernel
theorem dd_56 : decode method_7_code 56 = .ok (.iload_n 1, 1) := by decide +kernel
theorem dd_57 : decode method_7_code 57 = .ok (.iload 7, 2) := by decide +kernel
theorem dd_59 : decode method_7_code 59 = .ok (.if_icmp .gt 16, 3) := by decide +kernel
theorem dd_62 : decode method_7_code 62 = .ok (.iload 7, 2) := by decide +kernel
theorem dd_64 : decode method_7_code 64 = .ok (.iload 8, 2) := by decide +kernel
theorem dd_66 : decode method_7_code 66 = .ok (.if_icmp .gt 9, 3) := by decide +kernel
theorem dd_69 : decode method_7_code 69 = .ok (.iload 8, 2) := by decide +kernel
theorem dd_71 : decode method_7_code 71 = .ok (.iload_n 2, 1) := by decide +kernel
theorem dd_72 : decode method_7_code 72 = .ok (.if_icmp .le 5, 3) := by decide +kernel
theorem dd_77 : decode method_7_code 77 = .ok (.iload 6, 2) := by decide +kernel
theorem dd_79 : decode method_7_code 79 = .ok (.ifCond .ne 11, 3) := by decide +kernel
theorem dd_82 : decode method_7_code 82 = .ok (.iload 7, 2) := by decide +kernel
theorem dd_84 : decode method_7_code 84 = .ok (.iload_n 1, 1) := by decide +kernel
theorem dd_85 : decode method_7_code 85 = .ok (.if_icmp .eq 46, 3) := by decide +kernel
theorem dd_90 : decode method_7_code 90 = .ok (.aload 5, 2) := by decide +kernel
theorem dd_92 : decode method_7_code 92 = .ok (.iload 6, 2) := by decide +kernel
theorem dd_94 : decode method_7_code 94 = .ok (.iconst 1, 1) := by decide +kernel
theorem dd_95 : decode method_7_code 95 = .ok (.isub, 1) := by decide +kernel
theorem dd_96 : decode method_7_code 96 = .ok (.iaload, 1) := by decide +kernel
theorem dd_97 : decode method_7_code 97 = .ok (.istore 9, 2) := by decide +kernel
theorem dd_99 : decode method_7_code 99 = .ok (.iload 9, 2) := by decide +kernel
theorem dd_101 : decode method_7_code 101 = .ok (.ifCond .lt 28, 3) := by decide +kernel
theorem dd_104 : decode method_7_code 104 = .ok (.iload 9, 2) := by decide +kernel
theorem dd_106 : decode method_7_code 106 = .ok (.bipush 6, 2) := by decide +kernel
theorem dd_108 : decode method_7_code 108 = .ok (.if_icmp .ge 21, 3) := by decide +kernel
theorem dd_111 : decode method_7_code 111 = .ok (.aload_n 0, 1) := by decide +kernel
theorem dd_112 : decode method_7_code 112 = .ok (.iload 9, 2) := by decide +kernel
theorem dd_114 : decode method_7_code 114 = .ok (.baload, 1) := by decide +kernel
theorem dd_115 : decode method_7_code 115 = .ok (.bipush 124, 2) := by decide +kernel
theorem dd_117 : decode method_7_code 117 = .ok (.if_icmp .ne 12, 3) := by decide +kernel
theorem dd_120 : decode method_7_code 120 = .ok (.iload 7, 2) := by decide +kernel
theorem dd_122 : decode method_7_code 122 = .ok (.iload 9, 2) := by decide +kernel
theorem dd_124 : decode method_7_code 124 = .ok (.iconst 1, 1) := by decide +kernel
theorem dd_125 : decode method_7_code 125 = .ok (.iadd, 1) := by decide +kernel
theorem dd_126 : decode method_7_code 126 = .ok (.if_icmp .eq 5, 3) := by decide +kernel
theorem dd_131 : decode method_7_code 131 = .ok (.iload 6, 2) := by decide +kernel
theorem dd_133 : decode method_7_code 133 = .ok (.iload_n 3, 1) := by decide +kernel
theorem dd_134 : decode method_7_code 134 = .ok (.iconst 1, 1) := by decide +kernel
theorem dd_135 : decode method_7_code 135 = .ok (.isub, 1) := by decide +kernel
theorem dd_136 : decode method_7_code 136 = .ok (.if_icmp .ne 11, 3) := by decide +kernel
theorem dd_139 : decode method_7_code 139 = .ok (.iload 8, 2) := by decide +kernel
theorem dd_141 : decode method_7_code 141 = .ok (.iload_n 2, 1) := by decide +kernel
theorem dd_142 : decode method_7_code 142 = .ok (.if_icmp .eq 22, 3) := by decide +kernel
theorem dd_147 : decode method_7_code 147 = .ok (.iload 8, 2) := by decide +kernel
theorem dd_149 : decode method_7_code 149 = .ok (.iload_n 2, 1) := by decide +kernel
theorem dd_150 : decode method_7_code 150 = .ok (.if_icmp .ge 12, 3) := by decide +kernel
theorem dd_153 : decode method_7_code 153 = .ok (.aload_n 0, 1) := by decide +kernel
theorem dd_154 : decode method_7_code 154 = .ok (.iload 8, 2) := by decide +kernel
theorem dd_156 : decode method_7_code 156 = .ok (.baload, 1) := by decide +kernel
theorem dd_157 : decode method_7_code 157 = .ok (.bipush 124, 2) := by decide +kernel
theorem dd_159 : decode method_7_code 159 = .ok (.if_icmp .eq 5, 3) := by decide +kernel
theorem dd_164 : decode method_7_code 164 = .ok (.aload_n 0, 1) := by decide +kernel
theorem dd_165 : decode method_7_code 165 = .ok (.iload 7, 2) := by decide +kernel
theorem dd_167 : decode method_7_code 167 = .ok (.iload 8, 2) := by decide +kernel
theorem dd_169 : decode method_7_code 169 = .ok (.invokestatic 24, 3) := by decide +kernel
theorem dd_172 : decode method_7_code 172 = .ok (.ifCond .ne 7, 3) := by decide +kernel
theorem dd_175 : decode method_7_code 175 = .ok (.iconst 1, 1) := by decide +kernel
theorem dd_176 : decode method_7_code 176 = .ok (.goto 4, 3) := by decide +kernel
theorem dd_180 : decode method_7_code 180 = .ok (.ireturn, 1) := by decide +kernel
theorem ef_d (a1 : Addr) (p2 : Int32) (p3 : Int32) (p4 : Int32) (a5 : Addr) (a6 : Addr) (p7 : Int32) (zl : Int32) (m : MethodId) : entryFrame m #[(.ref a1), (.int p2), (.int p3), (.int p4), (.ref a5), (.ref a6), (.int p7)] 10 = mkF m 0 #[.val (.ref a1), .val (.int p2), .val (.int p3), .val (.int p4), .val (.ref a5), .val (.ref a6), .val (.int p7), .unset, .unset, .unset] [] := by first | (simp [entryFrame, mkF, argsToLocals, Value.category, maxLocals]; done) | rfl
theorem pn_d : plainFor (⟨"com/example/lamina/lamina/table/DelimitedLineSplitPinLaw", "field", "([BIII[I[II)Z"⟩ : MethodName) = true := by first | exact plainFor_of_name (by first | (simp [plainName, overriddenIn]; done) | decide +kernel) | decide +kernel
set_option maxRecDepth 65536 in
set_option maxHeartbeats 40000000 in
theorem rm_d (l : Launch) (Z : State) (a0 : Array Value) (hw : ∀ d ∈ tables_1, d.before a0 Z = true) (a1 : Addr) (p2 : Int32) (p3 : Int32) (p4 : Int32) (a5 : Addr) (a6 : Addr) (p7 : Int32) (g fs fe : Nat → Int32) (fN eN n cN f : Nat) (zl : Int32) (h0 : Heap) (V_a1 : Ar Z h0 a1 .byte 6 (fun j => .int (g j))) (V_a5 : Ar Z h0 a5 .int n (fun j => .int (fs j))) (V_a6 : Ar Z h0 a6 .int n (fun j => .int (fe j))) (hF : FinA g fN eN n cN fs fe) (hf2 : p2.toInt = (fN : Int)) (hE : p3.toInt = (eN : Int)) (hcn : p4.toInt = (cN : Int)) (hf : p7.toInt = (f : Int)) (hzl : zl.toInt = (n : Int)) (h6 : eN ≤ 6) (hc7 : cN ≤ 7) :
    Met l Z (⟨"com/example/lamina/lamina/table/DelimitedLineSplitPinLaw", "field", "([BIII[I[II)Z"⟩ : MethodName) method_7_code 10 (some .boolean) [] ({ frames := 2, cells := 0, slots := 0, locals := 30 } : Room) #[(.ref a1), (.int p2), (.int p3), (.int p4), (.ref a5), (.ref a6), (.int p7)] [] h0 (fun v h => v = some (.int 1)) := by
  refine Met.mk pn_d (ef_d a1 p2 p3 p4 a5 a6 p7 zl) ?_
  intro C T hs0 O
  show Go C [] (fun v h => v = some (.int 1)) 0 0 (T.setTop (mkF C.m 0 #[.val (.ref a1), .val (.int p2), .val (.int p3), .val (.int p4), .val (.ref a5), .val (.ref a6), .val (.int p7), .unset, .unset, .unset] []))
  refine Jvm.OwnW.iload O dd_0 rfl (q := 2) rfl ?_
  refine Jvm.OwnW.aload O dd_2 rfl rfl (q := 4) rfl ?_
  refine Jvm.OwnW.lenA O dd_4 V_a5 (z := zl) hzl (q := 5) rfl ?_
  by_cases hc5 : p7 < zl
  · refine Jvm.OwnW.icmpYes O dd_5 (tlt hc5).1 (by decide) (q := 10) rfl ?_
    have hfn : f < n := by rw [Int32.lt_iff_toInt_lt] at hc5; omega
    refine Jvm.OwnW.iload O dd_10 rfl (q := 12) rfl ?_
    refine Jvm.OwnW.iloadN O dd_12 rfl (q := 13) rfl ?_
    by_cases hc13 : p7 < p4
    · refine Jvm.OwnW.icmpYes O dd_13 (tlt hc13).1 (by decide) (q := 42) rfl ?_
      have hfc : f < cN := by rw [Int32.lt_iff_toInt_lt] at hc13; omega
      obtain ⟨s, e, ⟨hs, he, k1, k2, k3, k4, k5, k6⟩, k7, k8⟩ := hF.2.1 f hfc hfn
      refine Jvm.OwnW.aload O dd_42 rfl rfl (q := 44) rfl ?_
      refine Jvm.OwnW.iload O dd_44 rfl (q := 46) rfl ?_
      refine Jvm.OwnW.ialA O dd_46 V_a5 (i := f) hf hfn (v := (.int (fs f))) rfl (q := 47) rfl ?_
      refine Jvm.OwnW.istore O dd_47 (L' := #[.val (.ref a1), .val (.int p2), .val (.int p3), .val (.int p4), .val (.ref a5), .val (.ref a6), .val (.int p7), .val (.int (fs f)), .unset, .unset]) rfl (q := 49) rfl ?_
      refine Jvm.OwnW.aload O dd_49 rfl rfl (q := 51) rfl ?_
      refine Jvm.OwnW.iload O dd_51 rfl (q := 53) rfl ?_
      refine Jvm.OwnW.ialA O dd_53 V_a6 (i := f) hf hfn (v := (.int (fe f))) rfl (q := 54) rfl ?_
      refine Jvm.OwnW.istore O dd_54 (L' := #[.val (.ref a1), .val (.int p2), .val (.int p3), .val (.int p4), .val (.ref a5), .val (.ref a6), .val (.int p7), .val (.int (fs f)), .val (.int (fe f)), .unset]) rfl (q := 56) rfl ?_
      refine Jvm.OwnW.iloadN O dd_56 rfl (q := 57) rfl ?_
      refine Jvm.OwnW.iload O dd_57 rfl (q := 59) rfl ?_
      refine Jvm.OwnW.icmpNo O dd_59 (flt (show ¬ ((fs f) < p2) from nlt32 (by omega))).2.2.1 (q := 62) rfl ?_
      refine Jvm.OwnW.iload O dd_62 rfl (q := 64) rfl ?_
      refine Jvm.OwnW.iload O dd_64 rfl (q := 66) rfl ?_
      refine Jvm.OwnW.icmpNo O dd_66 (flt (show ¬ ((fe f) < (fs f)) from nlt32 (by omega))).2.2.1 (q := 69) rfl ?_
      refine Jvm.OwnW.iload O dd_69 rfl (q := 71) rfl ?_
      refine Jvm.OwnW.iloadN O dd_71 rfl (q := 72) rfl ?_
      refine Jvm.OwnW.icmpYes O dd_72 (flt (show ¬ (p3 < (fe f)) from nlt32 (by omega))).2.2.2 (by decide) (q := 77) rfl ?_
      refine Jvm.OwnW.iload O dd_77 rfl (q := 79) rfl ?_
      by_cases hc79 : p7 = (0 : Int32)
      · refine Jvm.OwnW.ifNo O dd_79 (teq0 hc79).2 (q := 82) rfl ?_
        have hf0 : f = 0 := by rw [hc79] at hf; have : (0 : Int32).toInt = 0 := rfl; omega
        have k5 := k5 hf0
        refine Jvm.OwnW.iload O dd_82 rfl (q := 84) rfl ?_
        refine Jvm.OwnW.iloadN O dd_84 rfl (q := 85) rfl ?_
        refine Jvm.OwnW.icmpYes O dd_85 (teq (show (fs f) = p2 from eq32 (by omega))).1 (by decide) (q := 131) rfl ?_
        refine Jvm.OwnW.iload O dd_131 rfl (q := 133) rfl ?_
        refine Jvm.OwnW.iloadN O dd_133 rfl (q := 134) rfl ?_
        refine Jvm.OwnW.iconst O dd_134 (r := (1 : Int32)) rfl (q := 135) rfl ?_
        have hcm : (p4 - 1).toInt = (cN : Int) - 1 := by rw [sub32 (by rw [hcn]; show _ ≤ _ - (1 : Int); omega) (by rw [hcn]; show _ - (1 : Int) < _; omega), hcn]; rfl
        refine Jvm.OwnW.isub O dd_135 rfl (q := 136) rfl ?_
        by_cases hc136 : p7 = (p4 - (1 : Int32))
        · refine Jvm.OwnW.icmpNo O dd_136 (teq hc136).2 (q := 139) rfl ?_
          have hlast : f + 1 = cN := by
            have q := congrArg Int32.toInt hc136
            rw [hf, hcm] at q; omega
          refine Jvm.OwnW.iload O dd_139 rfl (q := 141) rfl ?_
          refine Jvm.OwnW.iloadN O dd_141 rfl (q := 142) rfl ?_
          refine Jvm.OwnW.icmpYes O dd_142 (teq (show (fe f) = p3 from eq32 (by rw [he, hE, k7 hlast]))).1 (by decide) (q := 164) rfl ?_
          refine Jvm.OwnW.aloadN O dd_164 rfl rfl (q := 165) rfl ?_
          refine Jvm.OwnW.iload O dd_165 rfl (q := 167) rfl ?_
          refine Jvm.OwnW.iload O dd_167 rfl (q := 169) rfl ?_
          refine Jvm.OwnW.callS0 O (y := (⟨"com/example/lamina/lamina/table/DelimitedLineSplitPinLaw", "bars", "([BII)I"⟩ : MethodName)) (argsL := [(.ref a1), (.int (fs f)), (.int (fe f))]) (rest := []) dd_169 (hw _ (List.mem_of_getElem? (i := 14) rfl)) (hw _ (List.mem_of_getElem? (i := 15) rfl)) (hw _ (List.mem_of_getElem? (i := 3) rfl)) (hw _ (List.mem_of_getElem? (i := 16) rfl)) (by decide) (rm_b l Z a0 hw a1 (fs f) (fe f) g s e h0 V_a1 hs he) rfl pd_1 rfl (hst := rfl) (W := 0) (Nat.le_of_eq rfl) (by decide) (by decide) (c2 := 0) (s2 := 0) rfl rfl (by decide) (by decide) rfl rfl (q := 172) rfl ?_
          intro v1 T1 O1 q1
          obtain ⟨zz, rfl, hzz⟩ := q1
          show Go C _ _ _ _ (T1.setTop (mkF C.m 172 #[.val (.ref a1), .val (.int p2), .val (.int p3), .val (.int p4), .val (.ref a5), .val (.ref a6), .val (.int p7), .val (.int (fs f)), .val (.int (fe f)), .unset] [(.int zz)]))
          refine Jvm.OwnW.ifNo O1 dd_172 (teq0 (show zz = (0 : Int32) from eq32 (by rw [hzz, k4]; rfl))).2 (q := 175) rfl ?_
          refine Jvm.OwnW.iconst O1 dd_175 (r := (1 : Int32)) rfl (q := 176) rfl ?_
          refine Jvm.OwnW.goto O1 dd_176 (by decide) (q := 180) rfl ?_
          exact Jvm.OwnW.retB O1 dd_180 rfl (Or.inr rfl) (by decide) (by decide) rfl
        · refine Jvm.OwnW.icmpYes O dd_136 (feq hc136).2 (by decide) (q := 147) rfl ?_
          have hlast : f + 1 ≠ cN := fun q => hc136 (eq32 (by rw [hf, hcm]; omega))
          refine Jvm.OwnW.iload O dd_147 rfl (q := 149) rfl ?_
          refine Jvm.OwnW.iloadN O dd_149 rfl (q := 150) rfl ?_
          refine Jvm.OwnW.icmpNo O dd_150 (tlt (show (fe f) < p3 from lt32 (by have := (k8 hlast).1; omega))).2.1 (q := 153) rfl ?_
          refine Jvm.OwnW.aloadN O dd_153 rfl rfl (q := 154) rfl ?_
          refine Jvm.OwnW.iload O dd_154 rfl (q := 156) rfl ?_
          refine Jvm.OwnW.balA O dd_156 V_a1 (i := e) he (by omega) (v := (.int (g e))) rfl (q := 157) rfl ?_
          refine Jvm.OwnW.bipush O dd_157 (r := (124 : Int32)) rfl (q := 159) rfl ?_
          refine Jvm.OwnW.icmpYes O dd_159 (teq (show (g e) = (124 : Int32) from (k8 hlast).2)).1 (by decide) (q := 164) rfl ?_
          refine Jvm.OwnW.aloadN O dd_164 rfl rfl (q := 165) rfl ?_
          refine Jvm.OwnW.iload O dd_165 rfl (q := 167) rfl ?_
          refine Jvm.OwnW.iload O dd_167 rfl (q := 169) rfl ?_
          refine Jvm.OwnW.callS0 O (y := (⟨"com/example/lamina/lamina/table/DelimitedLineSplitPinLaw", "bars", "([BII)I"⟩ : MethodName)) (argsL := [(.ref a1), (.int (fs f)), (.int (fe f))]) (rest := []) dd_169 (hw _ (List.mem_of_getElem? (i := 14) rfl)) (hw _ (List.mem_of_getElem? (i := 15) rfl)) (hw _ (List.mem_of_getElem? (i := 3) rfl)) (hw _ (List.mem_of_getElem? (i := 16) rfl)) (by decide) (rm_b l Z a0 hw a1 (fs f) (fe f) g s e h0 V_a1 hs he) rfl pd_1 rfl (hst := rfl) (W := 0) (Nat.le_of_eq rfl) (by decide) (by decide) (c2 := 0) (s2 := 0) rfl rfl (by decide) (by decide) rfl rfl (q := 172) rfl ?_
          intro v2 T2 O2 q2
          obtain ⟨zz, rfl, hzz⟩ := q2
          show Go C _ _ _ _ (T2.setTop (mkF C.m 172 #[.val (.ref a1), .val (.int p2), .val (.int p3), .val (.int p4), .val (.ref a5), .val (.ref a6), .val (.int p7), .val (.int (fs f)), .val (.int (fe f)), .unset] [(.int zz)]))
          refine Jvm.OwnW.ifNo O2 dd_172 (teq0 (show zz = (0 : Int32) from eq32 (by rw [hzz, k4]; rfl))).2 (q := 175) rfl ?_
          refine Jvm.OwnW.iconst O2 dd_175 (r := (1 : Int32)) rfl (q := 176) rfl ?_
          refine Jvm.OwnW.goto O2 dd_176 (by decide) (q := 180) rfl ?_
          exact Jvm.OwnW.retB O2 dd_180 rfl (Or.inr rfl) (by decide) (by decide) rfl
      · refine Jvm.OwnW.ifYes O dd_79 (feq0 hc79).2 (by decide) (q := 90) rfl ?_
        have hfp : 0 < f := Nat.pos_of_ne_zero (fun q => hc79 (eq32 (by rw [hf, q]; rfl)))
        obtain ⟨k9, k10, hpr⟩ := k6 hfp
        have hf1 : (p7 - 1).toInt = ((f - 1 : Nat) : Int) := by rw [sub32 (by rw [hf]; show _ ≤ _ - (1 : Int); omega) (by rw [hf]; show _ - (1 : Int) < _; omega), hf]; show _ - (1 : Int) = _; omega
        refine Jvm.OwnW.aload O dd_90 rfl rfl (q := 92) rfl ?_
        refine Jvm.OwnW.iload O dd_92 rfl (q := 94) rfl ?_
        refine Jvm.OwnW.iconst O dd_94 (r := (1 : Int32)) rfl (q := 95) rfl ?_
        refine Jvm.OwnW.isub O dd_95 rfl (q := 96) rfl ?_
        refine Jvm.OwnW.ialA O dd_96 V_a6 (i := (f - 1)) hf1 (by omega) (v := (.int (fe (f - 1)))) rfl (q := 97) rfl ?_
        refine Jvm.OwnW.istore O dd_97 (L' := #[.val (.ref a1), .val (.int p2), .val (.int p3), .val (.int p4), .val (.ref a5), .val (.ref a6), .val (.int p7), .val (.int (fs f)), .val (.int (fe f)), .val (.int (fe (f - 1)))]) rfl (q := 99) rfl ?_
        refine Jvm.OwnW.iload O dd_99 rfl (q := 101) rfl ?_
        refine Jvm.OwnW.ifNo O dd_101 (flt0 (show ¬ ((fe (f - 1)) < (0 : Int32)) from nlt32 (by rw [hpr]; show (0 : Int) ≤ _; omega))).1 (q := 104) rfl ?_
        refine Jvm.OwnW.iload O dd_104 rfl (q := 106) rfl ?_
        refine Jvm.OwnW.bipush O dd_106 (r := (6 : Int32)) rfl (q := 108) rfl ?_
        refine Jvm.OwnW.icmpNo O dd_108 (tlt (show (fe (f - 1)) < (6 : Int32) from lt32 (by rw [hpr]; show _ < (6 : Int); omega))).2.1 (q := 111) rfl ?_
        refine Jvm.OwnW.aloadN O dd_111 rfl rfl (q := 112) rfl ?_
        refine Jvm.OwnW.iload O dd_112 rfl (q := 114) rfl ?_
        refine Jvm.OwnW.balA O dd_114 V_a1 (i := (s - 1)) hpr (by omega) (v := (.int (g (s - 1)))) rfl (q := 115) rfl ?_
        refine Jvm.OwnW.bipush O dd_115 (r := (124 : Int32)) rfl (q := 117) rfl ?_
        refine Jvm.OwnW.icmpNo O dd_117 (teq (show (g (s - 1)) = (124 : Int32) from k10)).2 (q := 120) rfl ?_
        refine Jvm.OwnW.iload O dd_120 rfl (q := 122) rfl ?_
        refine Jvm.OwnW.iload O dd_122 rfl (q := 124) rfl ?_
        refine Jvm.OwnW.iconst O dd_124 (r := (1 : Int32)) rfl (q := 125) rfl ?_
        refine Jvm.OwnW.iadd O dd_125 rfl (q := 126) rfl ?_
        refine Jvm.OwnW.icmpYes O dd_126 (teq (show (fs f) = ((fe (f - 1)) + (1 : Int32)) from eq32 (by rw [hs, add32 (by rw [hpr]; show _ ≤ _ + (1 : Int); omega) (by rw [hpr]; show _ + (1 : Int) < _; omega), hpr]; show _ = _ + (1 : Int); omega))).1 (by decide) (q := 131) rfl ?_
        refine Jvm.OwnW.iload O dd_131 rfl (q := 133) rfl ?_
        refine Jvm.OwnW.iloadN O dd_133 rfl (q := 134) rfl ?_
        refine Jvm.OwnW.iconst O dd_134 (r := (1 : Int32)) rfl (q := 135) rfl ?_
        have hcm : (p4 - 1).toInt = (cN : Int) - 1 := by rw [sub32 (by rw [hcn]; show _ ≤ _ - (1 : Int); omega) (by rw [hcn]; show _ - (1 : Int) < _; omega), hcn]; rfl
        refine Jvm.OwnW.isub O dd_135 rfl (q := 136) rfl ?_
        by_cases hc136 : p7 = (p4 - (1 : Int32))
        · refine Jvm.OwnW.icmpNo O dd_136 (teq hc136).2 (q := 139) rfl ?_
          have hlast : f + 1 = cN := by
            have q := congrArg Int32.toInt hc136
            rw [hf, hcm] at q; omega
          refine Jvm.OwnW.iload O dd_139 rfl (q := 141) rfl ?_
          refine Jvm.OwnW.iloadN O dd_141 rfl (q := 142) rfl ?_
          refine Jvm.OwnW.icmpYes O dd_142 (teq (show (fe f) = p3 from eq32 (by rw [he, hE, k7 hlast]))).1 (by decide) (q := 164) rfl ?_
          refine Jvm.OwnW.aloadN O dd_164 rfl rfl (q := 165) rfl ?_
          refine Jvm.OwnW.iload O dd_165 rfl (q := 167) rfl ?_
          refine Jvm.OwnW.iload O dd_167 rfl (q := 169) rfl ?_
          refine Jvm.OwnW.callS0 O (y := (⟨"com/example/lamina/lamina/table/DelimitedLineSplitPinLaw", "bars", "([BII)I"⟩ : MethodName)) (argsL := [(.ref a1), (.int (fs f)), (.int (fe f))]) (rest := []) dd_169 (hw _ (List.mem_of_getElem? (i := 14) rfl)) (hw _ (List.mem_of_getElem? (i := 15) rfl)) (hw _ (List.mem_of_getElem? (i := 3) rfl)) (hw _ (List.mem_of_getElem? (i := 16) rfl)) (by decide) (rm_b l Z a0 hw a1 (fs f) (fe f) g s e h0 V_a1 hs he) rfl pd_1 rfl (hst := rfl) (W := 0) (Nat.le_of_eq rfl) (by decide) (by decide) (c2 := 0) (s2 := 0) rfl rfl (by decide) (by decide) rfl rfl (q := 172) rfl ?_
          intro v3 T3 O3 q3
          obtain ⟨zz, rfl, hzz⟩ := q3
          show Go C _ _ _ _ (T3.setTop (mkF C.m 172 #[.val (.ref a1), .val (.int p2), .val (.int p3), .val (.int p4), .val (.ref a5), .val (.ref a6), .val (.int p7), .val (.int (fs f)), .val (.int (fe f)), .val (.int (fe (f - 1)))] [(.int zz)]))
          refine Jvm.OwnW.ifNo O3 dd_172 (teq0 (show zz = (0 : Int32) from eq32 (by rw [hzz, k4]; rfl))).2 (q := 175) rfl ?_
          refine Jvm.OwnW.iconst O3 dd_175 (r := (1 : Int32)) rfl (q := 176) rfl ?_
          refine Jvm.OwnW.goto O3 dd_176 (by decide) (q := 180) rfl ?_
          exact Jvm.OwnW.retB O3 dd_180 rfl (Or.inr rfl) (by decide) (by decide) rfl
        · refine Jvm.OwnW.icmpYes O dd_136 (feq hc136).2 (by decide) (q := 147) rfl ?_
          have hlast : f + 1 ≠ cN := fun q => hc136 (eq32 (by rw [hf, hcm]; omega))
          refine Jvm.OwnW.iload O dd_147 rfl (q := 149) rfl ?_
          refine Jvm.OwnW.iloadN O dd_149 rfl (q := 150) rfl ?_
          refine Jvm.OwnW.icmpNo O dd_150 (tlt (show (fe f) < p3 from lt32 (by have := (k8 hlast).1; omega))).2.1 (q := 153) rfl ?_
          refine Jvm.OwnW.aloadN O dd_153 rfl rfl (q := 154) rfl ?_
          refine Jvm.OwnW.iload O dd_154 rfl (q := 156) rfl ?_
          refine Jvm.OwnW.balA O dd_156 V_a1 (i := e) he (by omega) (v := (.int (g e))) rfl (q := 157) rfl ?_
          refine Jvm.OwnW.bipush O dd_157 (r := (124 : Int32)) rfl (q := 159) rfl ?_
          refine Jvm.OwnW.icmpYes O dd_159 (teq (show (g e) = (124 : Int32) from (k8 hlast).2)).1 (by decide) (q := 164) rfl ?_
          refine Jvm.OwnW.aloadN O dd_164 rfl rfl (q := 165) rfl ?_
          refine Jvm.OwnW.iload O dd_165 rfl (q := 167) rfl ?_
          refine Jvm.OwnW.iload O dd_167 rfl (q := 169) rfl ?_
          refine Jvm.OwnW.callS0 O (y := (⟨"com/example/lamina/lamina/table/DelimitedLineSplitPinLaw", "bars", "([BII)I"⟩ : MethodName)) (argsL := [(.ref a1), (.int (fs f)), (.int (fe f))]) (rest := []) dd_169 (hw _ (List.mem_of_getElem? (i := 14) rfl)) (hw _ (List.mem_of_getElem? (i := 15) rfl)) (hw _ (List.mem_of_getElem? (i := 3) rfl)) (hw _ (List.mem_of_getElem? (i := 16) rfl)) (by decide) (rm_b l Z a0 hw a1 (fs f) (fe f) g s e h0 V_a1 hs he) rfl pd_1 rfl (hst := rfl) (W := 0) (Nat.le_of_eq rfl) (by decide) (by decide) (c2 := 0) (s2 := 0) rfl rfl (by decide) (by decide) rfl rfl (q := 172) rfl ?_
          intro v4 T4 O4 q4
          obtain ⟨zz, rfl, hzz⟩ := q4
          show Go C _ _ _ _ (T4.setTop (mkF C.m 172 #[.val (.ref a1), .val (.int p2), .val (.int p3), .val (.int p4), .val (.ref a5), .val (.ref a6), .val (.int p7), .val (.int (fs f)), .val (.int (fe f)), .val (.int (fe (f - 1)))] [(.int zz)]))
          refine Jvm.OwnW.ifNo O4 dd_172 (teq0 (show zz = (0 : Int32) from eq32 (by rw [hzz, k4]; rfl))).2 (q := 175) rfl ?_
          refine Jvm.OwnW.iconst O4 dd_175 (r := (1 : Int32)) rfl (q := 176) rfl ?_
          refine Jvm.OwnW.goto O4 dd_176 (by decide) (q := 180) rfl ?_
          exact Jvm.OwnW.retB O4 dd_180 rfl (Or.inr rfl) (by decide) (by decide) rfl
    · refine Jvm.OwnW.icmpNo O dd_13 (flt hc13).1 (q := 16) rfl ?_
      obtain ⟨m1, m2⟩ := hF.2.2 f (by rw [Int32.lt_iff_toInt_lt] at hc13; omega) hfn
      refine Jvm.OwnW.aload O dd_16 rfl rfl (q := 18) rfl ?_
      refine Jvm.OwnW.iload O dd_18 rfl (q := 20) rfl ?_
      refine Jvm.OwnW.ialA O dd_20 V_a5 (i := f) hf hfn (v := (.int (fs f))) rfl (q := 21) rfl ?_
      refine Jvm.OwnW.bipush O dd_21 (r := (-7 : Int32)) rfl (q := 23) rfl ?_
      refine Jvm.OwnW.icmpNo O dd_23 (teq (show (fs f) = (-7 : Int32) from m1)).2 (q := 26) rfl ?_
      refine Jvm.OwnW.aload O dd_26 rfl rfl (q := 28) rfl ?_
      refine Jvm.OwnW.iload O dd_28 rfl (q := 30) rfl ?_
      refine Jvm.OwnW.ialA O dd_30 V_a6 (i := f) hf hfn (v := (.int (fe f))) rfl (q := 31) rfl ?_
      refine Jvm.OwnW.bipush O dd_31 (r := (-7 : Int32)) rfl (q := 33) rfl ?_
      refine Jvm.OwnW.icmpNo O dd_33 (teq (show (fe f) = (-7 : Int32) from m2)).2 (q := 36) rfl ?_
      refine Jvm.OwnW.iconst O dd_36 (r := (1 : Int32)) rfl (q := 37) rfl ?_
      refine Jvm.OwnW.goto O dd_37 (by decide) (q := 41) rfl ?_
      exact Jvm.OwnW.retB O dd_41 rfl (Or.inr rfl) (by decide) (by decide) rfl
  · refine Jvm.OwnW.icmpNo O dd_5 (flt hc5).1 (q := 8) rfl ?_
    refine Jvm.OwnW.iconst O dd_8 (r := (1 : Int32)) rfl (q := 9) rfl ?_
    exact Jvm.OwnW.retB O dd_9 rfl (Or.inr rfl) (by decide) (by decide) rfl
theorem pd_2 : parseMethodDescriptor "(JI)B" = some ⟨[.long, .int], some .byte⟩ := by decide +kernel
theorem pd_3 : parseMethodDescriptor "(I)[I" = some ⟨[.int], some (.array .int)⟩ := by decide +kernel
theorem pd_4 : parseMethodDescriptor "([BII[I[I)I" = some ⟨[(.array .byte), .int, .int, (.array .int), (.array .int)], some .int⟩ := by decide +kernel
theorem pd_5 : parseMethodDescriptor "([BIII[I[II)Z" = some ⟨[(.array .byte), .int, .int, .int, (.array .int), (.array .int), .int], some .boolean⟩ := by decide +kernel
theorem ef_0 (p0 : Int64) (p1 : Int32) (p2 : Int32) (p3 : Int32) (m : MethodId) : entryFrame m #[(.long p0), (.int p1), (.int p2), (.int p3)] maxLocals = mkF m 0 #[.val (.long p0), .second, .val (.int p1), .val (.int p2), .val (.int p3), .unset, .unset, .unset, .unset, .unset, .unset, .unset, .unset, .unset] [] := by first | (simp [entryFrame, mkF, argsToLocals, Value.category, maxLocals]; done) | rfl
theorem pn_0 : plainFor x = true := by first | exact plainFor_of_name (by first | (simp [plainName, overriddenIn]; done) | decide +kernel) | decide +kernel
set_option maxRecDepth 65536 in
set_option maxHeartbeats 40000000 in
theorem rm_0 (l : Launch) (Z : State) (a0 : Array Value) (hw : ∀ d ∈ tables_1, d.before a0 Z = true) (wds : List Jvm.Cond) (p0 : Int64) (p1 : Int32) (p2 : Int32) (p3 : Int32) (h0 : Heap)  :
    Met l Z x code maxLocals ret wds room_1 #[(.long p0), (.int p1), (.int p2), (.int p3)] [] h0 (fun v h => v = some (.int 1)) := by
  refine Met.mk pn_0 (ef_0 p0 p1 p2 p3) ?_
  intro C T hs0 O
  show Go C [] (fun v h => v = some (.int 1)) 16 128 (T.setTop (mkF C.m 0 #[.val (.long p0), .second, .val (.int p1), .val (.int p2), .val (.int p3), .unset, .unset, .unset, .unset, .unset, .unset, .unset, .unset, .unset] []))
  refine Jvm.OwnW.bipush O at_0 (r := (6 : Int32)) rfl (q := 2) rfl ?_
  refine Jvm.OwnW.newA' O at_2 (ty := .byte) rfl (hw _ (List.mem_of_getElem? (i := 0) rfl)) (N := 6) rfl (cap := 6) (by decide) (by decide) (c2 := 1) (s2 := 6) rfl rfl (by decide) (by decide) (q := 4) rfl ?_
  intro a1 T1 h1 g1 N1 O1 X1 V_a1
  have V_a1 : Ar Z h1 a1 .byte 6 (lf [(.int (0 : Int32)), (.int (0 : Int32)), (.int (0 : Int32)), (.int (0 : Int32)), (.int (0 : Int32)), (.int (0 : Int32))]) := V_a1.congr (lf_rep 6 _)
  refine Jvm.OwnW.astore O1 at_4 rfl (L' := #[.val (.long p0), .second, .val (.int p1), .val (.int p2), .val (.int p3), .val (.ref a1), .unset, .unset, .unset, .unset, .unset, .unset, .unset, .unset]) rfl (q := 6) rfl ?_
  refine Jvm.OwnW.aload O1 at_6 rfl rfl (q := 8) rfl ?_
  refine Jvm.OwnW.iconst O1 at_8 (r := (0 : Int32)) rfl (q := 9) rfl ?_
  refine Jvm.OwnW.lloadN O1 at_9 rfl (q := 10) rfl ?_
  refine Jvm.OwnW.iconst O1 at_10 (r := (0 : Int32)) rfl (q := 11) rfl ?_
  refine Jvm.OwnW.callS0 O1 (y := (⟨"com/example/lamina/lamina/table/DelimitedLineSplitPinLaw", "pick", "(JI)B"⟩ : MethodName)) (argsL := [(.long p0), (.int (0 : Int32))]) (rest := [(.int (0 : Int32)), (.ref a1)]) at_11 (hw _ (List.mem_of_getElem? (i := 1) rfl)) (hw _ (List.mem_of_getElem? (i := 2) rfl)) (hw _ (List.mem_of_getElem? (i := 3) rfl)) (hw _ (List.mem_of_getElem? (i := 4) rfl)) (by decide) (rm_p l Z a0 hw p0 (0 : Int32) h1) rfl pd_2 rfl (hst := rfl) (W := 2) (Nat.le_of_eq rfl) (by decide) (by decide) (c2 := 1) (s2 := 6) rfl rfl (by decide) (by decide) rfl rfl (q := 14) rfl ?_
  intro v2 T2 O2 q2
  obtain rfl := q2
  show Go C _ _ _ _ (T2.setTop (mkF C.m 14 #[.val (.long p0), .second, .val (.int p1), .val (.int p2), .val (.int p3), .val (.ref a1), .unset, .unset, .unset, .unset, .unset, .unset, .unset, .unset] [(.int (fn_p p0 (0 : Int32))), (.int (0 : Int32)), (.ref a1)]))
  refine Jvm.OwnW.basA O2 at_14 V_a1 (i := 0) rfl (by decide) (Or.inr N1) (y := (fn_p p0 (0 : Int32))) (own_b _ _) (q := 15) rfl ?_
  intro T3 h3 O3 W3
  have V_a1 : Ar Z h3 a1 .byte 6 (lf [(.int (fn_p p0 (0 : Int32))), (.int (0 : Int32)), (.int (0 : Int32)), (.int (0 : Int32)), (.int (0 : Int32)), (.int (0 : Int32))]) := V_a1.setL W3 (by decide) (Nat.le_of_ble_eq_true rfl)
  refine Jvm.OwnW.aload O3 at_15 rfl rfl (q := 17) rfl ?_
  refine Jvm.OwnW.iconst O3 at_17 (r := (1 : Int32)) rfl (q := 18) rfl ?_
  refine Jvm.OwnW.lloadN O3 at_18 rfl (q := 19) rfl ?_
  refine Jvm.OwnW.iconst O3 at_19 (r := (1 : Int32)) rfl (q := 20) rfl ?_
  refine Jvm.OwnW.callS0 O3 (y := (⟨"com/example/lamina/lamina/table/DelimitedLineSplitPinLaw", "pick", "(JI)B"⟩ : MethodName)) (argsL := [(.long p0), (.int (1 : Int32))]) (rest := [(.int (1 : Int32)), (.ref a1)]) at_20 (hw _ (List.mem_of_getElem? (i := 1) rfl)) (hw _ (List.mem_of_getElem? (i := 2) rfl)) (hw _ (List.mem_of_getElem? (i := 3) rfl)) (hw _ (List.mem_of_getElem? (i := 4) rfl)) (by decide) (rm_p l Z a0 hw p0 (1 : Int32) h3) rfl pd_2 rfl (hst := rfl) (W := 2) (Nat.le_of_eq rfl) (by decide) (by decide) (c2 := 1) (s2 := 6) rfl rfl (by decide) (by decide) rfl rfl (q := 23) rfl ?_
  intro v4 T4 O4 q4
  obtain rfl := q4
  show Go C _ _ _ _ (T4.setTop (mkF C.m 23 #[.val (.long p0), .second, .val (.int p1), .val (.int p2), .val (.int p3), .val (.ref a1), .unset, .unset, .unset, .unset, .unset, .unset, .unset, .unset] [(.int (fn_p p0 (1 : Int32))), (.int (1 : Int32)), (.ref a1)]))
  refine Jvm.OwnW.basA O4 at_23 V_a1 (i := 1) rfl (by decide) (Or.inr N1) (y := (fn_p p0 (1 : Int32))) (own_b _ _) (q := 24) rfl ?_
  intro T5 h5 O5 W5
  have V_a1 : Ar Z h5 a1 .byte 6 (lf [(.int (fn_p p0 (0 : Int32))), (.int (fn_p p0 (1 : Int32))), (.int (0 : Int32)), (.int (0 : Int32)), (.int (0 : Int32)), (.int (0 : Int32))]) := V_a1.setL W5 (by decide) (Nat.le_of_ble_eq_true rfl)
  refine Jvm.OwnW.aload O5 at_24 rfl rfl (q := 26) rfl ?_
  refine Jvm.OwnW.iconst O5 at_26 (r := (2 : Int32)) rfl (q := 27) rfl ?_
  refine Jvm.OwnW.lloadN O5 at_27 rfl (q := 28) rfl ?_
  refine Jvm.OwnW.iconst O5 at_28 (r := (2 : Int32)) rfl (q := 29) rfl ?_
  refine Jvm.OwnW.callS0 O5 (y := (⟨"com/example/lamina/lamina/table/DelimitedLineSplitPinLaw", "pick", "(JI)B"⟩ : MethodName)) (argsL := [(.long p0), (.int (2 : Int32))]) (rest := [(.int (2 : Int32)), (.ref a1)]) at_29 (hw _ (List.mem_of_getElem? (i := 1) rfl)) (hw _ (List.mem_of_getElem? (i := 2) rfl)) (hw _ (List.mem_of_getElem? (i := 3) rfl)) (hw _ (List.mem_of_getElem? (i := 4) rfl)) (by decide) (rm_p l Z a0 hw p0 (2 : Int32) h5) rfl pd_2 rfl (hst := rfl) (W := 2) (Nat.le_of_eq rfl) (by decide) (by decide) (c2 := 1) (s2 := 6) rfl rfl (by decide) (by decide) rfl rfl (q := 32) rfl ?_
  intro v6 T6 O6 q6
  obtain rfl := q6
  show Go C _ _ _ _ (T6.setTop (mkF C.m 32 #[.val (.long p0), .second, .val (.int p1), .val (.int p2), .val (.int p3), .val (.ref a1), .unset, .unset, .unset, .unset, .unset, .unset, .unset, .unset] [(.int (fn_p p0 (2 : Int32))), (.int (2 : Int32)), (.ref a1)]))
  refine Jvm.OwnW.basA O6 at_32 V_a1 (i := 2) rfl (by decide) (Or.inr N1) (y := (fn_p p0 (2 : Int32))) (own_b _ _) (q := 33) rfl ?_
  intro T7 h7 O7 W7
  have V_a1 : Ar Z h7 a1 .byte 6 (lf [(.int (fn_p p0 (0 : Int32))), (.int (fn_p p0 (1 : Int32))), (.int (fn_p p0 (2 : Int32))), (.int (0 : Int32)), (.int (0 : Int32)), (.int (0 : Int32))]) := V_a1.setL W7 (by decide) (Nat.le_of_ble_eq_true rfl)
  refine Jvm.OwnW.aload O7 at_33 rfl rfl (q := 35) rfl ?_
  refine Jvm.OwnW.iconst O7 at_35 (r := (3 : Int32)) rfl (q := 36) rfl ?_
  refine Jvm.OwnW.lloadN O7 at_36 rfl (q := 37) rfl ?_
  refine Jvm.OwnW.iconst O7 at_37 (r := (3 : Int32)) rfl (q := 38) rfl ?_
  refine Jvm.OwnW.callS0 O7 (y := (⟨"com/example/lamina/lamina/table/DelimitedLineSplitPinLaw", "pick", "(JI)B"⟩ : MethodName)) (argsL := [(.long p0), (.int (3 : Int32))]) (rest := [(.int (3 : Int32)), (.ref a1)]) at_38 (hw _ (List.mem_of_getElem? (i := 1) rfl)) (hw _ (List.mem_of_getElem? (i := 2) rfl)) (hw _ (List.mem_of_getElem? (i := 3) rfl)) (hw _ (List.mem_of_getElem? (i := 4) rfl)) (by decide) (rm_p l Z a0 hw p0 (3 : Int32) h7) rfl pd_2 rfl (hst := rfl) (W := 2) (Nat.le_of_eq rfl) (by decide) (by decide) (c2 := 1) (s2 := 6) rfl rfl (by decide) (by decide) rfl rfl (q := 41) rfl ?_
  intro v8 T8 O8 q8
  obtain rfl := q8
  show Go C _ _ _ _ (T8.setTop (mkF C.m 41 #[.val (.long p0), .second, .val (.int p1), .val (.int p2), .val (.int p3), .val (.ref a1), .unset, .unset, .unset, .unset, .unset, .unset, .unset, .unset] [(.int (fn_p p0 (3 : Int32))), (.int (3 : Int32)), (.ref a1)]))
  refine Jvm.OwnW.basA O8 at_41 V_a1 (i := 3) rfl (by decide) (Or.inr N1) (y := (fn_p p0 (3 : Int32))) (own_b _ _) (q := 42) rfl ?_
  intro T9 h9 O9 W9
  have V_a1 : Ar Z h9 a1 .byte 6 (lf [(.int (fn_p p0 (0 : Int32))), (.int (fn_p p0 (1 : Int32))), (.int (fn_p p0 (2 : Int32))), (.int (fn_p p0 (3 : Int32))), (.int (0 : Int32)), (.int (0 : Int32))]) := V_a1.setL W9 (by decide) (Nat.le_of_ble_eq_true rfl)
  refine Jvm.OwnW.aload O9 at_42 rfl rfl (q := 44) rfl ?_
  refine Jvm.OwnW.iconst O9 at_44 (r := (4 : Int32)) rfl (q := 45) rfl ?_
  refine Jvm.OwnW.lloadN O9 at_45 rfl (q := 46) rfl ?_
  refine Jvm.OwnW.iconst O9 at_46 (r := (4 : Int32)) rfl (q := 47) rfl ?_
  refine Jvm.OwnW.callS0 O9 (y := (⟨"com/example/lamina/lamina/table/DelimitedLineSplitPinLaw", "pick", "(JI)B"⟩ : MethodName)) (argsL := [(.long p0), (.int (4 : Int32))]) (rest := [(.int (4 : Int32)), (.ref a1)]) at_47 (hw _ (List.mem_of_getElem? (i := 1) rfl)) (hw _ (List.mem_of_getElem? (i := 2) rfl)) (hw _ (List.mem_of_getElem? (i := 3) rfl)) (hw _ (List.mem_of_getElem? (i := 4) rfl)) (by decide) (rm_p l Z a0 hw p0 (4 : Int32) h9) rfl pd_2 rfl (hst := rfl) (W := 2) (Nat.le_of_eq rfl) (by decide) (by decide) (c2 := 1) (s2 := 6) rfl rfl (by decide) (by decide) rfl rfl (q := 50) rfl ?_
  intro v10 T10 O10 q10
  obtain rfl := q10
  show Go C _ _ _ _ (T10.setTop (mkF C.m 50 #[.val (.long p0), .second, .val (.int p1), .val (.int p2), .val (.int p3), .val (.ref a1), .unset, .unset, .unset, .unset, .unset, .unset, .unset, .unset] [(.int (fn_p p0 (4 : Int32))), (.int (4 : Int32)), (.ref a1)]))
  refine Jvm.OwnW.basA O10 at_50 V_a1 (i := 4) rfl (by decide) (Or.inr N1) (y := (fn_p p0 (4 : Int32))) (own_b _ _) (q := 51) rfl ?_
  intro T11 h11 O11 W11
  have V_a1 : Ar Z h11 a1 .byte 6 (lf [(.int (fn_p p0 (0 : Int32))), (.int (fn_p p0 (1 : Int32))), (.int (fn_p p0 (2 : Int32))), (.int (fn_p p0 (3 : Int32))), (.int (fn_p p0 (4 : Int32))), (.int (0 : Int32))]) := V_a1.setL W11 (by decide) (Nat.le_of_ble_eq_true rfl)
  refine Jvm.OwnW.aload O11 at_51 rfl rfl (q := 53) rfl ?_
  refine Jvm.OwnW.iconst O11 at_53 (r := (5 : Int32)) rfl (q := 54) rfl ?_
  refine Jvm.OwnW.lloadN O11 at_54 rfl (q := 55) rfl ?_
  refine Jvm.OwnW.iconst O11 at_55 (r := (5 : Int32)) rfl (q := 56) rfl ?_
  refine Jvm.OwnW.callS0 O11 (y := (⟨"com/example/lamina/lamina/table/DelimitedLineSplitPinLaw", "pick", "(JI)B"⟩ : MethodName)) (argsL := [(.long p0), (.int (5 : Int32))]) (rest := [(.int (5 : Int32)), (.ref a1)]) at_56 (hw _ (List.mem_of_getElem? (i := 1) rfl)) (hw _ (List.mem_of_getElem? (i := 2) rfl)) (hw _ (List.mem_of_getElem? (i := 3) rfl)) (hw _ (List.mem_of_getElem? (i := 4) rfl)) (by decide) (rm_p l Z a0 hw p0 (5 : Int32) h11) rfl pd_2 rfl (hst := rfl) (W := 2) (Nat.le_of_eq rfl) (by decide) (by decide) (c2 := 1) (s2 := 6) rfl rfl (by decide) (by decide) rfl rfl (q := 59) rfl ?_
  intro v12 T12 O12 q12
  obtain rfl := q12
  show Go C _ _ _ _ (T12.setTop (mkF C.m 59 #[.val (.long p0), .second, .val (.int p1), .val (.int p2), .val (.int p3), .val (.ref a1), .unset, .unset, .unset, .unset, .unset, .unset, .unset, .unset] [(.int (fn_p p0 (5 : Int32))), (.int (5 : Int32)), (.ref a1)]))
  refine Jvm.OwnW.basA O12 at_59 V_a1 (i := 5) rfl (by decide) (Or.inr N1) (y := (fn_p p0 (5 : Int32))) (own_b _ _) (q := 60) rfl ?_
  intro T13 h13 O13 W13
  have V_a1 : Ar Z h13 a1 .byte 6 (lf [(.int (fn_p p0 (0 : Int32))), (.int (fn_p p0 (1 : Int32))), (.int (fn_p p0 (2 : Int32))), (.int (fn_p p0 (3 : Int32))), (.int (fn_p p0 (4 : Int32))), (.int (fn_p p0 (5 : Int32)))]) := V_a1.setL W13 (by decide) (Nat.le_of_ble_eq_true rfl)
  obtain ⟨g, hg⟩ : ∃ g : Nat → Int32, (fun j => ([(fn_p p0 (0 : Int32)), (fn_p p0 (1 : Int32)), (fn_p p0 (2 : Int32)), (fn_p p0 (3 : Int32)), (fn_p p0 (4 : Int32)), (fn_p p0 (5 : Int32))] : List Int32).getD j 0) = g := ⟨_, rfl⟩
  have V_a1 : Ar Z h13 a1 .byte 6 (fun j => .int (g j)) := V_a1.congr (fun j hj => hg ▸ lf_int [(fn_p p0 (0 : Int32)), (fn_p p0 (1 : Int32)), (fn_p p0 (2 : Int32)), (fn_p p0 (3 : Int32)), (fn_p p0 (4 : Int32)), (fn_p p0 (5 : Int32))] j hj)
  refine Jvm.OwnW.iloadN O13 at_60 rfl (q := 61) rfl ?_
  refine Jvm.OwnW.ldcI O13 at_61 (hw _ (List.mem_of_getElem? (i := 5) rfl)) (q := 63) rfl ?_
  refine Jvm.OwnW.iand O13 at_63 rfl (q := 64) rfl ?_
  refine Jvm.OwnW.bipush O13 at_64 (r := (7 : Int32)) rfl (q := 66) rfl ?_
  obtain ⟨fr, hfr⟩ : ∃ zz_, ((p1 &&& (2147483647 : Int32)) % (7 : Int32)) = zz_ := ⟨_, rfl⟩
  refine Jvm.OwnW.irem O13 at_66 (by decide) hfr (q := 67) rfl ?_
  obtain ⟨fN, hfN, hf7⟩ := rem_in p1 7 (by decide)
  rw [hfr] at hfN
  have hf7 : fN < 7 := by have : (7 : Int32).toInt = 7 := rfl; omega
  refine Jvm.OwnW.istore O13 at_67 (L' := #[.val (.long p0), .second, .val (.int p1), .val (.int p2), .val (.int p3), .val (.ref a1), .val (.int fr), .unset, .unset, .unset, .unset, .unset, .unset, .unset]) rfl (q := 69) rfl ?_
  refine Jvm.OwnW.iload O13 at_69 rfl (q := 71) rfl ?_
  refine Jvm.OwnW.iloadN O13 at_71 rfl (q := 72) rfl ?_
  refine Jvm.OwnW.ldcI O13 at_72 (hw _ (List.mem_of_getElem? (i := 5) rfl)) (q := 74) rfl ?_
  refine Jvm.OwnW.iand O13 at_74 rfl (q := 75) rfl ?_
  refine Jvm.OwnW.bipush O13 at_75 (r := (7 : Int32)) rfl (q := 77) rfl ?_
  refine Jvm.OwnW.iload O13 at_77 rfl (q := 79) rfl ?_
  obtain ⟨d7, hd7⟩ : ∃ zz_, ((7 : Int32) - fr) = zz_ := ⟨_, rfl⟩
  refine Jvm.OwnW.isub O13 at_79 hd7 (q := 80) rfl ?_
  have hd7v : d7.toInt = 7 - fN := by
    rw [← hd7, sub32 (by rw [hfN]; show _ ≤ (7 : Int) - _; omega) (by rw [hfN]; show (7 : Int) - _ < _; omega), hfN]; rfl
  have hd7p : 0 < d7.toInt := by omega
  obtain ⟨qn, hqn, hq7⟩ := rem_in p2 d7 hd7p
  obtain ⟨rq, hrq⟩ : ∃ zz_, ((p2 &&& (2147483647 : Int32)) % d7) = zz_ := ⟨_, rfl⟩
  refine Jvm.OwnW.irem O13 at_80 (ne0_32 hd7p) hrq (q := 81) rfl ?_
  obtain ⟨to, hto⟩ : ∃ zz_, (fr + rq) = zz_ := ⟨_, rfl⟩
  refine Jvm.OwnW.iadd O13 at_81 hto (q := 82) rfl ?_
  rw [hrq] at hqn
  have htN : to.toInt = ((fN + qn : Nat) : Int) := by rw [← hto, add32 (by omega) (by omega)]; omega
  obtain ⟨tN, htd⟩ : ∃ z, fN + qn = z := ⟨_, rfl⟩
  rw [htd] at htN
  have hft : fN ≤ tN := by omega
  have ht6 : tN ≤ 6 := by omega
  refine Jvm.OwnW.istore O13 at_82 (L' := #[.val (.long p0), .second, .val (.int p1), .val (.int p2), .val (.int p3), .val (.ref a1), .val (.int fr), .val (.int to), .unset, .unset, .unset, .unset, .unset, .unset]) rfl (q := 84) rfl ?_
  refine Jvm.OwnW.iload O13 at_84 rfl (q := 86) rfl ?_
  refine Jvm.OwnW.ldcI O13 at_86 (hw _ (List.mem_of_getElem? (i := 5) rfl)) (q := 88) rfl ?_
  refine Jvm.OwnW.iand O13 at_88 rfl (q := 89) rfl ?_
  refine Jvm.OwnW.bipush O13 at_89 (r := (8 : Int32)) rfl (q := 91) rfl ?_
  obtain ⟨len, hlen⟩ : ∃ zz_, ((p3 &&& (2147483647 : Int32)) % (8 : Int32)) = zz_ := ⟨_, rfl⟩
  refine Jvm.OwnW.irem O13 at_91 (by decide) hlen (q := 92) rfl ?_
  obtain ⟨ln, hln, hl8⟩ := rem_in p3 8 (by decide)
  rw [hlen] at hln
  have hl8 : ln < 8 := by have : (8 : Int32).toInt = 8 := rfl; omega
  refine Jvm.OwnW.istore O13 at_92 (L' := #[.val (.long p0), .second, .val (.int p1), .val (.int p2), .val (.int p3), .val (.ref a1), .val (.int fr), .val (.int to), .val (.int len), .unset, .unset, .unset, .unset, .unset]) rfl (q := 94) rfl ?_
  refine Jvm.OwnW.iload O13 at_94 rfl (q := 96) rfl ?_
  have lt_a1 := V_a1.lt
  refine Jvm.OwnW.callS O13 (y := (⟨"com/example/lamina/lamina/table/DelimitedLineSplitPinLaw", "filled", "(I)[I"⟩ : MethodName)) (argsL := [(.int len)]) (rest := []) at_96 (hw _ (List.mem_of_getElem? (i := 6) rfl)) (hw _ (List.mem_of_getElem? (i := 7) rfl)) (hw _ (List.mem_of_getElem? (i := 3) rfl)) (hw _ (List.mem_of_getElem? (i := 8) rfl)) (by decide) (rm_f l Z a0 hw len ln h13 hln (by omega)) rfl pd_3 rfl (hst := rfl) (W := 0) (Nat.le_of_eq rfl) (by decide) (by decide) (c2 := 2) (s2 := 13) rfl rfl (by decide) (by decide) all0 (q := 99) rfl ?_
  intro v14 T14 h14 O14 K14 q14
  obtain ⟨af1, rfl, m_af1, V_af1⟩ := q14
  have V_a1 := V_a1.keep K14 nin0
  have N_af1 : C.s.heap.size ≤ af1 := Nat.le_trans O13.size m_af1
  have ne_a1_af1 : a1 ≠ af1 := Nat.ne_of_lt (Nat.lt_of_lt_of_le lt_a1 m_af1)
  show Go C _ _ _ _ (T14.setTop (mkF C.m 99 #[.val (.long p0), .second, .val (.int p1), .val (.int p2), .val (.int p3), .val (.ref a1), .val (.int fr), .val (.int to), .val (.int len), .unset, .unset, .unset, .unset, .unset] [(.ref af1)]))
  refine Jvm.OwnW.astore O14 at_99 rfl (L' := #[.val (.long p0), .second, .val (.int p1), .val (.int p2), .val (.int p3), .val (.ref a1), .val (.int fr), .val (.int to), .val (.int len), .val (.ref af1), .unset, .unset, .unset, .unset]) rfl (q := 101) rfl ?_
  refine Jvm.OwnW.iload O14 at_101 rfl (q := 103) rfl ?_
  have lt_a1 := V_a1.lt
  have lt_af1 := V_af1.lt
  refine Jvm.OwnW.callS O14 (y := (⟨"com/example/lamina/lamina/table/DelimitedLineSplitPinLaw", "filled", "(I)[I"⟩ : MethodName)) (argsL := [(.int len)]) (rest := []) at_103 (hw _ (List.mem_of_getElem? (i := 6) rfl)) (hw _ (List.mem_of_getElem? (i := 7) rfl)) (hw _ (List.mem_of_getElem? (i := 3) rfl)) (hw _ (List.mem_of_getElem? (i := 8) rfl)) (by decide) (rm_f l Z a0 hw len ln h14 hln (by omega)) rfl pd_3 rfl (hst := rfl) (W := 0) (Nat.le_of_eq rfl) (by decide) (by decide) (c2 := 3) (s2 := 20) rfl rfl (by decide) (by decide) all0 (q := 106) rfl ?_
  intro v15 T15 h15 O15 K15 q15
  obtain ⟨af2, rfl, m_af2, V_af2⟩ := q15
  have V_a1 := V_a1.keep K15 nin0
  have V_af1 := V_af1.keep K15 nin0
  have N_af2 : C.s.heap.size ≤ af2 := Nat.le_trans O14.size m_af2
  have ne_a1_af2 : a1 ≠ af2 := Nat.ne_of_lt (Nat.lt_of_lt_of_le lt_a1 m_af2)
  have ne_af1_af2 : af1 ≠ af2 := Nat.ne_of_lt (Nat.lt_of_lt_of_le lt_af1 m_af2)
  show Go C _ _ _ _ (T15.setTop (mkF C.m 106 #[.val (.long p0), .second, .val (.int p1), .val (.int p2), .val (.int p3), .val (.ref a1), .val (.int fr), .val (.int to), .val (.int len), .val (.ref af1), .unset, .unset, .unset, .unset] [(.ref af2)]))
  refine Jvm.OwnW.astore O15 at_106 rfl (L' := #[.val (.long p0), .second, .val (.int p1), .val (.int p2), .val (.int p3), .val (.ref a1), .val (.int fr), .val (.int to), .val (.int len), .val (.ref af1), .val (.ref af2), .unset, .unset, .unset]) rfl (q := 108) rfl ?_
  refine Jvm.OwnW.aload O15 at_108 rfl rfl (q := 110) rfl ?_
  refine Jvm.OwnW.iload O15 at_110 rfl (q := 112) rfl ?_
  refine Jvm.OwnW.iload O15 at_112 rfl (q := 114) rfl ?_
  refine Jvm.OwnW.aload O15 at_114 rfl rfl (q := 116) rfl ?_
  refine Jvm.OwnW.aload O15 at_116 rfl rfl (q := 118) rfl ?_
  refine Jvm.OwnW.callS O15 (y := (⟨"com/example/lamina/lamina/table/DelimitedLine", "split", "([BII[I[I)I"⟩ : MethodName)) (argsL := [(.ref a1), (.int fr), (.int to), (.ref af1), (.ref af2)]) (rest := []) at_118 (hw _ (List.mem_of_getElem? (i := 10) rfl)) (hw _ (List.mem_of_getElem? (i := 11) rfl)) (hw _ (List.mem_of_getElem? (i := 12) rfl)) (hw _ (List.mem_of_getElem? (i := 13) rfl)) (by decide) (rm_s l Z a0 hw a1 fr to af1 af2 g fN tN ln len h15 V_a1 V_af1 V_af2 ne_a1_af1 ne_a1_af2 ne_af1_af2 hfN htN hln (by omega) (by omega)) rfl pd_4 rfl (hst := rfl) (W := 0) (Nat.le_of_eq rfl) (by decide) (by decide) (c2 := 3) (s2 := 20) rfl rfl (by decide) (by decide) (allS (Or.inr N_af1) (allS (Or.inr N_af2) all0)) (q := 121) rfl ?_
  intro v16 T16 h16 O16 K16 q16
  obtain ⟨zn, cN, fs, fe, rfl, hzn, hF, V_af1, V_af2⟩ := q16
  have V_a1 := V_a1.keep K16 (ninS ne_a1_af1 (ninS ne_a1_af2 nin0))
  show Go C _ _ _ _ (T16.setTop (mkF C.m 121 #[.val (.long p0), .second, .val (.int p1), .val (.int p2), .val (.int p3), .val (.ref a1), .val (.int fr), .val (.int to), .val (.int len), .val (.ref af1), .val (.ref af2), .unset, .unset, .unset] [(.int zn)]))
  refine Jvm.OwnW.istore O16 at_121 (L' := #[.val (.long p0), .second, .val (.int p1), .val (.int p2), .val (.int p3), .val (.ref a1), .val (.int fr), .val (.int to), .val (.int len), .val (.ref af1), .val (.ref af2), .val (.int zn), .unset, .unset]) rfl (q := 123) rfl ?_
  obtain ⟨hE1, hE2⟩ := own_end_in g fN tN hft
  obtain ⟨eN, heN⟩ : ∃ z, own_end g fN tN = z := ⟨_, rfl⟩
  rw [heN] at hE1 hE2 hF
  have hB6 := B_le g fN eN
  have hcN := hF.1
  have J151 : ∀ (T17 : State), On l Z [] room_1 x.cls x.name code 14 ret C T17 h16 3 20 → ∀ (en : Int32), ∀ (hen : en.toInt = (eN : Int)), Go C [] (fun v h => v = some (.int 1)) 16 128 (T17.setTop (mkF C.m 151 #[.val (.long p0), .second, .val (.int p1), .val (.int p2), .val (.int p3), .val (.ref a1), .val (.int fr), .val (.int to), .val (.int len), .val (.ref af1), .val (.ref af2), .val (.int zn), .unset, .unset] [(.int en)])) := by
    intro T17 O17 en hen 
    refine Jvm.OwnW.istore O17 at_151 (L' := #[.val (.long p0), .second, .val (.int p1), .val (.int p2), .val (.int p3), .val (.ref a1), .val (.int fr), .val (.int to), .val (.int len), .val (.ref af1), .val (.ref af2), .val (.int zn), .val (.int en), .unset]) rfl (q := 153) rfl ?_
    refine Jvm.OwnW.iconst O17 at_153 (r := (1 : Int32)) rfl (q := 154) rfl ?_
    refine Jvm.OwnW.aload O17 at_154 rfl rfl (q := 156) rfl ?_
    refine Jvm.OwnW.iload O17 at_156 rfl (q := 158) rfl ?_
    refine Jvm.OwnW.iload O17 at_158 rfl (q := 160) rfl ?_
    refine Jvm.OwnW.callS0 O17 (y := (⟨"com/example/lamina/lamina/table/DelimitedLineSplitPinLaw", "bars", "([BII)I"⟩ : MethodName)) (argsL := [(.ref a1), (.int fr), (.int en)]) (rest := [(.int (1 : Int32))]) at_160 (hw _ (List.mem_of_getElem? (i := 14) rfl)) (hw _ (List.mem_of_getElem? (i := 15) rfl)) (hw _ (List.mem_of_getElem? (i := 3) rfl)) (hw _ (List.mem_of_getElem? (i := 16) rfl)) (by decide) (rm_b l Z a0 hw a1 fr en g fN eN h16 V_a1 hfN hen) rfl pd_1 rfl (hst := rfl) (W := 1) (Nat.le_of_eq rfl) (by decide) (by decide) (c2 := 3) (s2 := 20) rfl rfl (by decide) (by decide) rfl rfl (q := 163) rfl ?_
    intro v18 T18 O18 q18
    obtain ⟨zb, rfl, hzb⟩ := q18
    show Go C _ _ _ _ (T18.setTop (mkF C.m 163 #[.val (.long p0), .second, .val (.int p1), .val (.int p2), .val (.int p3), .val (.ref a1), .val (.int fr), .val (.int to), .val (.int len), .val (.ref af1), .val (.ref af2), .val (.int zn), .val (.int en), .unset] [(.int zb), (.int (1 : Int32))]))
    obtain ⟨cnt, hcnt⟩ : ∃ zz_, ((1 : Int32) + zb) = zz_ := ⟨_, rfl⟩
    refine Jvm.OwnW.iadd O18 at_163 hcnt (q := 164) rfl ?_
    refine Jvm.OwnW.istore O18 at_164 (L' := #[.val (.long p0), .second, .val (.int p1), .val (.int p2), .val (.int p3), .val (.ref a1), .val (.int fr), .val (.int to), .val (.int len), .val (.ref af1), .val (.ref af2), .val (.int zn), .val (.int en), .val (.int cnt)]) rfl (q := 166) rfl ?_
    refine Jvm.OwnW.iload O18 at_166 rfl (q := 168) rfl ?_
    refine Jvm.OwnW.iload O18 at_168 rfl (q := 170) rfl ?_
    refine Jvm.OwnW.icmpYes O18 at_170 (teq (show zn = cnt from eq32 (by rw [hzn, ← hcnt, add32 (by rw [hzb]; show _ ≤ (1 : Int) + _; omega) (by rw [hzb]; show (1 : Int) + _ < _; omega), hzb]; show _ = (1 : Int) + _; omega))).1 (by decide) (q := 175) rfl ?_
    refine Jvm.OwnW.aload O18 at_175 rfl rfl (q := 177) rfl ?_
    refine Jvm.OwnW.iload O18 at_177 rfl (q := 179) rfl ?_
    refine Jvm.OwnW.iload O18 at_179 rfl (q := 181) rfl ?_
    refine Jvm.OwnW.iload O18 at_181 rfl (q := 183) rfl ?_
    refine Jvm.OwnW.aload O18 at_183 rfl rfl (q := 185) rfl ?_
    refine Jvm.OwnW.aload O18 at_185 rfl rfl (q := 187) rfl ?_
    refine Jvm.OwnW.iconst O18 at_187 (r := (0 : Int32)) rfl (q := 188) rfl ?_
    refine Jvm.OwnW.callS0 O18 (y := (⟨"com/example/lamina/lamina/table/DelimitedLineSplitPinLaw", "field", "([BIII[I[II)Z"⟩ : MethodName)) (argsL := [(.ref a1), (.int fr), (.int en), (.int zn), (.ref af1), (.ref af2), (.int (0 : Int32))]) (rest := []) at_188 (hw _ (List.mem_of_getElem? (i := 20) rfl)) (hw _ (List.mem_of_getElem? (i := 21) rfl)) (hw _ (List.mem_of_getElem? (i := 3) rfl)) (hw _ (List.mem_of_getElem? (i := 22) rfl)) (by decide) (rm_d l Z a0 hw a1 fr en zn af1 af2 (0 : Int32) g fs fe fN eN ln cN 0 len h16 V_a1 V_af1 V_af2 hF hfN hen hzn rfl hln (by omega) (by omega)) rfl pd_5 rfl (hst := rfl) (W := 0) (Nat.le_of_eq rfl) (by decide) (by decide) (c2 := 3) (s2 := 20) rfl rfl (by decide) (by decide) rfl rfl (q := 191) rfl ?_
    intro v19 T19 O19 q19
    obtain rfl := q19
    show Go C _ _ _ _ (T19.setTop (mkF C.m 191 #[.val (.long p0), .second, .val (.int p1), .val (.int p2), .val (.int p3), .val (.ref a1), .val (.int fr), .val (.int to), .val (.int len), .val (.ref af1), .val (.ref af2), .val (.int zn), .val (.int en), .val (.int cnt)] [(.int (1 : Int32))]))
    refine Jvm.OwnW.ifNo O19 at_191 (feq0 (show ¬ ((1 : Int32) = (0 : Int32)) from (by decide))).1 (q := 194) rfl ?_
    refine Jvm.OwnW.aload O19 at_194 rfl rfl (q := 196) rfl ?_
    refine Jvm.OwnW.iload O19 at_196 rfl (q := 198) rfl ?_
    refine Jvm.OwnW.iload O19 at_198 rfl (q := 200) rfl ?_
    refine Jvm.OwnW.iload O19 at_200 rfl (q := 202) rfl ?_
    refine Jvm.OwnW.aload O19 at_202 rfl rfl (q := 204) rfl ?_
    refine Jvm.OwnW.aload O19 at_204 rfl rfl (q := 206) rfl ?_
    refine Jvm.OwnW.iconst O19 at_206 (r := (1 : Int32)) rfl (q := 207) rfl ?_
    refine Jvm.OwnW.callS0 O19 (y := (⟨"com/example/lamina/lamina/table/DelimitedLineSplitPinLaw", "field", "([BIII[I[II)Z"⟩ : MethodName)) (argsL := [(.ref a1), (.int fr), (.int en), (.int zn), (.ref af1), (.ref af2), (.int (1 : Int32))]) (rest := []) at_207 (hw _ (List.mem_of_getElem? (i := 20) rfl)) (hw _ (List.mem_of_getElem? (i := 21) rfl)) (hw _ (List.mem_of_getElem? (i := 3) rfl)) (hw _ (List.mem_of_getElem? (i := 22) rfl)) (by decide) (rm_d l Z a0 hw a1 fr en zn af1 af2 (1 : Int32) g fs fe fN eN ln cN 1 len h16 V_a1 V_af1 V_af2 hF hfN hen hzn rfl hln (by omega) (by omega)) rfl pd_5 rfl (hst := rfl) (W := 0) (Nat.le_of_eq rfl) (by decide) (by decide) (c2 := 3) (s2 := 20) rfl rfl (by decide) (by decide) rfl rfl (q := 210) rfl ?_
    intro v20 T20 O20 q20
    obtain rfl := q20
    show Go C _ _ _ _ (T20.setTop (mkF C.m 210 #[.val (.long p0), .second, .val (.int p1), .val (.int p2), .val (.int p3), .val (.ref a1), .val (.int fr), .val (.int to), .val (.int len), .val (.ref af1), .val (.ref af2), .val (.int zn), .val (.int en), .val (.int cnt)] [(.int (1 : Int32))]))
    refine Jvm.OwnW.ifNo O20 at_210 (feq0 (show ¬ ((1 : Int32) = (0 : Int32)) from (by decide))).1 (q := 213) rfl ?_
    refine Jvm.OwnW.aload O20 at_213 rfl rfl (q := 215) rfl ?_
    refine Jvm.OwnW.iload O20 at_215 rfl (q := 217) rfl ?_
    refine Jvm.OwnW.iload O20 at_217 rfl (q := 219) rfl ?_
    refine Jvm.OwnW.iload O20 at_219 rfl (q := 221) rfl ?_
    refine Jvm.OwnW.aload O20 at_221 rfl rfl (q := 223) rfl ?_
    refine Jvm.OwnW.aload O20 at_223 rfl rfl (q := 225) rfl ?_
    refine Jvm.OwnW.iconst O20 at_225 (r := (2 : Int32)) rfl (q := 226) rfl ?_
    refine Jvm.OwnW.callS0 O20 (y := (⟨"com/example/lamina/lamina/table/DelimitedLineSplitPinLaw", "field", "([BIII[I[II)Z"⟩ : MethodName)) (argsL := [(.ref a1), (.int fr), (.int en), (.int zn), (.ref af1), (.ref af2), (.int (2 : Int32))]) (rest := []) at_226 (hw _ (List.mem_of_getElem? (i := 20) rfl)) (hw _ (List.mem_of_getElem? (i := 21) rfl)) (hw _ (List.mem_of_getElem? (i := 3) rfl)) (hw _ (List.mem_of_getElem? (i := 22) rfl)) (by decide) (rm_d l Z a0 hw a1 fr en zn af1 af2 (2 : Int32) g fs fe fN eN ln cN 2 len h16 V_a1 V_af1 V_af2 hF hfN hen hzn rfl hln (by omega) (by omega)) rfl pd_5 rfl (hst := rfl) (W := 0) (Nat.le_of_eq rfl) (by decide) (by decide) (c2 := 3) (s2 := 20) rfl rfl (by decide) (by decide) rfl rfl (q := 229) rfl ?_
    intro v21 T21 O21 q21
    obtain rfl := q21
    show Go C _ _ _ _ (T21.setTop (mkF C.m 229 #[.val (.long p0), .second, .val (.int p1), .val (.int p2), .val (.int p3), .val (.ref a1), .val (.int fr), .val (.int to), .val (.int len), .val (.ref af1), .val (.ref af2), .val (.int zn), .val (.int en), .val (.int cnt)] [(.int (1 : Int32))]))
    refine Jvm.OwnW.ifNo O21 at_229 (feq0 (show ¬ ((1 : Int32) = (0 : Int32)) from (by decide))).1 (q := 232) rfl ?_
    refine Jvm.OwnW.aload O21 at_232 rfl rfl (q := 234) rfl ?_
    refine Jvm.OwnW.iload O21 at_234 rfl (q := 236) rfl ?_
    refine Jvm.OwnW.iload O21 at_236 rfl (q := 238) rfl ?_
    refine Jvm.OwnW.iload O21 at_238 rfl (q := 240) rfl ?_
    refine Jvm.OwnW.aload O21 at_240 rfl rfl (q := 242) rfl ?_
    refine Jvm.OwnW.aload O21 at_242 rfl rfl (q := 244) rfl ?_
    refine Jvm.OwnW.iconst O21 at_244 (r := (3 : Int32)) rfl (q := 245) rfl ?_
    refine Jvm.OwnW.callS0 O21 (y := (⟨"com/example/lamina/lamina/table/DelimitedLineSplitPinLaw", "field", "([BIII[I[II)Z"⟩ : MethodName)) (argsL := [(.ref a1), (.int fr), (.int en), (.int zn), (.ref af1), (.ref af2), (.int (3 : Int32))]) (rest := []) at_245 (hw _ (List.mem_of_getElem? (i := 20) rfl)) (hw _ (List.mem_of_getElem? (i := 21) rfl)) (hw _ (List.mem_of_getElem? (i := 3) rfl)) (hw _ (List.mem_of_getElem? (i := 22) rfl)) (by decide) (rm_d l Z a0 hw a1 fr en zn af1 af2 (3 : Int32) g fs fe fN eN ln cN 3 len h16 V_a1 V_af1 V_af2 hF hfN hen hzn rfl hln (by omega) (by omega)) rfl pd_5 rfl (hst := rfl) (W := 0) (Nat.le_of_eq rfl) (by decide) (by decide) (c2 := 3) (s2 := 20) rfl rfl (by decide) (by decide) rfl rfl (q := 248) rfl ?_
    intro v22 T22 O22 q22
    obtain rfl := q22
    show Go C _ _ _ _ (T22.setTop (mkF C.m 248 #[.val (.long p0), .second, .val (.int p1), .val (.int p2), .val (.int p3), .val (.ref a1), .val (.int fr), .val (.int to), .val (.int len), .val (.ref af1), .val (.ref af2), .val (.int zn), .val (.int en), .val (.int cnt)] [(.int (1 : Int32))]))
    refine Jvm.OwnW.ifNo O22 at_248 (feq0 (show ¬ ((1 : Int32) = (0 : Int32)) from (by decide))).1 (q := 251) rfl ?_
    refine Jvm.OwnW.aload O22 at_251 rfl rfl (q := 253) rfl ?_
    refine Jvm.OwnW.iload O22 at_253 rfl (q := 255) rfl ?_
    refine Jvm.OwnW.iload O22 at_255 rfl (q := 257) rfl ?_
    refine Jvm.OwnW.iload O22 at_257 rfl (q := 259) rfl ?_
    refine Jvm.OwnW.aload O22 at_259 rfl rfl (q := 261) rfl ?_
    refine Jvm.OwnW.aload O22 at_261 rfl rfl (q := 263) rfl ?_
    refine Jvm.OwnW.iconst O22 at_263 (r := (4 : Int32)) rfl (q := 264) rfl ?_
    refine Jvm.OwnW.callS0 O22 (y := (⟨"com/example/lamina/lamina/table/DelimitedLineSplitPinLaw", "field", "([BIII[I[II)Z"⟩ : MethodName)) (argsL := [(.ref a1), (.int fr), (.int en), (.int zn), (.ref af1), (.ref af2), (.int (4 : Int32))]) (rest := []) at_264 (hw _ (List.mem_of_getElem? (i := 20) rfl)) (hw _ (List.mem_of_getElem? (i := 21) rfl)) (hw _ (List.mem_of_getElem? (i := 3) rfl)) (hw _ (List.mem_of_getElem? (i := 22) rfl)) (by decide) (rm_d l Z a0 hw a1 fr en zn af1 af2 (4 : Int32) g fs fe fN eN ln cN 4 len h16 V_a1 V_af1 V_af2 hF hfN hen hzn rfl hln (by omega) (by omega)) rfl pd_5 rfl (hst := rfl) (W := 0) (Nat.le_of_eq rfl) (by decide) (by decide) (c2 := 3) (s2 := 20) rfl rfl (by decide) (by decide) rfl rfl (q := 267) rfl ?_
    intro v23 T23 O23 q23
    obtain rfl := q23
    show Go C _ _ _ _ (T23.setTop (mkF C.m 267 #[.val (.long p0), .second, .val (.int p1), .val (.int p2), .val (.int p3), .val (.ref a1), .val (.int fr), .val (.int to), .val (.int len), .val (.ref af1), .val (.ref af2), .val (.int zn), .val (.int en), .val (.int cnt)] [(.int (1 : Int32))]))
    refine Jvm.OwnW.ifNo O23 at_267 (feq0 (show ¬ ((1 : Int32) = (0 : Int32)) from (by decide))).1 (q := 270) rfl ?_
    refine Jvm.OwnW.aload O23 at_270 rfl rfl (q := 272) rfl ?_
    refine Jvm.OwnW.iload O23 at_272 rfl (q := 274) rfl ?_
    refine Jvm.OwnW.iload O23 at_274 rfl (q := 276) rfl ?_
    refine Jvm.OwnW.iload O23 at_276 rfl (q := 278) rfl ?_
    refine Jvm.OwnW.aload O23 at_278 rfl rfl (q := 280) rfl ?_
    refine Jvm.OwnW.aload O23 at_280 rfl rfl (q := 282) rfl ?_
    refine Jvm.OwnW.iconst O23 at_282 (r := (5 : Int32)) rfl (q := 283) rfl ?_
    refine Jvm.OwnW.callS0 O23 (y := (⟨"com/example/lamina/lamina/table/DelimitedLineSplitPinLaw", "field", "([BIII[I[II)Z"⟩ : MethodName)) (argsL := [(.ref a1), (.int fr), (.int en), (.int zn), (.ref af1), (.ref af2), (.int (5 : Int32))]) (rest := []) at_283 (hw _ (List.mem_of_getElem? (i := 20) rfl)) (hw _ (List.mem_of_getElem? (i := 21) rfl)) (hw _ (List.mem_of_getElem? (i := 3) rfl)) (hw _ (List.mem_of_getElem? (i := 22) rfl)) (by decide) (rm_d l Z a0 hw a1 fr en zn af1 af2 (5 : Int32) g fs fe fN eN ln cN 5 len h16 V_a1 V_af1 V_af2 hF hfN hen hzn rfl hln (by omega) (by omega)) rfl pd_5 rfl (hst := rfl) (W := 0) (Nat.le_of_eq rfl) (by decide) (by decide) (c2 := 3) (s2 := 20) rfl rfl (by decide) (by decide) rfl rfl (q := 286) rfl ?_
    intro v24 T24 O24 q24
    obtain rfl := q24
    show Go C _ _ _ _ (T24.setTop (mkF C.m 286 #[.val (.long p0), .second, .val (.int p1), .val (.int p2), .val (.int p3), .val (.ref a1), .val (.int fr), .val (.int to), .val (.int len), .val (.ref af1), .val (.ref af2), .val (.int zn), .val (.int en), .val (.int cnt)] [(.int (1 : Int32))]))
    refine Jvm.OwnW.ifNo O24 at_286 (feq0 (show ¬ ((1 : Int32) = (0 : Int32)) from (by decide))).1 (q := 289) rfl ?_
    refine Jvm.OwnW.aload O24 at_289 rfl rfl (q := 291) rfl ?_
    refine Jvm.OwnW.iload O24 at_291 rfl (q := 293) rfl ?_
    refine Jvm.OwnW.iload O24 at_293 rfl (q := 295) rfl ?_
    refine Jvm.OwnW.iload O24 at_295 rfl (q := 297) rfl ?_
    refine Jvm.OwnW.aload O24 at_297 rfl rfl (q := 299) rfl ?_
    refine Jvm.OwnW.aload O24 at_299 rfl rfl (q := 301) rfl ?_
    refine Jvm.OwnW.bipush O24 at_301 (r := (6 : Int32)) rfl (q := 303) rfl ?_
    refine Jvm.OwnW.callS0 O24 (y := (⟨"com/example/lamina/lamina/table/DelimitedLineSplitPinLaw", "field", "([BIII[I[II)Z"⟩ : MethodName)) (argsL := [(.ref a1), (.int fr), (.int en), (.int zn), (.ref af1), (.ref af2), (.int (6 : Int32))]) (rest := []) at_303 (hw _ (List.mem_of_getElem? (i := 20) rfl)) (hw _ (List.mem_of_getElem? (i := 21) rfl)) (hw _ (List.mem_of_getElem? (i := 3) rfl)) (hw _ (List.mem_of_getElem? (i := 22) rfl)) (by decide) (rm_d l Z a0 hw a1 fr en zn af1 af2 (6 : Int32) g fs fe fN eN ln cN 6 len h16 V_a1 V_af1 V_af2 hF hfN hen hzn rfl hln (by omega) (by omega)) rfl pd_5 rfl (hst := rfl) (W := 0) (Nat.le_of_eq rfl) (by decide) (by decide) (c2 := 3) (s2 := 20) rfl rfl (by decide) (by decide) rfl rfl (q := 306) rfl ?_
    intro v25 T25 O25 q25
    obtain rfl := q25
    show Go C _ _ _ _ (T25.setTop (mkF C.m 306 #[.val (.long p0), .second, .val (.int p1), .val (.int p2), .val (.int p3), .val (.ref a1), .val (.int fr), .val (.int to), .val (.int len), .val (.ref af1), .val (.ref af2), .val (.int zn), .val (.int en), .val (.int cnt)] [(.int (1 : Int32))]))
    refine Jvm.OwnW.ifNo O25 at_306 (feq0 (show ¬ ((1 : Int32) = (0 : Int32)) from (by decide))).1 (q := 309) rfl ?_
    refine Jvm.OwnW.iconst O25 at_309 (r := (1 : Int32)) rfl (q := 310) rfl ?_
    refine Jvm.OwnW.goto O25 at_310 (by decide) (q := 314) rfl ?_
    exact Jvm.OwnW.retB O25 at_314 rfl (Or.inr rfl) (by decide) (by decide) rfl
  refine Jvm.OwnW.iload O16 at_123 rfl (q := 125) rfl ?_
  refine Jvm.OwnW.iload O16 at_125 rfl (q := 127) rfl ?_
  by_cases hc127 : fr < to
  · refine Jvm.OwnW.icmpNo O16 at_127 (tlt hc127).2.2.2 (q := 130) rfl ?_
    have hlt : fN < tN := by rw [Int32.lt_iff_toInt_lt] at hc127; omega
    have hsub : (to - 1).toInt = ((tN - 1 : Nat) : Int) := by rw [sub32 (by rw [htN]; show _ ≤ _ - (1 : Int); omega) (by rw [htN]; show _ - (1 : Int) < _; omega), htN]; show _ - (1 : Int) = _; omega
    refine Jvm.OwnW.aload O16 at_130 rfl rfl (q := 132) rfl ?_
    refine Jvm.OwnW.iload O16 at_132 rfl (q := 134) rfl ?_
    refine Jvm.OwnW.iconst O16 at_134 (r := (1 : Int32)) rfl (q := 135) rfl ?_
    refine Jvm.OwnW.isub O16 at_135 rfl (q := 136) rfl ?_
    refine Jvm.OwnW.balA O16 at_136 V_a1 (i := (tN - 1)) hsub (by omega) (v := (.int (g (tN - 1)))) rfl (q := 137) rfl ?_
    refine Jvm.OwnW.bipush O16 at_137 (r := (124 : Int32)) rfl (q := 139) rfl ?_
    by_cases hc139 : (g (tN - 1)) = (124 : Int32)
    · refine Jvm.OwnW.icmpNo O16 at_139 (teq hc139).2 (q := 142) rfl ?_
      refine Jvm.OwnW.iload O16 at_142 rfl (q := 144) rfl ?_
      refine Jvm.OwnW.iconst O16 at_144 (r := (1 : Int32)) rfl (q := 145) rfl ?_
      refine Jvm.OwnW.isub O16 at_145 rfl (q := 146) rfl ?_
      refine Jvm.OwnW.goto O16 at_146 (by decide) (q := 151) rfl ?_
      exact J151 _ O16 _ (by rw [← heN, own_end, if_pos ⟨hlt, hc139⟩]; exact hsub) 
    · refine Jvm.OwnW.icmpYes O16 at_139 (feq hc139).2 (by decide) (q := 149) rfl ?_
      refine Jvm.OwnW.iload O16 at_149 rfl (q := 151) rfl ?_
      exact J151 _ O16 _ (by rw [← heN, own_end, if_neg (fun q => hc139 q.2)]; exact htN) 
  · refine Jvm.OwnW.icmpYes O16 at_127 (flt hc127).2.2.2 (by decide) (q := 149) rfl ?_
    refine Jvm.OwnW.iload O16 at_149 rfl (q := 151) rfl ?_
    exact J151 _ O16 _ (by rw [← heN, own_end, if_neg (fun q => by rw [Int32.lt_iff_toInt_lt] at hc127; omega)]; exact htN) 
set_option maxRecDepth 65536 in
set_option maxHeartbeats 40000000 in
theorem comes_1 {Post : Tables → Env → Array Value → State → Outcome → State → Prop} (hpost : ∀ tb e args s v u, (limb_1_1.after args s (.returned v) u = true ∧ limb_1_2.after args s (.returned v) u = true ∧ True) → FrameEnd s (.returned v) u (Jvm.fieldLocs frame_1_writes args s ++ Jvm.arrayLocs frame_1_arrays args s ++ Jvm.staticLocs frame_1_statics s) 16 128 → Post tb e args s (.returned v) u) :
    ArmFor flags0 classFile x code maxLocals ret World_1 tables_1 room_1 Calls_1 rest_1 Pre_1 Post := by
  intro l hfl _ _ p e ha hc hk s m args below hf hA hF happ hP
  obtain ⟨hcalls, hrest, hpre⟩ := hP
  obtain ⟨-, -, -, hnamed, -, -, -, hat⟩ := (Spec.applies_iff hf).mp happ
  obtain ⟨hg, hn⟩ := and_e (Cond.before_iff.mp (show (Jvm.Cond.and given_1 narrow_1).before args s = true from hpre))
  obtain ⟨hn1, hg⟩ := and_e hg
  obtain ⟨w0, w1, w2, w3, rfl⟩ : ∃ w0 w1 w2 w3 : Value, args = #[w0, w1, w2, w3] := by
    have hs : args.size = 4 := by simpa [Cond.value, given_1] using hn1
    obtain ⟨L⟩ := args
    match L, hs with
    | [w0, w1, w2, w3], _ => exact ⟨w0, w1, w2, w3, rfl⟩
  have hw := fun d (hd : d ∈ tables_1) => atoms_spec (ws := Jvm.Cond.code x code maxLocals ret :: tables_1) hat d (List.mem_cons_of_mem _ hd)
  obtain ⟨hg0, hg⟩ := and_e hg
  obtain ⟨i0, e0⟩ := isL_v hg0
  obtain rfl : w0 = (.long i0) := Option.some.inj e0
  obtain ⟨hg1, hg⟩ := and_e hg
  obtain ⟨i1, e1⟩ := is_v hg1
  obtain rfl : w1 = (.int i1) := Option.some.inj e1
  obtain ⟨hg2, hg⟩ := and_e hg
  obtain ⟨i2, e2⟩ := is_v hg2
  obtain rfl : w2 = (.int i2) := Option.some.inj e2
  obtain ⟨i3, e3⟩ := is_v hg
  obtain rfl : w3 = (.int i3) := Option.some.inj e3

  obtain ⟨n, o, h1, h2, h3, _, L, rfl, ⟨N, -, -, rfl⟩, hq⟩ := rm_0 l s _ hw tables_1 i0 i1 i2 i3 s.heap  p e ha hc hk s m _ below hf ((Spec.applies_iff_loose hf).mp happ).1 ⟨rfl, State.Warmed39.refl s, rfl⟩ trivial
  refine ⟨n, _, h1, h2, h3, hpost _ _ _ _ _ _ ⟨Cond.after_iff.mpr rfl, Cond.after_iff.mpr (eq_i res_at (Term.int_eval (1)) rfl), trivial⟩ ⟨hq.1, hq.2.1, (hq.2.2.sift fun y hy => Or.inr ((N y hy).elim (fun z => nomatch z) id)).mono (by decide) (by decide)⟩⟩
theorem main_1_1 : Claimed_1_1 := comes_1 fun _ _ _ _ _ _ h hF => ⟨h.1, hF⟩
theorem main_1_2 : Claimed_1_2 := comes_1 fun _ _ _ _ _ _ h hF => ⟨h.2.1, hF⟩
end Jvm.Pilot.@@N@@
namespace Jvm.Pilot.@@N@@
open Jvm Jvm.ClassFile Sem Op Lib Jvm.Free Jvm.Stand Jvm.Pilot.@@N@@.Jvm.D
/-! MADE BY PROGRAM (witnessworld.py) out of the Statement's table words and the real class files: 9 classes; the members and pool entries that the words name. The judged class is class 1, her method 1. -/
namespace start1
open Jvm.ClassFile
def u (s : String) : CpInfo := .utf8 (stringToUtf16 s)
/-- a pool by its gaps: so many unusable entries, then the entry; so many at the end -/
def gap : Nat → List CpInfo → List CpInfo
  | 0, r => r
  | n + 1, r => .unusable :: gap n r
def poolList (es : List (Nat × CpInfo)) (last : Nat) : List CpInfo := es.foldr (fun e r => gap e.1 (e.2 :: r)) (gap last [])
def pool (es : List (Nat × CpInfo)) (last : Nat) : Array CpInfo := ⟨poolList es last⟩
def fileOf (pool : Array CpInfo) (this : Nat) (attrs : Array Attribute := #[]) (ms : Array MethodInfo := #[]) (fl : Nat := 33) (sup : Nat := 0) (ifs : Array Nat := #[]) (fds : Array FieldInfo := #[]) : ClassFile where
  minorVersion := 0
  majorVersion := 65
  constantPool := pool
  accessFlags := fl
  thisClass := this
  superClass := sup
  interfaces := ifs
  fields := fds
  methods := ms
  attributes := attrs
def plain (name : String) (sup : Option ClassId) : Class where
  name := name
  kind := .ordinary
  loader := none
  accessFlags := 33
  super := sup
  interfaces := #[]
  cf := none
  fields := #[]
  methods := #[]
  instanceTypes := #[]
  staticTypes := #[]
  resolved := #[]
  callSites := []
  init := .initialized
  statics := none
  mirror := none

def pool0 : Array CpInfo := pool [(5, u "<init>"), (0, u "()V"), (1, .class_ 10), (1, u "java/lang/Object")] 113

def k0m0 : Method := { name := "<init>", desc := "()V", sig := { parameters := [], returnType := none }, accessFlags := 1, code := none }
/-- java/lang/Object -/
def k0 : Class := { plain "java/lang/Object" none with
  accessFlags := 33
  interfaces := #[]
  cf := some (fileOf pool0 8 #[] #[{ accessFlags := 1, nameIndex := 5, descriptorIndex := 6, attributes := #[] }] 33 0 #[] #[])
  fields := #[]
  methods := #[k0m0]
  instanceTypes := #[]
  staticTypes := #[]
  resolved := Array.replicate 124 none
  statics := none }

def pool1 : Array CpInfo := pool [(2, .class_ 4), (1, u "java/lang/Object"), (0, u "<init>"), (0, u "()V"), (0, .methodref 8 9), (0, .class_ 10), (0, .nameAndType 11 12), (0, u "com/example/lamina/lamina/table/DelimitedLineSplitPinLaw"), (0, u "pick"), (0, u "(JI)B"), (0, .integer 2147483647), (0, .methodref 8 15), (0, .nameAndType 16 17), (0, u "filled"), (0, u "(I)[I"), (0, .methodref 19 20), (0, .class_ 21), (0, .nameAndType 22 23), (0, u "com/example/lamina/lamina/table/DelimitedLine"), (0, u "split"), (0, u "([BII[I[I)I"), (0, .methodref 8 25), (0, .nameAndType 26 27), (0, u "bars"), (0, u "([BII)I"), (0, .methodref 8 29), (0, .nameAndType 30 31), (0, u "field"), (0, u "([BIII[I[II)Z"), (0, .methodref 8 33), (0, .nameAndType 34 35), (0, u "bar"), (0, u "([BIII)I"), (2, u "law"), (0, u "(JIII)Z")] 7

def k1m0 : Method := { name := "<init>", desc := "()V", sig := { parameters := [], returnType := none }, accessFlags := 2, code := none }
def k1c1 : Code := { maxStack := 7, maxLocals := 14, code := code, exceptionTable := #[], attributes := #[] }
def k1m1 : Method := { name := "law", desc := "(JIII)Z", sig := { parameters := [.long, .int, .int, .int], returnType := some .boolean }, accessFlags := 9, code := some k1c1 }
def k1c2 : Code := { maxStack := 4, maxLocals := 5, code := method_3_code, exceptionTable := #[], attributes := #[] }
def k1m2 : Method := { name := "pick", desc := "(JI)B", sig := { parameters := [.long, .int], returnType := some .byte }, accessFlags := 10, code := some k1c2 }
def k1c3 : Code := { maxStack := 3, maxLocals := 2, code := method_4_code, exceptionTable := #[], attributes := #[] }
def k1m3 : Method := { name := "filled", desc := "(I)[I", sig := { parameters := [.int], returnType := some (.array .int) }, accessFlags := 10, code := some k1c3 }
def k1c4 : Code := { maxStack := 2, maxLocals := 4, code := method_5_code, exceptionTable := #[], attributes := #[] }
def k1m4 : Method := { name := "bar", desc := "([BIII)I", sig := { parameters := [(.array .byte), .int, .int, .int], returnType := some .int }, accessFlags := 10, code := some k1c4 }
def k1c5 : Code := { maxStack := 5, maxLocals := 3, code := method_6_code, exceptionTable := #[], attributes := #[] }
def k1m5 : Method := { name := "bars", desc := "([BII)I", sig := { parameters := [(.array .byte), .int, .int], returnType := some .int }, accessFlags := 10, code := some k1c5 }
def k1c6 : Code := { maxStack := 3, maxLocals := 10, code := method_7_code, exceptionTable := #[], attributes := #[] }
def k1m6 : Method := { name := "field", desc := "([BIII[I[II)Z", sig := { parameters := [(.array .byte), .int, .int, .int, (.array .int), (.array .int), .int], returnType := some .boolean }, accessFlags := 10, code := some k1c6 }
/-- com/example/lamina/lamina/table/DelimitedLineSplitPinLaw -/
def k1 : Class := { plain "com/example/lamina/lamina/table/DelimitedLineSplitPinLaw" (some 0) with
  accessFlags := 49
  interfaces := #[]
  cf := some (fileOf pool1 8 #[] #[{ accessFlags := 2, nameIndex := 5, descriptorIndex := 6, attributes := #[] }, { accessFlags := 9, nameIndex := 38, descriptorIndex := 39, attributes := #[] }, { accessFlags := 10, nameIndex := 11, descriptorIndex := 12, attributes := #[] }, { accessFlags := 10, nameIndex := 16, descriptorIndex := 17, attributes := #[] }, { accessFlags := 10, nameIndex := 34, descriptorIndex := 35, attributes := #[] }, { accessFlags := 10, nameIndex := 26, descriptorIndex := 27, attributes := #[] }, { accessFlags := 10, nameIndex := 30, descriptorIndex := 31, attributes := #[] }] 49 2 #[] #[])
  fields := #[]
  methods := #[k1m0, k1m1, k1m2, k1m3, k1m4, k1m5, k1m6]
  instanceTypes := #[]
  staticTypes := #[]
  resolved := Array.replicate 47 none
  statics := none }

def pool2 : Array CpInfo := pool [(2, .class_ 4), (1, u "java/lang/Object"), (0, u "<init>"), (0, u "()V"), (0, .class_ 8), (0, u "com/example/lamina/lamina/table/DelimitedLine"), (2, u "split"), (0, u "([BII[I[I)I")] 7

def k2m0 : Method := { name := "<init>", desc := "()V", sig := { parameters := [], returnType := none }, accessFlags := 2, code := none }
def k2c1 : Code := { maxStack := 3, maxLocals := 9, code := prog_70_method_2_code, exceptionTable := #[], attributes := #[] }
def k2m1 : Method := { name := "split", desc := "([BII[I[I)I", sig := { parameters := [(.array .byte), .int, .int, (.array .int), (.array .int)], returnType := some .int }, accessFlags := 9, code := some k2c1 }
/-- com/example/lamina/lamina/table/DelimitedLine -/
def k2 : Class := { plain "com/example/lamina/lamina/table/DelimitedLine" (some 0) with
  accessFlags := 49
  interfaces := #[]
  cf := some (fileOf pool2 7 #[] #[{ accessFlags := 2, nameIndex := 5, descriptorIndex := 6, attributes := #[] }, { accessFlags := 9, nameIndex := 11, descriptorIndex := 12, attributes := #[] }] 49 2 #[] #[])
  fields := #[]
  methods := #[k2m0, k2m1]
  instanceTypes := #[]
  staticTypes := #[]
  resolved := Array.replicate 20 none
  statics := none }

def pool3 : Array CpInfo := pool [(1, u "java/lang/Cloneable"), (0, .class_ 1), (0, u "java/lang/Object"), (0, .class_ 3)] 3

/-- java/lang/Cloneable -/
def k3 : Class := { plain "java/lang/Cloneable" (some 0) with
  accessFlags := 1537
  interfaces := #[]
  cf := some (fileOf pool3 2 #[] #[] 1537 4 #[] #[])
  fields := #[]
  methods := #[]
  instanceTypes := #[]
  staticTypes := #[]
  resolved := Array.replicate 8 none
  statics := none }

def pool4 : Array CpInfo := pool [(1, u "java/io/Serializable"), (0, .class_ 1), (0, u "java/lang/Object"), (0, .class_ 3)] 3

/-- java/io/Serializable -/
def k4 : Class := { plain "java/io/Serializable" (some 0) with
  accessFlags := 1537
  interfaces := #[]
  cf := some (fileOf pool4 2 #[] #[] 1537 4 #[] #[])
  fields := #[]
  methods := #[]
  instanceTypes := #[]
  staticTypes := #[]
  resolved := Array.replicate 8 none
  statics := none }

/-- the primitive byte -/
def k5 : Class := { plain "byte" none with kind := .primitive 'B', accessFlags := 0x411 }
/-- [B -/
def k6 : Class := { plain "[B" (some 0) with kind := .array 5 .byte, interfaces := #[3, 4], accessFlags := 1041 }

/-- the primitive int -/
def k7 : Class := { plain "int" none with kind := .primitive 'I', accessFlags := 0x411 }
/-- [I -/
def k8 : Class := { plain "[I" (some 0) with kind := .array 7 .int, interfaces := #[3, 4], accessFlags := 1041 }

def heap : Heap := #[]
def classes : Array Class := #[k0, k1, k2, k3, k4, k5, k6, k7, k8]
def interned : List (Array UInt16 × Addr) := []
def slotsUsed : Nat := 0
def theMethod : MethodId := ⟨1, 1⟩
def args0 : Array Value := #[.long 5, .int 5, .int 6, .int 4]
def aboutOver (below : List Frame) : State where
  vm := { classes := classes, interned := interned.toArray }
  heap := heap
  slotsUsed := slotsUsed
  threads := #[{ frames := .invoking theMethod args0 :: below }]
def below0 : List Frame := [.native { method := ⟨0, 0⟩, args := #[] }]
def about1 : State := aboutOver below0
def p0 : Program := .bare "" "" ""
def e0 : Env := launch0.env 0 0 0
theorem w_frames : about1.frames = Frame.invoking theMethod args0 :: below0 := rfl
set_option maxRecDepth 65536 in
theorem w_args : argsFit about1.vm theMethod args0 = true := by decide +kernel
set_option maxRecDepth 65536 in
theorem w_heap : heapFits about1 = true := by decide +kernel
set_option maxRecDepth 65536 in
theorem w_runnable : about1.curStatus? = some .runnable := by decide +kernel
set_option maxRecDepth 65536 in
theorem w_alone : about1.alone = true := by decide +kernel
set_option maxRecDepth 65536 in
theorem w_named : about1.methodNamed? x = some theMethod := by decide +kernel
set_option maxRecDepth 65536 in
theorem w_hears : about1.hears theMethod below0 = true := by decide +kernel
set_option maxRecDepth 65536 in
theorem w_ripe : about1.ripe theMethod args0 below0 = true := by decide +kernel
theorem w_running : about1.status = .running := rfl
set_option maxRecDepth 65536 in
theorem w_room : about1.hasRoom e0.platform room_1 = true :=
  launch0.hasRoom_least _ room_1 (by decide +kernel) (by decide +kernel) (by decide +kernel) (by decide +kernel) (by decide +kernel) (by decide +kernel)
theorem allAtoms_all (ts : List Jvm.Cond) (a : Array Jvm.Value) (st : Jvm.State) : (allAtoms ts).before a st = ts.all (fun c => c.before a st) := by
  induction ts with
  | nil => rfl
  | cons c t ih =>
    show (Jvm.Cond.and c (allAtoms t)).before a st = _
    rw [Jvm.Cond.before_and, ih, List.all_cons]
def words1 : List Jvm.Cond := Jvm.Cond.code x code maxLocals ret :: tables_1
/-- a 'code' word, met by the world's own term for the bytes: nothing is compared byte by byte -/
theorem code_word {y : MethodName} {bytes : ByteArray} {mx : Nat} {rt : Option FieldType} {a : Array Value} {s : State} {m : MethodId} {meth : Method} {c : Code} (h1 : s.methodNamed? y = some m) (h2 : s.vm.method? m = some meth) (h3 : meth.code = some c) (h4 : c.code = bytes)
    (h5 : (c.maxLocals == mx && c.exceptionTable.isEmpty && decide (c.maxStack ≤ mostOperands) && decide (meth.sig.returnType = rt) && !meth.locks && decide (parseMethodDescriptor y.desc = some meth.sig)) = true) : (Jvm.Cond.code y bytes mx rt).before a s = true := by
  simp only [Bool.and_eq_true, beq_iff_eq, Bool.not_eq_true', decide_eq_true_eq] at h5
  obtain ⟨⟨⟨⟨⟨g1, g2⟩, g3⟩, g4⟩, g5⟩, g6⟩ := h5
  simp [Cond.before, Cond.holds, Cond.value, h1, h2, h3, h4, g1, g2, g3, g4, g5, g6]
def isCode : Jvm.Cond → Bool
  | .code _ _ _ _ => true
  | _ => false
theorem all_split {L : List Jvm.Cond} {P : Jvm.Cond → Bool} (h1 : L.all (fun c => isCode c || P c) = true) (h2 : ∀ c ∈ L.filter isCode, P c = true) : L.all P = true := by
  refine List.all_eq_true.mpr fun c hc => ?_
  have h := List.all_eq_true.mp h1 c hc
  rcases Bool.eq_false_or_eq_true (isCode c) with hi | hi
  · exact h2 c (List.mem_filter.mpr ⟨hc, hi⟩)
  · simpa [hi] using h
set_option maxRecDepth 65536 in
theorem w_c0 : (Jvm.Cond.code x code maxLocals ret).before args0 about1 = true := code_word (m := ⟨1, 1⟩) (meth := k1m1) (c := k1c1) (by decide +kernel) rfl rfl rfl (by decide +kernel)
set_option maxRecDepth 65536 in
theorem w_c1 : (Jvm.Cond.code ({ cls := "com/example/lamina/lamina/table/DelimitedLineSplitPinLaw", name := "pick", desc := "(JI)B" } : Jvm.MethodName) method_3_code (5 : Nat) (Option.some Jvm.ClassFile.FieldType.byte)).before args0 about1 = true := code_word (m := ⟨1, 2⟩) (meth := k1m2) (c := k1c2) (by decide +kernel) rfl rfl rfl (by decide +kernel)
set_option maxRecDepth 65536 in
theorem w_c2 : (Jvm.Cond.code ({ cls := "com/example/lamina/lamina/table/DelimitedLineSplitPinLaw", name := "filled", desc := "(I)[I" } : Jvm.MethodName) method_4_code (2 : Nat) (Option.some (Jvm.ClassFile.FieldType.array Jvm.ClassFile.FieldType.int))).before args0 about1 = true := code_word (m := ⟨1, 3⟩) (meth := k1m3) (c := k1c3) (by decide +kernel) rfl rfl rfl (by decide +kernel)
set_option maxRecDepth 65536 in
theorem w_c3 : (Jvm.Cond.code ({ cls := "com/example/lamina/lamina/table/DelimitedLine", name := "split", desc := "([BII[I[I)I" } : Jvm.MethodName) prog_70_method_2_code (9 : Nat) (Option.some Jvm.ClassFile.FieldType.int)).before args0 about1 = true := code_word (m := ⟨2, 1⟩) (meth := k2m1) (c := k2c1) (by decide +kernel) rfl rfl rfl (by decide +kernel)
set_option maxRecDepth 65536 in
theorem w_c4 : (Jvm.Cond.code ({ cls := "com/example/lamina/lamina/table/DelimitedLineSplitPinLaw", name := "bars", desc := "([BII)I" } : Jvm.MethodName) method_6_code (3 : Nat) (Option.some Jvm.ClassFile.FieldType.int)).before args0 about1 = true := code_word (m := ⟨1, 5⟩) (meth := k1m5) (c := k1c5) (by decide +kernel) rfl rfl rfl (by decide +kernel)
set_option maxRecDepth 65536 in
theorem w_c5 : (Jvm.Cond.code ({ cls := "com/example/lamina/lamina/table/DelimitedLineSplitPinLaw", name := "bar", desc := "([BIII)I" } : Jvm.MethodName) method_5_code (4 : Nat) (Option.some Jvm.ClassFile.FieldType.int)).before args0 about1 = true := code_word (m := ⟨1, 4⟩) (meth := k1m4) (c := k1c4) (by decide +kernel) rfl rfl rfl (by decide +kernel)
set_option maxRecDepth 65536 in
theorem w_c6 : (Jvm.Cond.code ({ cls := "com/example/lamina/lamina/table/DelimitedLineSplitPinLaw", name := "field", desc := "([BIII[I[II)Z" } : Jvm.MethodName) method_7_code (10 : Nat) (Option.some Jvm.ClassFile.FieldType.boolean)).before args0 about1 = true := code_word (m := ⟨1, 6⟩) (meth := k1m6) (c := k1c6) (by decide +kernel) rfl rfl rfl (by decide +kernel)
def codes1 : List Jvm.Cond := [Jvm.Cond.code x code maxLocals ret, Jvm.Cond.code ({ cls := "com/example/lamina/lamina/table/DelimitedLineSplitPinLaw", name := "pick", desc := "(JI)B" } : Jvm.MethodName) method_3_code (5 : Nat) (Option.some Jvm.ClassFile.FieldType.byte), Jvm.Cond.code ({ cls := "com/example/lamina/lamina/table/DelimitedLineSplitPinLaw", name := "filled", desc := "(I)[I" } : Jvm.MethodName) method_4_code (2 : Nat) (Option.some (Jvm.ClassFile.FieldType.array Jvm.ClassFile.FieldType.int)), Jvm.Cond.code ({ cls := "com/example/lamina/lamina/table/DelimitedLine", name := "split", desc := "([BII[I[I)I" } : Jvm.MethodName) prog_70_method_2_code (9 : Nat) (Option.some Jvm.ClassFile.FieldType.int), Jvm.Cond.code ({ cls := "com/example/lamina/lamina/table/DelimitedLineSplitPinLaw", name := "bars", desc := "([BII)I" } : Jvm.MethodName) method_6_code (3 : Nat) (Option.some Jvm.ClassFile.FieldType.int), Jvm.Cond.code ({ cls := "com/example/lamina/lamina/table/DelimitedLineSplitPinLaw", name := "bar", desc := "([BIII)I" } : Jvm.MethodName) method_5_code (4 : Nat) (Option.some Jvm.ClassFile.FieldType.int), Jvm.Cond.code ({ cls := "com/example/lamina/lamina/table/DelimitedLineSplitPinLaw", name := "field", desc := "([BIII[I[II)Z" } : Jvm.MethodName) method_7_code (10 : Nat) (Option.some Jvm.ClassFile.FieldType.boolean)]
set_option maxRecDepth 65536 in
theorem codes_eq : words1.filter isCode = codes1 := rfl
theorem w_codes : ∀ c ∈ words1.filter isCode, c.before args0 about1 = true := by
  rw [codes_eq]
  intro c hc
  simp only [codes1, List.mem_cons, List.not_mem_nil, or_false] at hc
  rcases hc with rfl | rfl | rfl | rfl | rfl | rfl | rfl
  · exact w_c0
  · exact w_c1
  · exact w_c2
  · exact w_c3
  · exact w_c4
  · exact w_c5
  · exact w_c6
set_option maxRecDepth 65536 in
theorem w_t1 : words1.all (fun c => isCode c || c.before args0 about1) = true := by decide +kernel
theorem w_tables : (allAtoms (Jvm.Cond.code x code maxLocals ret :: tables_1)).before args0 about1 = true := by
  rw [allAtoms_all]
  show words1.all (fun c => c.before args0 about1) = true
  refine all_split ?_ w_codes
  rw [w_t1]
set_option maxRecDepth 65536 in
theorem w_case : (Jvm.Cond.and given_1 narrow_1).before args0 about1 = true := by decide +kernel
theorem w_applies : (headSpec (Jvm.Cond.code x code maxLocals ret :: tables_1) room_1).applies x e0.platform about1 = true :=
  (Spec.applies_iff w_frames).mpr ⟨w_running, w_runnable, w_alone, w_named, w_hears, w_ripe, w_room, w_tables⟩
theorem atStart : AtStart classFile x code maxLocals ret World_1 tables_1 room_1 Calls_1 rest_1 Pre_1 launch0 p0 e0 about1 theMethod args0 below0 :=
  ⟨lists_1, trivial, launch0.admits_env _ _ _, launch0.least_env, fairChoices_fair.cas, fairChoices_fair.clock, w_frames, w_args, w_heap, w_applies, trivial, trivial, w_case⟩
end start1
theorem witness_1 : WitnessClaimed_1 := ⟨start1.p0, start1.e0, start1.about1, start1.theMethod, start1.args0, start1.below0, start1.atStart⟩
end Jvm.Pilot.@@N@@
