import JvmDerived
import JvmDerived.Pilot.@@N@@Statement
import JvmDerived.Pilot.@@N@@Code
set_option linter.unusedVariables false
set_option linter.unusedSimpArgs false
namespace Jvm.OwnW
open Sem ClassFile Op Lib Jvm.Free Jvm.Stand Jvm.LawKit Jvm.RoadKit
/-- what stays the same all through one invocation -/
abbrev Ctx : Type := Program × Env × State × MethodId × Array Value × List Frame × Method × Code
abbrev Ctx.p (C : Ctx) : Program := C.1
abbrev Ctx.e (C : Ctx) : Env := C.2.1
abbrev Ctx.s (C : Ctx) : State := C.2.2.1
abbrev Ctx.m (C : Ctx) : MethodId := C.2.2.2.1
abbrev Ctx.args (C : Ctx) : Array Value := C.2.2.2.2.1
abbrev Ctx.below (C : Ctx) : List Frame := C.2.2.2.2.2.1
abbrev Ctx.meth (C : Ctx) : Method := C.2.2.2.2.2.2.1
abbrev Ctx.c (C : Ctx) : Code := C.2.2.2.2.2.2.2
/-- each place of the list lies in a cell of ws, or in one made since -/
def Wok (b : Nat) (ws : List Addr) (L : List Loc) : Prop := ∀ y ∈ L, y.base ∈ ws ∨ b ≤ y.base
theorem Wok.nil (b : Nat) (ws : List Addr) : Wok b ws [] := fun _ q => nomatch q
theorem Wok.app {b : Nat} {ws : List Addr} {L L' : List Loc} (N : Wok b ws L) (N' : Wok b ws L') : Wok b ws (L ++ L') := fun y q => (List.mem_append.mp q).elim (N y) (N' y)
theorem Wok.snoc {b : Nat} {ws : List Addr} {L : List Loc} {a : Addr} {sl : Nat} (N : Wok b ws L) (q : a ∈ ws ∨ b ≤ a) : Wok b ws (L ++ [⟨a, sl⟩]) := N.app fun y hy => by cases List.mem_singleton.mp hy; exact q
theorem keep_of_same {s t : State} {L : List Loc} {ws : List Addr} {k n : Nat} (h : s.sameButNew t L k n) (N : Wok s.heap.size ws L) : Keep s.heap t.heap ws := by
  obtain ⟨-, h2, -, -, -, h6⟩ := h
  refine ⟨h2, fun x c hx hn => ?_, fun x c hx => ?_⟩
  · obtain ⟨c', q1, q2, q3, q4⟩ := h6 x c hx
    have hlt := (Array.getElem?_eq_some_iff.mp hx).1
    have : c'.slots = c.slots := Array.ext_getElem? fun i => q4 i fun hm => (N _ hm).elim hn fun z => absurd hlt (Nat.not_lt.mpr z)
    rw [q1, q2, this]
  · obtain ⟨c', q1, q2, q3, q4⟩ := h6 x c hx
    exact ⟨c', q1, by rw [q2], by rw [q2], q3⟩
theorem eq_of_same {s t : State} {L : List Loc} {n : Nat} (h : s.sameButNew t L 0 n) (N : Wok s.heap.size [] L) : t.heap = s.heap := by
  have K := keep_of_same h N
  obtain ⟨-, h2, h3, -⟩ := h
  refine Array.ext_getElem? fun i => ?_
  cases hi : s.heap[i]? with
  | some c => exact K.2.1 i c hi (fun q => nomatch q)
  | none =>
    rw [Array.getElem?_eq_none_iff] at hi ⊢
    omega
/-- where the run stands: the invocation's state T with heap h; of what is older than the invocation only ws has been written -/
def On (l : Launch) (Z : State) (ws : List Addr) (R : Room) (own nm : String) (bytes : ByteArray) (maxL : Nat) (ret : Option FieldType) (C : Ctx) (T : State) (h : Heap) (cells slots : Nat) : Prop :=
  (C.p.tables.exec = Jvm.exec ∧ Z.Warmed39 C.s.vm ∧ C.c.code = bytes ∧ C.c.maxLocals = maxL ∧ C.s.vm.findClass own = some C.m.cls ∧ C.meth.name = nm ∧ C.meth.sig.returnType = ret ∧ C.meth.locks = false) ∧
  (∃ locs, Stand C.p l C.e R C.s C.m C.args C.below C.meth C.c T locs cells slots ∧ Wok C.s.heap.size ws locs) ∧ T.heap = h
def Post (ws : List Addr) (rc : Nat) (h0 : Heap) (Q : Option Value → Heap → Prop) (v : Option Value) (h : Heap) (L : List Loc) : Prop := Wok h0.size ws L ∧ Keep h0 h ws ∧ (rc = 0 → ws = [] → h = h0) ∧ Q v h
/-- from the state A the invocation comes to its end, with Q of what it returns and of the heap it leaves -/
def Go (C : Ctx) (ws : List Addr) (Q : Option Value → Heap → Prop) (k n : Nat) (A : State) : Prop :=
  ∃ U o, Steps C.p.tables C.e C.below A U ∧ U.status = .running ∧ Ended U C.below o ∧ ∃ v L, o = .returned v ∧ Post ws k C.s.heap Q v U.heap L ∧ FrameEnd C.s o U L k n
def Met (l : Launch) (Z : State) (y : MethodName) (bytes : ByteArray) (maxL : Nat) (ret : Option FieldType) (wds : List Cond) (rm : Room) (as' : Array Value) (ws : List Addr) (h0 : Heap) (Q : Option Value → Heap → Prop) : Prop :=
  MetFree l y (head1 (Cond.code y bytes maxL ret :: wds) rm) (fun a U => a = as' ∧ Z.Warmed39 U.vm ∧ U.heap = h0) (fun _ _ _ _ _ => True) (fun _ U o U' => ∃ v L, o = .returned v ∧ Post ws rm.cells h0 Q v U'.heap L ∧ FrameEnd U o U' L rm.cells rm.slots)
theorem Met.mk {l : Launch} {Z : State} {y : MethodName} {bytes : ByteArray} {maxL : Nat} {ret : Option FieldType} {wds : List Cond} {rm : Room} {as' : Array Value} {ws : List Addr} {h0 : Heap} {Q : Option Value → Heap → Prop} {Ls : Array Slot}
    (hp : plainFor y = true) (ef : ∀ m, entryFrame m as' maxL = mkF m 0 Ls [])
    (H : ∀ (C : Ctx) (T : State), C.s.heap = h0 → On l Z ws rm y.cls y.name bytes maxL ret C T h0 0 0 → Go C ws Q rm.cells rm.slots (T.setTop (mkF C.m 0 Ls []))) : Met l Z y bytes maxL ret wds rm as' ws h0 Q := by
  refine MetFree.of_bodySF hp hisR ?_
  intro p e s m args below meth c s₁ Bd hml0 hP hK
  obtain ⟨rfl, hZ, hh⟩ := hP
  have e0 : s₁.heap = h0 := by rw [← hh, Bd.state]; rfl
  have := H (p, e, s, m, args, below, meth, c) s₁ hh ⟨⟨Bd.exec, hZ, Bd.bytes, hml0, findClass_of_methodNamed Bd.named, (name_of_methodNamed Bd.named Bd.method).1, Bd.returns, Bd.notSynchronized⟩, ⟨[], Stand.of_body Bd, Wok.nil _ _⟩, e0⟩
  obtain ⟨U, o, h1, h2, h3, v, L, h4, h5, h6⟩ := this
  refine ⟨U, o, castTop (ef m) h1, h2, h3, v, L, h4, ?_, h6⟩
  rw [← hh]; exact h5
theorem Go.of {C : Ctx} {ws : List Addr} {Q : Option Value → Heap → Prop} {k n : Nat} {A B : State} (g : Go C ws Q k n B) (h : ∀ t, Steps C.p.tables C.e C.below B t → Steps C.p.tables C.e C.below A t) : Go C ws Q k n A := by
  obtain ⟨U, o, h1, r⟩ := g; exact ⟨U, o, h _ h1, r⟩
theorem Go.via {C : Ctx} {ws : List Addr} {Q : Option Value → Heap → Prop} {k n : Nat} {A B : State} (g : Go C ws Q k n B) (h : Steps C.p.tables C.e C.below A B) : Go C ws Q k n A := by
  obtain ⟨U, o, h1, r⟩ := g; exact ⟨U, o, h.trans h1, r⟩
section Steps
variable {l : Launch} {Z : State} {a0 : Array Value} {ws : List Addr} {R : Room} {own nm : String} {bytes : ByteArray} {maxL : Nat} {ret : Option FieldType} {C : Ctx} {T : State} {h : Heap} {cells slots k n : Nat} {Q : Option Value → Heap → Prop} {pc q : Nat} {Ls L' : Array Slot} {st : List Value}
theorem On.size (O : On l Z ws R own nm bytes maxL ret C T h cells slots) : C.s.heap.size ≤ h.size := by
  obtain ⟨-, ⟨_, X, -⟩, rfl⟩ := O; exact X.same.2.1
theorem On.kept (O : On l Z ws R own nm bytes maxL ret C T h cells slots) : Keep C.s.heap h ws := by
  obtain ⟨-, ⟨_, X, N⟩, rfl⟩ := O; exact keep_of_same (t := T.setVm C.s.vm) X.same N
theorem fin (O : On l Z ws R own nm bytes maxL ret C T h cells slots) {v : Option Value} (hv : ret = none → v = none) (hk : cells ≤ k) (hn : slots ≤ n) (hQ : Q v h)
    (stp : ∀ X : State, ∀ fs, (∀ (f : JFrame) (acts : List Action), f.method = C.m → f.locked = none → f.entered = [] → (doReturn C.e (T.setTop f) acts v).1 = T.setFrames fs) → X = T.setFrames fs → Steps C.p.tables C.e C.below (T.setTop (mkF C.m pc Ls st)) X) : Go C ws Q k n (T.setTop (mkF C.m pc Ls st)) := by
  obtain ⟨⟨hx, hZ, -, -, -, -, hret, hlk⟩, ⟨L, X, N⟩, eT⟩ := O
  obtain ⟨fs, hr, hrun, hended, hW, hsame⟩ := X.leave (v := v) (fun q => hv (hret ▸ q)) hlk
  refine ⟨_, _, stp _ fs hr rfl, hrun, hended, v, L, rfl, ⟨N, ?_, ?_, ?_⟩, ⟨_, rfl⟩, hW, hsame.mono hk hn⟩
  · exact keep_of_same (t := T.setVm C.s.vm) X.same N
  · rintro rfl rfl
    exact eq_of_same (t := T.setVm C.s.vm) (X.same.mono hk (Nat.le_refl _)) N
  · show Q v T.heap; rw [eT]; exact hQ
theorem ret0 (O : On l Z ws R own nm bytes maxL none C T h cells slots) (hd : decode bytes pc = .ok (.return_, 1)) (hk : cells ≤ k) (hn : slots ≤ n) (hQ : Q none h) : Go C ws Q k n (T.setTop (mkF C.m pc Ls [])) := by
  refine fin O (fun _ => rfl) hk hn hQ ?_
  obtain ⟨⟨hx, hZ, rfl, -, -, -, hret, hlk⟩, ⟨L, X, N⟩, eT⟩ := O
  rintro _ fs hr rfl
  exact X.returnOut hx hret hd hr
theorem retV {t : FieldType} {w w' : Value} {i : Instr} {rest : List Value} (O : On l Z ws R own nm bytes maxL (some t) C T h cells slots) (hd : decode bytes pc = .ok (i, 1)) (hw : w' = w) (hnw : narrow t w = w)
    (hi : (i = .ireturn ∧ (t = .int ∨ t = .boolean ∨ t = .byte ∨ t = .char ∨ t = .short) ∧ ∃ z, w = .int z) ∨ (i = .lreturn ∧ t = .long ∧ ∃ z, w = .long z) ∨ (i = .dreturn ∧ t = .double ∧ ∃ z, w = .double z) ∨ (i = .freturn ∧ t = .float ∧ ∃ z, w = .float z) ∨ (i = .areturn ∧ t.isReference = true ∧ w.isRef = true))
    (hk : cells ≤ k) (hn : slots ≤ n) (hQ : Q (some w) h) : Go C ws Q k n (T.setTop (mkF C.m pc Ls (w' :: rest))) := by
  subst hw
  refine fin O (fun q => nomatch q) hk hn hQ ?_
  obtain ⟨⟨hx, hZ, rfl, -, -, -, hret, hlk⟩, ⟨L, X, N⟩, eT⟩ := O
  rintro _ fs hr rfl
  exact retOut X hx hret hnw hi hd hr
theorem retI {z z' : Int32} {rest : List Value} (O : On l Z ws R own nm bytes maxL (some .int) C T h cells slots) (hd : decode bytes pc = .ok (.ireturn, 1)) (hz : z = z') (hk : cells ≤ k) (hn : slots ≤ n) (hQ : Q (some (.int z')) h) : Go C ws Q k n (T.setTop (mkF C.m pc Ls (.int z :: rest))) :=
  retV O hd (congrArg Value.int hz) rfl (Or.inl ⟨rfl, Or.inl rfl, _, rfl⟩) hk hn hQ
theorem retB {z z' : Int32} {rest : List Value} (O : On l Z ws R own nm bytes maxL (some .boolean) C T h cells slots) (hd : decode bytes pc = .ok (.ireturn, 1)) (hz : z = z') (h01 : z' = 0 ∨ z' = 1) (hk : cells ≤ k) (hn : slots ≤ n) (hQ : Q (some (.int z')) h) : Go C ws Q k n (T.setTop (mkF C.m pc Ls (.int z :: rest))) :=
  retV O hd (congrArg Value.int hz) (by rcases h01 with rfl | rfl <;> rfl) (Or.inl ⟨rfl, Or.inr (Or.inl rfl), _, rfl⟩) hk hn hQ
theorem retY {z z' : Int32} {rest : List Value} (O : On l Z ws R own nm bytes maxL (some .byte) C T h cells slots) (hd : decode bytes pc = .ok (.ireturn, 1)) (hz : z = z') (hb : z'.toInt8.toInt32 = z') (hk : cells ≤ k) (hn : slots ≤ n) (hQ : Q (some (.int z')) h) : Go C ws Q k n (T.setTop (mkF C.m pc Ls (.int z :: rest))) :=
  retV O hd (congrArg Value.int hz) (congrArg Value.int hb) (Or.inl ⟨rfl, Or.inr (Or.inr (Or.inl rfl)), _, rfl⟩) hk hn hQ
theorem retL {z z' : Int64} {rest : List Value} (O : On l Z ws R own nm bytes maxL (some .long) C T h cells slots) (hd : decode bytes pc = .ok (.lreturn, 1)) (hz : z = z') (hk : cells ≤ k) (hn : slots ≤ n) (hQ : Q (some (.long z')) h) : Go C ws Q k n (T.setTop (mkF C.m pc Ls (.long z :: rest))) :=
  retV O hd (congrArg Value.long hz) rfl (Or.inr (Or.inl ⟨rfl, rfl, _, rfl⟩)) hk hn hQ
theorem retA {t : FieldType} {w : Value} {rest : List Value} (O : On l Z ws R own nm bytes maxL (some t) C T h cells slots) (hd : decode bytes pc = .ok (.areturn, 1)) (ht : t.isReference = true) (hw : w.isRef = true) (hnw : narrow t w = w) (hk : cells ≤ k) (hn : slots ≤ n) (hQ : Q (some w) h) : Go C ws Q k n (T.setTop (mkF C.m pc Ls (w :: rest))) :=
  retV O hd rfl hnw (Or.inr (Or.inr (Or.inr (Or.inr ⟨rfl, ht, hw⟩)))) hk hn hQ
theorem iload (O : On l Z ws R own nm bytes maxL ret C T h cells slots) {i : Nat} {v : Int32} (hd : decode bytes pc = .ok (.iload i, 2)) (hl : Ls[i]? = some (.val (.int v))) (hq : pc + 2 = q)
    (K : Go C ws Q k n (T.setTop (mkF C.m q Ls (.int v :: st)))) : Go C ws Q k n (T.setTop (mkF C.m pc Ls (st))) := by
  obtain ⟨⟨hx, -, rfl, -⟩, ⟨_, X, -⟩, -⟩ := O; subst hq
  exact K.of fun _ kk => XS.iload X.here hx rfl hd hl kk
theorem iloadN (O : On l Z ws R own nm bytes maxL ret C T h cells slots) {i : Fin 4} {v : Int32} (hd : decode bytes pc = .ok (.iload_n i, 1)) (hl : Ls[i.val]? = some (.val (.int v))) (hq : pc + 1 = q)
    (K : Go C ws Q k n (T.setTop (mkF C.m q Ls (.int v :: st)))) : Go C ws Q k n (T.setTop (mkF C.m pc Ls (st))) := by
  obtain ⟨⟨hx, -, rfl, -⟩, ⟨_, X, -⟩, -⟩ := O; subst hq
  exact K.of fun _ kk => XS.iloadN X.here hx rfl hd hl kk
theorem lload (O : On l Z ws R own nm bytes maxL ret C T h cells slots) {i : Nat} {v : Int64} (hd : decode bytes pc = .ok (.lload i, 2)) (hl : Ls[i]? = some (.val (.long v))) (hq : pc + 2 = q)
    (K : Go C ws Q k n (T.setTop (mkF C.m q Ls (.long v :: st)))) : Go C ws Q k n (T.setTop (mkF C.m pc Ls (st))) := by
  obtain ⟨⟨hx, -, rfl, -⟩, ⟨_, X, -⟩, -⟩ := O; subst hq
  exact K.of fun _ kk => XS.lload X.here hx rfl hd hl kk
theorem lloadN (O : On l Z ws R own nm bytes maxL ret C T h cells slots) {i : Fin 4} {v : Int64} (hd : decode bytes pc = .ok (.lload_n i, 1)) (hl : Ls[i.val]? = some (.val (.long v))) (hq : pc + 1 = q)
    (K : Go C ws Q k n (T.setTop (mkF C.m q Ls (.long v :: st)))) : Go C ws Q k n (T.setTop (mkF C.m pc Ls (st))) := by
  obtain ⟨⟨hx, -, rfl, -⟩, ⟨_, X, -⟩, -⟩ := O; subst hq
  exact K.of fun _ kk => XS.lloadN X.here hx rfl hd hl kk
theorem aload (O : On l Z ws R own nm bytes maxL ret C T h cells slots) {i : Nat} {v : Value} (hd : decode bytes pc = .ok (.aload i, 2)) (hl : Ls[i]? = some (.val v)) (hv : v.isRef = true) (hq : pc + 2 = q)
    (K : Go C ws Q k n (T.setTop (mkF C.m q Ls (v :: st)))) : Go C ws Q k n (T.setTop (mkF C.m pc Ls (st))) := by
  obtain ⟨⟨hx, -, rfl, -⟩, ⟨_, X, -⟩, -⟩ := O; subst hq
  exact K.of fun _ kk => XS.aload X.here hx rfl hd hl hv kk
theorem aloadN (O : On l Z ws R own nm bytes maxL ret C T h cells slots) {i : Fin 4} {v : Value} (hd : decode bytes pc = .ok (.aload_n i, 1)) (hl : Ls[i.val]? = some (.val v)) (hv : v.isRef = true) (hq : pc + 1 = q)
    (K : Go C ws Q k n (T.setTop (mkF C.m q Ls (v :: st)))) : Go C ws Q k n (T.setTop (mkF C.m pc Ls (st))) := by
  obtain ⟨⟨hx, -, rfl, -⟩, ⟨_, X, -⟩, -⟩ := O; subst hq
  exact K.of fun _ kk => XS.aloadN X.here hx rfl hd hl hv kk
theorem istore (O : On l Z ws R own nm bytes maxL ret C T h cells slots) {i : Nat} {v : Int32} (hd : decode bytes pc = .ok (.istore i, 2)) (hl : storeLocals Ls i (.int v) = some L') (hq : pc + 2 = q)
    (K : Go C ws Q k n (T.setTop (mkF C.m q L' (st)))) : Go C ws Q k n (T.setTop (mkF C.m pc Ls (.int v :: st))) := by
  obtain ⟨⟨hx, -, rfl, -⟩, ⟨_, X, -⟩, -⟩ := O; subst hq
  exact K.of fun _ kk => XS.istore X.here hx rfl hd rfl hl kk
theorem istoreN (O : On l Z ws R own nm bytes maxL ret C T h cells slots) {i : Fin 4} {v : Int32} (hd : decode bytes pc = .ok (.istore_n i, 1)) (hl : storeLocals Ls i.val (.int v) = some L') (hq : pc + 1 = q)
    (K : Go C ws Q k n (T.setTop (mkF C.m q L' (st)))) : Go C ws Q k n (T.setTop (mkF C.m pc Ls (.int v :: st))) := by
  obtain ⟨⟨hx, -, rfl, -⟩, ⟨_, X, -⟩, -⟩ := O; subst hq
  exact K.of fun _ kk => XS.istoreN X.here hx rfl hd rfl hl kk
theorem lstore (O : On l Z ws R own nm bytes maxL ret C T h cells slots) {i : Nat} {v : Int64} (hd : decode bytes pc = .ok (.lstore i, 2)) (hl : storeLocals Ls i (.long v) = some L') (hq : pc + 2 = q)
    (K : Go C ws Q k n (T.setTop (mkF C.m q L' (st)))) : Go C ws Q k n (T.setTop (mkF C.m pc Ls (.long v :: st))) := by
  obtain ⟨⟨hx, -, rfl, -⟩, ⟨_, X, -⟩, -⟩ := O; subst hq
  exact K.of fun _ kk => XS.lstore X.here hx rfl hd rfl hl kk
theorem lstoreN (O : On l Z ws R own nm bytes maxL ret C T h cells slots) {i : Fin 4} {v : Int64} (hd : decode bytes pc = .ok (.lstore_n i, 1)) (hl : storeLocals Ls i.val (.long v) = some L') (hq : pc + 1 = q)
    (K : Go C ws Q k n (T.setTop (mkF C.m q L' (st)))) : Go C ws Q k n (T.setTop (mkF C.m pc Ls (.long v :: st))) := by
  obtain ⟨⟨hx, -, rfl, -⟩, ⟨_, X, -⟩, -⟩ := O; subst hq
  exact K.of fun _ kk => XS.lstoreN X.here hx rfl hd rfl hl kk
theorem astore (O : On l Z ws R own nm bytes maxL ret C T h cells slots) {i : Nat} {v : Value} (hd : decode bytes pc = .ok (.astore i, 2)) (hv : v.isRef = true) (hl : storeLocals Ls i v = some L') (hq : pc + 2 = q)
    (K : Go C ws Q k n (T.setTop (mkF C.m q L' (st)))) : Go C ws Q k n (T.setTop (mkF C.m pc Ls (v :: st))) := by
  obtain ⟨⟨hx, -, rfl, -⟩, ⟨_, X, -⟩, -⟩ := O; subst hq
  exact K.of fun _ kk => XS.astore X.here hx rfl hd rfl hv hl kk
theorem astoreN (O : On l Z ws R own nm bytes maxL ret C T h cells slots) {i : Fin 4} {v : Value} (hd : decode bytes pc = .ok (.astore_n i, 1)) (hv : v.isRef = true) (hl : storeLocals Ls i.val v = some L') (hq : pc + 1 = q)
    (K : Go C ws Q k n (T.setTop (mkF C.m q L' (st)))) : Go C ws Q k n (T.setTop (mkF C.m pc Ls (v :: st))) := by
  obtain ⟨⟨hx, -, rfl, -⟩, ⟨_, X, -⟩, -⟩ := O; subst hq
  exact K.of fun _ kk => XS.astoreN X.here hx rfl hd rfl hv hl kk
theorem iconst (O : On l Z ws R own nm bytes maxL ret C T h cells slots) {i : Int} {r : Int32} (hd : decode bytes pc = .ok (.iconst i, 1)) (hr : Int32.ofInt i = r) (hq : pc + 1 = q)
    (K : Go C ws Q k n (T.setTop (mkF C.m q Ls (.int r :: st)))) : Go C ws Q k n (T.setTop (mkF C.m pc Ls (st))) := by
  obtain ⟨⟨hx, -, rfl, -⟩, ⟨_, X, -⟩, -⟩ := O; subst hq hr
  exact K.of fun _ kk => XS.iconst X.here hx rfl hd kk
theorem bipush (O : On l Z ws R own nm bytes maxL ret C T h cells slots) {i : Int} {r : Int32} (hd : decode bytes pc = .ok (.bipush i, 2)) (hr : (Int8.ofInt i).toInt32 = r) (hq : pc + 2 = q)
    (K : Go C ws Q k n (T.setTop (mkF C.m q Ls (.int r :: st)))) : Go C ws Q k n (T.setTop (mkF C.m pc Ls (st))) := by
  obtain ⟨⟨hx, -, rfl, -⟩, ⟨_, X, -⟩, -⟩ := O; subst hq hr
  exact K.of fun _ kk => XS.bipush X.here hx rfl hd kk
theorem sipush (O : On l Z ws R own nm bytes maxL ret C T h cells slots) {i : Int} {r : Int32} (hd : decode bytes pc = .ok (.sipush i, 3)) (hr : (Int16.ofInt i).toInt32 = r) (hq : pc + 3 = q)
    (K : Go C ws Q k n (T.setTop (mkF C.m q Ls (.int r :: st)))) : Go C ws Q k n (T.setTop (mkF C.m pc Ls (st))) := by
  obtain ⟨⟨hx, -, rfl, -⟩, ⟨_, X, -⟩, -⟩ := O; subst hq hr
  exact K.of fun _ kk => XS.sipush X.here hx rfl hd kk
theorem lconst (O : On l Z ws R own nm bytes maxL ret C T h cells slots) {i : Fin 2} {r : Int64} (hd : decode bytes pc = .ok (.lconst i, 1)) (hr : Int64.ofNat i = r) (hq : pc + 1 = q)
    (K : Go C ws Q k n (T.setTop (mkF C.m q Ls (.long r :: st)))) : Go C ws Q k n (T.setTop (mkF C.m pc Ls (st))) := by
  obtain ⟨⟨hx, -, rfl, -⟩, ⟨_, X, -⟩, -⟩ := O; subst hq hr
  exact K.of fun _ kk => XS.lconst X.here hx rfl hd kk
theorem aconst_null (O : On l Z ws R own nm bytes maxL ret C T h cells slots)  (hd : decode bytes pc = .ok (.aconst_null, 1))  (hq : pc + 1 = q)
    (K : Go C ws Q k n (T.setTop (mkF C.m q Ls (.null :: st)))) : Go C ws Q k n (T.setTop (mkF C.m pc Ls (st))) := by
  obtain ⟨⟨hx, -, rfl, -⟩, ⟨_, X, -⟩, -⟩ := O; subst hq
  exact K.of fun _ kk => XS.aconstNull X.here hx rfl hd kk
theorem iadd (O : On l Z ws R own nm bytes maxL ret C T h cells slots) {x y r : Int32} (hd : decode bytes pc = .ok (.iadd, 1)) (hr : x + y = r) (hq : pc + 1 = q)
    (K : Go C ws Q k n (T.setTop (mkF C.m q Ls (.int r :: st)))) : Go C ws Q k n (T.setTop (mkF C.m pc Ls (.int y :: .int x :: st))) := by
  obtain ⟨⟨hx, -, rfl, -⟩, ⟨_, X, -⟩, -⟩ := O; subst hq hr
  exact K.of fun _ kk => XS.iadd X.here hx rfl hd rfl kk
theorem isub (O : On l Z ws R own nm bytes maxL ret C T h cells slots) {x y r : Int32} (hd : decode bytes pc = .ok (.isub, 1)) (hr : x - y = r) (hq : pc + 1 = q)
    (K : Go C ws Q k n (T.setTop (mkF C.m q Ls (.int r :: st)))) : Go C ws Q k n (T.setTop (mkF C.m pc Ls (.int y :: .int x :: st))) := by
  obtain ⟨⟨hx, -, rfl, -⟩, ⟨_, X, -⟩, -⟩ := O; subst hq hr
  exact K.of fun _ kk => XS.isub X.here hx rfl hd rfl kk
theorem imul (O : On l Z ws R own nm bytes maxL ret C T h cells slots) {x y r : Int32} (hd : decode bytes pc = .ok (.imul, 1)) (hr : x * y = r) (hq : pc + 1 = q)
    (K : Go C ws Q k n (T.setTop (mkF C.m q Ls (.int r :: st)))) : Go C ws Q k n (T.setTop (mkF C.m pc Ls (.int y :: .int x :: st))) := by
  obtain ⟨⟨hx, -, rfl, -⟩, ⟨_, X, -⟩, -⟩ := O; subst hq hr
  exact K.of fun _ kk => XS.imul X.here hx rfl hd rfl kk
theorem iand (O : On l Z ws R own nm bytes maxL ret C T h cells slots) {x y r : Int32} (hd : decode bytes pc = .ok (.iand, 1)) (hr : x &&& y = r) (hq : pc + 1 = q)
    (K : Go C ws Q k n (T.setTop (mkF C.m q Ls (.int r :: st)))) : Go C ws Q k n (T.setTop (mkF C.m pc Ls (.int y :: .int x :: st))) := by
  obtain ⟨⟨hx, -, rfl, -⟩, ⟨_, X, -⟩, -⟩ := O; subst hq hr
  exact K.of fun _ kk => XS.iand X.here hx rfl hd rfl kk
theorem ior (O : On l Z ws R own nm bytes maxL ret C T h cells slots) {x y r : Int32} (hd : decode bytes pc = .ok (.ior, 1)) (hr : x ||| y = r) (hq : pc + 1 = q)
    (K : Go C ws Q k n (T.setTop (mkF C.m q Ls (.int r :: st)))) : Go C ws Q k n (T.setTop (mkF C.m pc Ls (.int y :: .int x :: st))) := by
  obtain ⟨⟨hx, -, rfl, -⟩, ⟨_, X, -⟩, -⟩ := O; subst hq hr
  exact K.of fun _ kk => XS.ior X.here hx rfl hd rfl kk
theorem ixor (O : On l Z ws R own nm bytes maxL ret C T h cells slots) {x y r : Int32} (hd : decode bytes pc = .ok (.ixor, 1)) (hr : x ^^^ y = r) (hq : pc + 1 = q)
    (K : Go C ws Q k n (T.setTop (mkF C.m q Ls (.int r :: st)))) : Go C ws Q k n (T.setTop (mkF C.m pc Ls (.int y :: .int x :: st))) := by
  obtain ⟨⟨hx, -, rfl, -⟩, ⟨_, X, -⟩, -⟩ := O; subst hq hr
  exact K.of fun _ kk => XS.ixor X.here hx rfl hd rfl kk
theorem ishl (O : On l Z ws R own nm bytes maxL ret C T h cells slots) {x y r : Int32} (hd : decode bytes pc = .ok (.ishl, 1)) (hr : x <<< (y &&& 31) = r) (hq : pc + 1 = q)
    (K : Go C ws Q k n (T.setTop (mkF C.m q Ls (.int r :: st)))) : Go C ws Q k n (T.setTop (mkF C.m pc Ls (.int y :: .int x :: st))) := by
  obtain ⟨⟨hx, -, rfl, -⟩, ⟨_, X, -⟩, -⟩ := O; subst hq hr
  exact K.of fun _ kk => XS.ishl X.here hx rfl hd rfl kk
theorem ishr (O : On l Z ws R own nm bytes maxL ret C T h cells slots) {x y r : Int32} (hd : decode bytes pc = .ok (.ishr, 1)) (hr : x >>> (y &&& 31) = r) (hq : pc + 1 = q)
    (K : Go C ws Q k n (T.setTop (mkF C.m q Ls (.int r :: st)))) : Go C ws Q k n (T.setTop (mkF C.m pc Ls (.int y :: .int x :: st))) := by
  obtain ⟨⟨hx, -, rfl, -⟩, ⟨_, X, -⟩, -⟩ := O; subst hq hr
  exact K.of fun _ kk => XS.ishr X.here hx rfl hd rfl kk
theorem iushr (O : On l Z ws R own nm bytes maxL ret C T h cells slots) {x y r : Int32} (hd : decode bytes pc = .ok (.iushr, 1)) (hr : (x.toUInt32 >>> (y &&& 31).toUInt32).toInt32 = r) (hq : pc + 1 = q)
    (K : Go C ws Q k n (T.setTop (mkF C.m q Ls (.int r :: st)))) : Go C ws Q k n (T.setTop (mkF C.m pc Ls (.int y :: .int x :: st))) := by
  obtain ⟨⟨hx, -, rfl, -⟩, ⟨_, X, -⟩, -⟩ := O; subst hq hr
  exact K.of fun _ kk => XS.iushr X.here hx rfl hd rfl kk
theorem idiv (O : On l Z ws R own nm bytes maxL ret C T h cells slots) {x y r : Int32} (hd : decode bytes pc = .ok (.idiv, 1)) (hy : y ≠ 0) (hr : x / y = r) (hq : pc + 1 = q)
    (K : Go C ws Q k n (T.setTop (mkF C.m q Ls (.int r :: st)))) : Go C ws Q k n (T.setTop (mkF C.m pc Ls (.int y :: .int x :: st))) := by
  obtain ⟨⟨hx, -, rfl, -⟩, ⟨_, X, -⟩, -⟩ := O; subst hq hr
  exact K.of fun _ kk => XS.idiv X.here hx rfl hd rfl hy kk
theorem irem (O : On l Z ws R own nm bytes maxL ret C T h cells slots) {x y r : Int32} (hd : decode bytes pc = .ok (.irem, 1)) (hy : y ≠ 0) (hr : x % y = r) (hq : pc + 1 = q)
    (K : Go C ws Q k n (T.setTop (mkF C.m q Ls (.int r :: st)))) : Go C ws Q k n (T.setTop (mkF C.m pc Ls (.int y :: .int x :: st))) := by
  obtain ⟨⟨hx, -, rfl, -⟩, ⟨_, X, -⟩, -⟩ := O; subst hq hr; rw [← irem_eq_mod] at K
  exact K.of fun _ kk => XS.irem X.here hx rfl hd rfl hy kk
theorem ladd (O : On l Z ws R own nm bytes maxL ret C T h cells slots) {x y r : Int64} (hd : decode bytes pc = .ok (.ladd, 1)) (hr : x + y = r) (hq : pc + 1 = q)
    (K : Go C ws Q k n (T.setTop (mkF C.m q Ls (.long r :: st)))) : Go C ws Q k n (T.setTop (mkF C.m pc Ls (.long y :: .long x :: st))) := by
  obtain ⟨⟨hx, -, rfl, -⟩, ⟨_, X, -⟩, -⟩ := O; subst hq hr
  exact K.of fun _ kk => XS.ladd X.here hx rfl hd rfl kk
theorem lsub (O : On l Z ws R own nm bytes maxL ret C T h cells slots) {x y r : Int64} (hd : decode bytes pc = .ok (.lsub, 1)) (hr : x - y = r) (hq : pc + 1 = q)
    (K : Go C ws Q k n (T.setTop (mkF C.m q Ls (.long r :: st)))) : Go C ws Q k n (T.setTop (mkF C.m pc Ls (.long y :: .long x :: st))) := by
  obtain ⟨⟨hx, -, rfl, -⟩, ⟨_, X, -⟩, -⟩ := O; subst hq hr
  exact K.of fun _ kk => XS.lsub X.here hx rfl hd rfl kk
theorem lmul (O : On l Z ws R own nm bytes maxL ret C T h cells slots) {x y r : Int64} (hd : decode bytes pc = .ok (.lmul, 1)) (hr : x * y = r) (hq : pc + 1 = q)
    (K : Go C ws Q k n (T.setTop (mkF C.m q Ls (.long r :: st)))) : Go C ws Q k n (T.setTop (mkF C.m pc Ls (.long y :: .long x :: st))) := by
  obtain ⟨⟨hx, -, rfl, -⟩, ⟨_, X, -⟩, -⟩ := O; subst hq hr
  exact K.of fun _ kk => XS.lmul X.here hx rfl hd rfl kk
theorem land (O : On l Z ws R own nm bytes maxL ret C T h cells slots) {x y r : Int64} (hd : decode bytes pc = .ok (.land, 1)) (hr : x &&& y = r) (hq : pc + 1 = q)
    (K : Go C ws Q k n (T.setTop (mkF C.m q Ls (.long r :: st)))) : Go C ws Q k n (T.setTop (mkF C.m pc Ls (.long y :: .long x :: st))) := by
  obtain ⟨⟨hx, -, rfl, -⟩, ⟨_, X, -⟩, -⟩ := O; subst hq hr
  exact K.of fun _ kk => XS.land X.here hx rfl hd rfl kk
theorem lor (O : On l Z ws R own nm bytes maxL ret C T h cells slots) {x y r : Int64} (hd : decode bytes pc = .ok (.lor, 1)) (hr : x ||| y = r) (hq : pc + 1 = q)
    (K : Go C ws Q k n (T.setTop (mkF C.m q Ls (.long r :: st)))) : Go C ws Q k n (T.setTop (mkF C.m pc Ls (.long y :: .long x :: st))) := by
  obtain ⟨⟨hx, -, rfl, -⟩, ⟨_, X, -⟩, -⟩ := O; subst hq hr
  exact K.of fun _ kk => XS.lor X.here hx rfl hd rfl kk
theorem lxor (O : On l Z ws R own nm bytes maxL ret C T h cells slots) {x y r : Int64} (hd : decode bytes pc = .ok (.lxor, 1)) (hr : x ^^^ y = r) (hq : pc + 1 = q)
    (K : Go C ws Q k n (T.setTop (mkF C.m q Ls (.long r :: st)))) : Go C ws Q k n (T.setTop (mkF C.m pc Ls (.long y :: .long x :: st))) := by
  obtain ⟨⟨hx, -, rfl, -⟩, ⟨_, X, -⟩, -⟩ := O; subst hq hr
  exact K.of fun _ kk => XS.lxor X.here hx rfl hd rfl kk
theorem ldiv (O : On l Z ws R own nm bytes maxL ret C T h cells slots) {x y r : Int64} (hd : decode bytes pc = .ok (.ldiv, 1)) (hy : y ≠ 0) (hr : x / y = r) (hq : pc + 1 = q)
    (K : Go C ws Q k n (T.setTop (mkF C.m q Ls (.long r :: st)))) : Go C ws Q k n (T.setTop (mkF C.m pc Ls (.long y :: .long x :: st))) := by
  obtain ⟨⟨hx, -, rfl, -⟩, ⟨_, X, -⟩, -⟩ := O; subst hq hr
  exact K.of fun _ kk => XS.ldiv X.here hx rfl hd rfl hy kk
theorem lrem (O : On l Z ws R own nm bytes maxL ret C T h cells slots) {x y r : Int64} (hd : decode bytes pc = .ok (.lrem, 1)) (hy : y ≠ 0) (hr : x % y = r) (hq : pc + 1 = q)
    (K : Go C ws Q k n (T.setTop (mkF C.m q Ls (.long r :: st)))) : Go C ws Q k n (T.setTop (mkF C.m pc Ls (.long y :: .long x :: st))) := by
  obtain ⟨⟨hx, -, rfl, -⟩, ⟨_, X, -⟩, -⟩ := O; subst hq hr; rw [← lrem_mod] at K
  exact K.of fun _ kk => XS.lrem X.here hx rfl hd rfl hy kk
theorem lshl (O : On l Z ws R own nm bytes maxL ret C T h cells slots) {x r : Int64} {y : Int32} (hd : decode bytes pc = .ok (.lshl, 1)) (hr : x <<< (y &&& 0x3f).toInt64 = r) (hq : pc + 1 = q)
    (K : Go C ws Q k n (T.setTop (mkF C.m q Ls (.long r :: st)))) : Go C ws Q k n (T.setTop (mkF C.m pc Ls (.int y :: .long x :: st))) := by
  obtain ⟨⟨hx, -, rfl, -⟩, ⟨_, X, -⟩, -⟩ := O; subst hq hr
  exact K.of fun _ kk => XS.lshl X.here hx rfl hd rfl kk
theorem lshr (O : On l Z ws R own nm bytes maxL ret C T h cells slots) {x r : Int64} {y : Int32} (hd : decode bytes pc = .ok (.lshr, 1)) (hr : x >>> (y &&& 0x3f).toInt64 = r) (hq : pc + 1 = q)
    (K : Go C ws Q k n (T.setTop (mkF C.m q Ls (.long r :: st)))) : Go C ws Q k n (T.setTop (mkF C.m pc Ls (.int y :: .long x :: st))) := by
  obtain ⟨⟨hx, -, rfl, -⟩, ⟨_, X, -⟩, -⟩ := O; subst hq hr
  exact K.of fun _ kk => XS.lshr X.here hx rfl hd rfl kk
theorem lushr (O : On l Z ws R own nm bytes maxL ret C T h cells slots) {x r : Int64} {y : Int32} (hd : decode bytes pc = .ok (.lushr, 1)) (hr : (x.toUInt64 >>> (y &&& 0x3f).toInt64.toUInt64).toInt64 = r) (hq : pc + 1 = q)
    (K : Go C ws Q k n (T.setTop (mkF C.m q Ls (.long r :: st)))) : Go C ws Q k n (T.setTop (mkF C.m pc Ls (.int y :: .long x :: st))) := by
  obtain ⟨⟨hx, -, rfl, -⟩, ⟨_, X, -⟩, -⟩ := O; subst hq hr
  exact K.of fun _ kk => XS.lushr X.here hx rfl hd rfl kk
theorem ineg (O : On l Z ws R own nm bytes maxL ret C T h cells slots) {x : Int32} {r : Int32} (hd : decode bytes pc = .ok (.ineg, 1)) (hr : -x = r) (hq : pc + 1 = q)
    (K : Go C ws Q k n (T.setTop (mkF C.m q Ls (.int r :: st)))) : Go C ws Q k n (T.setTop (mkF C.m pc Ls (.int x :: st))) := by
  obtain ⟨⟨hx, -, rfl, -⟩, ⟨_, X, -⟩, -⟩ := O; subst hq hr
  exact K.of fun _ kk => XS.ineg X.here hx rfl hd rfl kk
theorem lneg (O : On l Z ws R own nm bytes maxL ret C T h cells slots) {x : Int64} {r : Int64} (hd : decode bytes pc = .ok (.lneg, 1)) (hr : -x = r) (hq : pc + 1 = q)
    (K : Go C ws Q k n (T.setTop (mkF C.m q Ls (.long r :: st)))) : Go C ws Q k n (T.setTop (mkF C.m pc Ls (.long x :: st))) := by
  obtain ⟨⟨hx, -, rfl, -⟩, ⟨_, X, -⟩, -⟩ := O; subst hq hr
  exact K.of fun _ kk => XS.lneg X.here hx rfl hd rfl kk
theorem i2l (O : On l Z ws R own nm bytes maxL ret C T h cells slots) {x : Int32} {r : Int64} (hd : decode bytes pc = .ok (.i2l, 1)) (hr : x.toInt64 = r) (hq : pc + 1 = q)
    (K : Go C ws Q k n (T.setTop (mkF C.m q Ls (.long r :: st)))) : Go C ws Q k n (T.setTop (mkF C.m pc Ls (.int x :: st))) := by
  obtain ⟨⟨hx, -, rfl, -⟩, ⟨_, X, -⟩, -⟩ := O; subst hq hr
  exact K.of fun _ kk => XS.i2l X.here hx rfl hd rfl kk
theorem l2i (O : On l Z ws R own nm bytes maxL ret C T h cells slots) {x : Int64} {r : Int32} (hd : decode bytes pc = .ok (.l2i, 1)) (hr : x.toInt32 = r) (hq : pc + 1 = q)
    (K : Go C ws Q k n (T.setTop (mkF C.m q Ls (.int r :: st)))) : Go C ws Q k n (T.setTop (mkF C.m pc Ls (.long x :: st))) := by
  obtain ⟨⟨hx, -, rfl, -⟩, ⟨_, X, -⟩, -⟩ := O; subst hq hr
  exact K.of fun _ kk => XS.l2i X.here hx rfl hd rfl kk
theorem i2b (O : On l Z ws R own nm bytes maxL ret C T h cells slots) {x : Int32} {r : Int32} (hd : decode bytes pc = .ok (.i2b, 1)) (hr : x.toInt8.toInt32 = r) (hq : pc + 1 = q)
    (K : Go C ws Q k n (T.setTop (mkF C.m q Ls (.int r :: st)))) : Go C ws Q k n (T.setTop (mkF C.m pc Ls (.int x :: st))) := by
  obtain ⟨⟨hx, -, rfl, -⟩, ⟨_, X, -⟩, -⟩ := O; subst hq hr
  exact K.of fun _ kk => XS.i2b X.here hx rfl hd rfl kk
theorem i2c (O : On l Z ws R own nm bytes maxL ret C T h cells slots) {x : Int32} {r : Int32} (hd : decode bytes pc = .ok (.i2c, 1)) (hr : x.toUInt32.toUInt16.toUInt32.toInt32 = r) (hq : pc + 1 = q)
    (K : Go C ws Q k n (T.setTop (mkF C.m q Ls (.int r :: st)))) : Go C ws Q k n (T.setTop (mkF C.m pc Ls (.int x :: st))) := by
  obtain ⟨⟨hx, -, rfl, -⟩, ⟨_, X, -⟩, -⟩ := O; subst hq hr
  exact K.of fun _ kk => XS.i2c X.here hx rfl hd rfl kk
theorem i2s (O : On l Z ws R own nm bytes maxL ret C T h cells slots) {x : Int32} {r : Int32} (hd : decode bytes pc = .ok (.i2s, 1)) (hr : x.toInt16.toInt32 = r) (hq : pc + 1 = q)
    (K : Go C ws Q k n (T.setTop (mkF C.m q Ls (.int r :: st)))) : Go C ws Q k n (T.setTop (mkF C.m pc Ls (.int x :: st))) := by
  obtain ⟨⟨hx, -, rfl, -⟩, ⟨_, X, -⟩, -⟩ := O; subst hq hr
  exact K.of fun _ kk => XS.i2s X.here hx rfl hd rfl kk
theorem lcmp (O : On l Z ws R own nm bytes maxL ret C T h cells slots) {x y : Int64} {r : Int32} (hd : decode bytes pc = .ok (.lcmp, 1)) (hr : lcmpW x y = r) (hq : pc + 1 = q)
    (K : Go C ws Q k n (T.setTop (mkF C.m q Ls (.int r :: st)))) : Go C ws Q k n (T.setTop (mkF C.m pc Ls (.long y :: .long x :: st))) := by
  obtain ⟨⟨hx, -, rfl, -⟩, ⟨_, X, -⟩, -⟩ := O; subst hq hr
  exact K.of fun _ kk => XS.lcmp X.here hx rfl hd rfl kk
theorem iinc (O : On l Z ws R own nm bytes maxL ret C T h cells slots) {i : Nat} {cst : Int} {x : Int32} (hd : decode bytes pc = .ok (.iinc i cst, 3)) (hl : Ls[i]? = some (.val (.int x))) (hl' : storeLocals Ls i (.int (x + Int32.ofInt cst)) = some L') (hq : pc + 3 = q)
    (K : Go C ws Q k n (T.setTop (mkF C.m q L' (st)))) : Go C ws Q k n (T.setTop (mkF C.m pc Ls (st))) := by
  obtain ⟨⟨hx, -, rfl, -⟩, ⟨_, X, -⟩, -⟩ := O; subst hq
  exact K.of fun _ kk => XS.iinc X.here hx rfl hd hl hl' kk
theorem dup (O : On l Z ws R own nm bytes maxL ret C T h cells slots) {v : Value} (hd : decode bytes pc = .ok (.dup, 1)) (hc : v.category = 1) (hq : pc + 1 = q)
    (K : Go C ws Q k n (T.setTop (mkF C.m q Ls (v :: v :: st)))) : Go C ws Q k n (T.setTop (mkF C.m pc Ls (v :: st))) := by
  obtain ⟨⟨hx, -, rfl, -⟩, ⟨_, X, -⟩, -⟩ := O; subst hq
  exact K.of fun _ kk => XS.dup X.here hx rfl hd rfl hc kk
theorem pop (O : On l Z ws R own nm bytes maxL ret C T h cells slots) {v : Value} (hd : decode bytes pc = .ok (.pop, 1)) (hc : v.category = 1) (hq : pc + 1 = q)
    (K : Go C ws Q k n (T.setTop (mkF C.m q Ls (st)))) : Go C ws Q k n (T.setTop (mkF C.m pc Ls (v :: st))) := by
  obtain ⟨⟨hx, -, rfl, -⟩, ⟨_, X, -⟩, -⟩ := O; subst hq
  exact K.of fun _ kk => XS.pop X.here hx rfl hd rfl hc kk
theorem dup_x1 (O : On l Z ws R own nm bytes maxL ret C T h cells slots) {v w : Value} (hd : decode bytes pc = .ok (.dup_x1, 1)) (hc : v.category = 1) (hc' : w.category = 1) (hq : pc + 1 = q)
    (K : Go C ws Q k n (T.setTop (mkF C.m q Ls (v :: w :: v :: st)))) : Go C ws Q k n (T.setTop (mkF C.m pc Ls (v :: w :: st))) := by
  obtain ⟨⟨hx, -, rfl, -⟩, ⟨_, X, -⟩, -⟩ := O; subst hq
  exact K.of fun _ kk => XS.dupX1 X.here hx rfl hd rfl hc hc' kk
theorem dup2 (O : On l Z ws R own nm bytes maxL ret C T h cells slots) {v w : Value} (hd : decode bytes pc = .ok (.dup2, 1)) (hc : v.category = 1) (hc' : w.category = 1) (hq : pc + 1 = q)
    (K : Go C ws Q k n (T.setTop (mkF C.m q Ls (v :: w :: v :: w :: st)))) : Go C ws Q k n (T.setTop (mkF C.m pc Ls (v :: w :: st))) := by
  obtain ⟨⟨hx, -, rfl, -⟩, ⟨_, X, -⟩, -⟩ := O; subst hq
  exact K.of fun _ kk => XT.dup2 X.here hx rfl hd rfl hc hc' kk
theorem dup2L (O : On l Z ws R own nm bytes maxL ret C T h cells slots) {v : Int64} (hd : decode bytes pc = .ok (.dup2, 1))  (hq : pc + 1 = q)
    (K : Go C ws Q k n (T.setTop (mkF C.m q Ls (.long v :: .long v :: st)))) : Go C ws Q k n (T.setTop (mkF C.m pc Ls (.long v :: st))) := by
  obtain ⟨⟨hx, -, rfl, -⟩, ⟨_, X, -⟩, -⟩ := O; subst hq
  exact K.of fun _ kk => XT.dup2L X.here hx rfl hd rfl kk
theorem goto (O : On l Z ws R own nm bytes maxL ret C T h cells slots)  {o : Int} (hd : decode bytes pc = .ok (.goto o, 3))  (ho : 0 ≤ (pc : Int) + o) (hq : ((pc : Int) + o).toNat = q)
    (K : Go C ws Q k n (T.setTop (mkF C.m q Ls st))) : Go C ws Q k n (T.setTop (mkF C.m pc Ls (st))) := by
  obtain ⟨⟨hx, -, rfl, -⟩, ⟨_, X, -⟩, -⟩ := O
  exact K.of fun _ kk => XS.goto X.here hx rfl (pc0 := pc) (pc' := q) rfl hd  ho hq kk
theorem ifYes (O : On l Z ws R own nm bytes maxL ret C T h cells slots) {cd : ClassFile.Cond} {x : Int32} {o : Int} (hd : decode bytes pc = .ok (.ifCond cd o, 3)) (hc : ifCond.holds cd x = true) (ho : 0 ≤ (pc : Int) + o) (hq : ((pc : Int) + o).toNat = q)
    (K : Go C ws Q k n (T.setTop (mkF C.m q Ls st))) : Go C ws Q k n (T.setTop (mkF C.m pc Ls (.int x :: st))) := by
  obtain ⟨⟨hx, -, rfl, -⟩, ⟨_, X, -⟩, -⟩ := O
  exact K.of fun _ kk => XS.ifYes X.here hx rfl (pc0 := pc) (pc' := q) rfl hd rfl hc ho hq kk
theorem icmpYes (O : On l Z ws R own nm bytes maxL ret C T h cells slots) {cd : ClassFile.Cond} {x y : Int32} {o : Int} (hd : decode bytes pc = .ok (.if_icmp cd o, 3)) (hc : if_icmp.holds cd x y = true) (ho : 0 ≤ (pc : Int) + o) (hq : ((pc : Int) + o).toNat = q)
    (K : Go C ws Q k n (T.setTop (mkF C.m q Ls st))) : Go C ws Q k n (T.setTop (mkF C.m pc Ls (.int y :: .int x :: st))) := by
  obtain ⟨⟨hx, -, rfl, -⟩, ⟨_, X, -⟩, -⟩ := O
  exact K.of fun _ kk => XS.icmpYes X.here hx rfl (pc0 := pc) (pc' := q) rfl hd rfl hc ho hq kk
theorem ifnullYes (O : On l Z ws R own nm bytes maxL ret C T h cells slots)  {o : Int} (hd : decode bytes pc = .ok (.ifnull o, 3))  (ho : 0 ≤ (pc : Int) + o) (hq : ((pc : Int) + o).toNat = q)
    (K : Go C ws Q k n (T.setTop (mkF C.m q Ls st))) : Go C ws Q k n (T.setTop (mkF C.m pc Ls (.null :: st))) := by
  obtain ⟨⟨hx, -, rfl, -⟩, ⟨_, X, -⟩, -⟩ := O
  exact K.of fun _ kk => XS.ifnullYes X.here hx rfl (pc0 := pc) (pc' := q) rfl hd rfl ho hq kk
theorem ifnonnullYes (O : On l Z ws R own nm bytes maxL ret C T h cells slots) {b : Addr} {o : Int} (hd : decode bytes pc = .ok (.ifnonnull o, 3))  (ho : 0 ≤ (pc : Int) + o) (hq : ((pc : Int) + o).toNat = q)
    (K : Go C ws Q k n (T.setTop (mkF C.m q Ls st))) : Go C ws Q k n (T.setTop (mkF C.m pc Ls (.ref b :: st))) := by
  obtain ⟨⟨hx, -, rfl, -⟩, ⟨_, X, -⟩, -⟩ := O
  exact K.of fun _ kk => XS.ifnonnullYes X.here hx rfl (pc0 := pc) (pc' := q) rfl hd rfl ho hq kk
theorem ifNo (O : On l Z ws R own nm bytes maxL ret C T h cells slots) {cd : ClassFile.Cond} {x : Int32} {o : Int} (hd : decode bytes pc = .ok (.ifCond cd o, 3)) (hc : ifCond.holds cd x = false) (hq : pc + 3 = q)
    (K : Go C ws Q k n (T.setTop (mkF C.m q Ls (st)))) : Go C ws Q k n (T.setTop (mkF C.m pc Ls (.int x :: st))) := by
  obtain ⟨⟨hx, -, rfl, -⟩, ⟨_, X, -⟩, -⟩ := O; subst hq
  exact K.of fun _ kk => XS.ifNo X.here hx rfl hd rfl hc kk
theorem icmpNo (O : On l Z ws R own nm bytes maxL ret C T h cells slots) {cd : ClassFile.Cond} {x y : Int32} {o : Int} (hd : decode bytes pc = .ok (.if_icmp cd o, 3)) (hc : if_icmp.holds cd x y = false) (hq : pc + 3 = q)
    (K : Go C ws Q k n (T.setTop (mkF C.m q Ls (st)))) : Go C ws Q k n (T.setTop (mkF C.m pc Ls (.int y :: .int x :: st))) := by
  obtain ⟨⟨hx, -, rfl, -⟩, ⟨_, X, -⟩, -⟩ := O; subst hq
  exact K.of fun _ kk => XS.icmpNo X.here hx rfl hd rfl hc kk
theorem ifnullNo (O : On l Z ws R own nm bytes maxL ret C T h cells slots) {b : Addr} {o : Int} (hd : decode bytes pc = .ok (.ifnull o, 3))  (hq : pc + 3 = q)
    (K : Go C ws Q k n (T.setTop (mkF C.m q Ls (st)))) : Go C ws Q k n (T.setTop (mkF C.m pc Ls (.ref b :: st))) := by
  obtain ⟨⟨hx, -, rfl, -⟩, ⟨_, X, -⟩, -⟩ := O; subst hq
  exact K.of fun _ kk => XS.ifnullNo X.here hx rfl hd rfl kk
theorem ifnonnullNo (O : On l Z ws R own nm bytes maxL ret C T h cells slots) {o : Int} (hd : decode bytes pc = .ok (.ifnonnull o, 3))  (hq : pc + 3 = q)
    (K : Go C ws Q k n (T.setTop (mkF C.m q Ls (st)))) : Go C ws Q k n (T.setTop (mkF C.m pc Ls (.null :: st))) := by
  obtain ⟨⟨hx, -, rfl, -⟩, ⟨_, X, -⟩, -⟩ := O; subst hq
  exact K.of fun _ kk => XS.ifnonnullNo X.here hx rfl hd rfl kk
theorem acmp (O : On l Z ws R own nm bytes maxL ret C T h cells slots) {cd : ACond} {x y : Value} {o : Int} {same : Bool} (hd : decode bytes pc = .ok (.if_acmp cd o, 3)) (h1 : x.isRef = true) (h2 : y.isRef = true) (hs : decide (x = y) = same) (ho : 0 ≤ (pc : Int) + o) (hq : q = if acV cd same = true then ((pc : Int) + o).toNat else pc + 3)
    (K : Go C ws Q k n (T.setTop (mkF C.m q Ls st))) : Go C ws Q k n (T.setTop (mkF C.m pc Ls (y :: x :: st))) := by
  obtain ⟨⟨hx, -, rfl, -⟩, ⟨_, X, -⟩, -⟩ := O
  exact K.of fun _ kk => Jvm.RoadKit.acmp (g := mkF C.m pc Ls (y :: x :: st)) X hx rfl h1 h2 (pc0 := pc) (pc' := q) rfl hd rfl hs ho hq kk
theorem ldcI (O : On l Z ws R own nm bytes maxL ret C T h cells slots) {i : Nat} {v : Int32} (hd : decode bytes pc = .ok (.ldc i, 2)) (w : (Cond.constant own i v).before a0 Z = true) (hq : pc + 2 = q)
    (K : Go C ws Q k n (T.setTop (mkF C.m q Ls (.int v :: st)))) : Go C ws Q k n (T.setTop (mkF C.m pc Ls st)) := by
  obtain ⟨⟨hx, hZ, rfl, -, hown, -⟩, ⟨_, X, -⟩, -⟩ := O; subst hq
  exact K.of fun _ kk => X.ldcInt hx hown (mvT hZ w) (g := mkF C.m pc Ls st) rfl hd _ kk
theorem ldcwI (O : On l Z ws R own nm bytes maxL ret C T h cells slots) {i : Nat} {v : Int32} (hd : decode bytes pc = .ok (.ldc_w i, 3)) (w : (Cond.constant own i v).before a0 Z = true) (hq : pc + 3 = q)
    (K : Go C ws Q k n (T.setTop (mkF C.m q Ls (.int v :: st)))) : Go C ws Q k n (T.setTop (mkF C.m pc Ls st)) := by
  obtain ⟨⟨hx, hZ, rfl, -, hown, -⟩, ⟨_, X, -⟩, -⟩ := O; subst hq
  exact K.of fun _ kk => X.ldcwInt hx hown (mvT hZ w) (g := mkF C.m pc Ls st) rfl hd _ kk
theorem ldcL (O : On l Z ws R own nm bytes maxL ret C T h cells slots) {i : Nat} {v : Int64} (hd : decode bytes pc = .ok (.ldc2_w i, 3)) (w : (Cond.constantLong own i v).before a0 Z = true) (hq : pc + 3 = q)
    (K : Go C ws Q k n (T.setTop (mkF C.m q Ls (.long v :: st)))) : Go C ws Q k n (T.setTop (mkF C.m pc Ls st)) := by
  obtain ⟨⟨hx, hZ, rfl, -, hown, -⟩, ⟨_, X, -⟩, -⟩ := O; subst hq
  exact K.of fun _ kk => X.ldc2Long hx hown (mvT hZ w) (g := mkF C.m pc Ls st) rfl hd _ kk
theorem getF (O : On l Z ws R own nm bytes maxL ret C T h cells slots) {i : Nat} {R0 D f d host : String} {a : Addr} {v : Value} (hd : decode bytes pc = .ok (.getfield i, 3)) (w : (Cond.fieldLink own i R0 f d).before a0 Z = true ∨ (Cond.fieldLinkNest own i R0 f d host).before a0 Z = true) (via : Via Z R0 D f d) (F : Fld Z h a D f d v) (hq : pc + 3 = q)
    (K : ∀ T', On l Z ws R own nm bytes maxL ret C T' h cells slots → Go C ws Q k n (T'.setTop (mkF C.m q Ls (v :: st)))) : Go C ws Q k n (T.setTop (mkF C.m pc Ls (.ref a :: st))) := by
  obtain ⟨⟨hx, hZ, rfl, r1, hown, r2⟩, ⟨_, X, N⟩, eT⟩ := O; subst hq
  obtain ⟨T', X', e', stp⟩ := Jvm.RoadKit.getF X hx hZ hown w via eT F (g := mkF C.m pc Ls (.ref a :: st)) rfl rfl hd
  exact (K T' ⟨⟨hx, hZ, rfl, r1, hown, r2⟩, ⟨_, X', N⟩, e'⟩).of fun _ kk => stp _ kk
theorem getS (O : On l Z ws R own nm bytes maxL ret C T h cells slots) {i : Nat} {D f d : String} {v : Value} (hd : decode bytes pc = .ok (.getstatic i, 3)) (w : (Cond.fieldLink own i D f d).before a0 Z = true) (F : Sta Z h D f d v) (hq : pc + 3 = q)
    (K : ∀ T', On l Z ws R own nm bytes maxL ret C T' h cells slots → Go C ws Q k n (T'.setTop (mkF C.m q Ls (v :: st)))) : Go C ws Q k n (T.setTop (mkF C.m pc Ls st)) := by
  obtain ⟨⟨hx, hZ, rfl, r1, hown, r2⟩, ⟨_, X, N⟩, eT⟩ := O; subst hq
  obtain ⟨T', X', e', stp⟩ := Jvm.RoadKit.getS (host := "") X hx hZ hown w Via.refl eT F (g := mkF C.m pc Ls st) rfl hd
  exact (K T' ⟨⟨hx, hZ, rfl, r1, hown, r2⟩, ⟨_, X', N⟩, e'⟩).of fun _ kk => stp _ kk
theorem putF (O : On l Z ws R own nm bytes maxL ret C T h cells slots) {i kk : Nat} {R0 D f d host K0 : String} {ty : FieldType} {a : Addr} {v old : Value} (hd : decode bytes pc = .ok (.putfield i, 3)) (w : (Cond.fieldLink own i R0 f d).before a0 Z = true ∨ (Cond.fieldLinkNest own i R0 f d host).before a0 Z = true) (via : Via Z R0 D f d)
    (F : Fld Z h a D f d old) (E : Exa Z h a K0) (L : (Cond.lays K0 D f d).before a0 Z = true ∨ ((Cond.laysFinal K0 D f d).before a0 Z = true ∧ own = D ∧ nm = "<init>")) (wi : (Cond.instantiable K0 kk).before a0 Z = true) (hty : parseFieldDescriptor d = some ty) (hn : narrow ty v = v) (hf : fits ty v = true) (ha : a ∈ ws ∨ C.s.heap.size ≤ a) (hq : pc + 3 = q)
    (K : ∀ T' h', On l Z ws R own nm bytes maxL ret C T' h' cells slots → Wr h h' a (Jvm.RoadKit.slotOf Z D f d) v → Go C ws Q k n (T'.setTop (mkF C.m q Ls st))) : Go C ws Q k n (T.setTop (mkF C.m pc Ls (v :: .ref a :: st))) := by
  obtain ⟨⟨hx, hZ, rfl, r1, hown, hnm, r2⟩, ⟨_, X, N⟩, eT⟩ := O; subst hq
  obtain ⟨T', h', X', e', W, stp⟩ := Jvm.RoadKit.putF X hx hZ hown w via eT F E (L.imp id fun q => ⟨q.1, q.2.1, hnm.trans q.2.2⟩) wi hty hn hf (g := mkF C.m pc Ls (v :: .ref a :: st)) rfl rfl hd
  exact (K T' h' ⟨⟨hx, hZ, rfl, r1, hown, hnm, r2⟩, ⟨_, X', N.snoc ha⟩, e'⟩ W).of fun _ kk => stp _ kk
theorem newO (O : On l Z ws R own nm bytes maxL ret C T h cells slots) {i ns c2 s2 : Nat} {K0 : String} (hd : decode bytes pc = .ok (.new i, 3)) (w : (Cond.classLink own i K0).before a0 Z = true) (wi : (Cond.instantiable K0 ns).before a0 Z = true) (wz : (Cond.initialized K0).before a0 Z = true) (hc2 : cells + 1 = c2) (hs2 : slots + ns = s2) (hc : c2 ≤ R.cells) (hl : s2 ≤ R.slots) (hq : pc + 3 = q)
    (K : ∀ a T' h', a = h.size → C.s.heap.size ≤ a → On l Z ws R own nm bytes maxL ret C T' h' c2 s2 → Ext h h' → Exa Z h' a K0 → (∀ {O nm d : String} {ty : FieldType}, Laid Z a0 K0 O nm d → parseFieldDescriptor d = some ty → Fld Z h' a O nm d (defaultValue ty)) → Go C ws Q k n (T'.setTop (mkF C.m q Ls (.ref a :: st)))) : Go C ws Q k n (T.setTop (mkF C.m pc Ls st)) := by
  obtain ⟨⟨hx, hZ, rfl, r1, hown, r2⟩, ⟨_, X, N⟩, eT⟩ := O; subst hq hc2 hs2
  obtain ⟨T', h', X', e', E, A, D, -, stp⟩ := Jvm.RoadKit.newO X hx hZ hown w wi wz eT (g := mkF C.m pc Ls st) rfl hd hc hl
  exact (K _ T' h' rfl (eT ▸ X.same.2.1) ⟨⟨hx, hZ, rfl, r1, hown, r2⟩, ⟨_, X', N⟩, e'⟩ E A D).of fun _ kk => stp _ kk
theorem newP (O : On l Z ws R own nm bytes maxL ret C T h cells slots) {aty : ArrayType} {c2 s2 : Nat} (hd : decode bytes pc = .ok (.newarray aty, 2)) (w : (Cond.arrayClass (newarray.typeOf aty)).before a0 Z = true) {z : Int32} (hn : ¬ z < 0) {cap : Nat} (hcap : z.toNatClampNeg ≤ cap) (hb : cap * 8 ≤ 536870912) (hc2 : cells + 1 = c2) (hs2 : slots + cap = s2) (hc : c2 ≤ R.cells) (hl : s2 ≤ R.slots) (hq : pc + 2 = q)
    (K : ∀ a T' h' cA, a = h.size → C.s.heap.size ≤ a → On l Z ws R own nm bytes maxL ret C T' h' c2 s2 → Ext h h' → Arr Z h' a (newA cA (newarray.typeOf aty) z) (newarray.typeOf aty) → Go C ws Q k n (T'.setTop (mkF C.m q Ls (.ref a :: st)))) : Go C ws Q k n (T.setTop (mkF C.m pc Ls (.int z :: st))) := by
  obtain ⟨⟨hx, hZ, rfl, r1, hown, r2⟩, ⟨_, X, N⟩, eT⟩ := O; subst hq hc2 hs2
  obtain ⟨T', h', cA, X', e', E, A, stp⟩ := Jvm.RoadKit.newP X hx hZ w eT (g := mkF C.m pc Ls (.int z :: st)) rfl hd rfl hn hcap hb hc hl
  exact (K _ T' h' cA rfl (eT ▸ X.same.2.1) ⟨⟨hx, hZ, rfl, r1, hown, r2⟩, ⟨_, X', N⟩, e'⟩ E A).of fun _ kk => stp _ kk
theorem initO (O : On l Z ws R own nm bytes maxL ret C T h cells slots) {i : Nat} {a : Addr} (hd : decode bytes pc = .ok (.invokespecial i, 3)) (w1 : (Cond.methodLink own i Lib.objectInit).before a0 Z = true) (w2 : (Cond.instanceMethod Lib.objectInit).before a0 Z = true) (w3 : (Cond.code Lib.objectInit ⟨#[0xb1]⟩ 1 none).before a0 Z = true) (hsz : Ls.size = maxL) (hf : 1 ≤ R.frames) {W : Nat} (hW : (st.map fun v => v.category).sum ≤ W) (hl : W + 12 ≤ R.locals) (hq : pc + 3 = q)
    (K : ∀ T', On l Z ws R own nm bytes maxL ret C T' h cells slots → Go C ws Q k n (T'.setTop (mkF C.m q Ls st))) : Go C ws Q k n (T.setTop (mkF C.m pc Ls (.ref a :: st))) := by
  obtain ⟨⟨hx, hZ, rfl, r1, hown, r2⟩, ⟨_, X, N⟩, eT⟩ := O; subst hq
  obtain ⟨T', X', e', stp⟩ := Jvm.RoadKit.initO X hx hZ hown w1 w2 w3 eT (g := mkF C.m pc Ls (.ref a :: st)) rfl (hsz.trans r1.symm) rfl hd hf (W := W) (by show 2 * 0 + _ ≤ _; rw [Nat.mul_zero, Nat.zero_add]; exact hW) hl
  exact (K T' ⟨⟨hx, hZ, rfl, r1, hown, r2⟩, ⟨_, X', N⟩, e'⟩).of fun _ kk => stp _ kk
theorem iaload (O : On l Z ws R own nm bytes maxL ret C T h cells slots) {a : Addr} {cl : Cell} {j : Int32} {v : Value} (hd : decode bytes pc = .ok (.iaload, 1)) (A : Arr Z h a cl .int) (hin : ¬ (j < 0 ∨ cl.slots.size ≤ j.toNatClampNeg)) (hv : cl.slots[j.toNatClampNeg]? = some v) (hq : pc + 1 = q)
    (K : Go C ws Q k n (T.setTop (mkF C.m q Ls (v :: st)))) : Go C ws Q k n (T.setTop (mkF C.m pc Ls (.int j :: .ref a :: st))) := by
  obtain ⟨⟨hx, hZ, rfl, -⟩, ⟨_, X, N⟩, eT⟩ := O; subst hq
  exact K.of fun _ kk => X.iaload hx (by rw [eT]; exact A.1) (State.isArrayOf_alike hZ.alike A.2.1) A.2.2 hin hv (g := mkF C.m pc Ls (.int j :: .ref a :: st)) rfl rfl hd _ kk
theorem laload (O : On l Z ws R own nm bytes maxL ret C T h cells slots) {a : Addr} {cl : Cell} {j : Int32} {v : Value} (hd : decode bytes pc = .ok (.laload, 1)) (A : Arr Z h a cl .long) (hin : ¬ (j < 0 ∨ cl.slots.size ≤ j.toNatClampNeg)) (hv : cl.slots[j.toNatClampNeg]? = some v) (hq : pc + 1 = q)
    (K : Go C ws Q k n (T.setTop (mkF C.m q Ls (v :: st)))) : Go C ws Q k n (T.setTop (mkF C.m pc Ls (.int j :: .ref a :: st))) := by
  obtain ⟨⟨hx, hZ, rfl, -⟩, ⟨_, X, N⟩, eT⟩ := O; subst hq
  exact K.of fun _ kk => X.laload hx (by rw [eT]; exact A.1) (State.isArrayOf_alike hZ.alike A.2.1) A.2.2 hin hv (g := mkF C.m pc Ls (.int j :: .ref a :: st)) rfl rfl hd _ kk
theorem baload (O : On l Z ws R own nm bytes maxL ret C T h cells slots) {a : Addr} {cl : Cell} {j : Int32} {v : Value} (hd : decode bytes pc = .ok (.baload, 1)) (A : Arr Z h a cl .byte) (hin : ¬ (j < 0 ∨ cl.slots.size ≤ j.toNatClampNeg)) (hv : cl.slots[j.toNatClampNeg]? = some v) (hq : pc + 1 = q)
    (K : Go C ws Q k n (T.setTop (mkF C.m q Ls (v :: st)))) : Go C ws Q k n (T.setTop (mkF C.m pc Ls (.int j :: .ref a :: st))) := by
  obtain ⟨⟨hx, hZ, rfl, -⟩, ⟨_, X, N⟩, eT⟩ := O; subst hq
  exact K.of fun _ kk => X.baloadBytes hx (by rw [eT]; exact A.1) (State.isArrayOf_alike hZ.alike A.2.1) A.2.2 hin hv (g := mkF C.m pc Ls (.int j :: .ref a :: st)) rfl rfl hd _ kk
theorem aaload (O : On l Z ws R own nm bytes maxL ret C T h cells slots) {a : Addr} {cl : Cell} {ty : FieldType} {j : Int32} {v : Value} (hd : decode bytes pc = .ok (.aaload, 1)) (A : Arr Z h a cl ty) (hty : ty.isReference = true) (hin : ¬ (j < 0 ∨ cl.slots.size ≤ j.toNatClampNeg)) (hv : cl.slots[j.toNatClampNeg]? = some v) (hq : pc + 1 = q)
    (K : Go C ws Q k n (T.setTop (mkF C.m q Ls (v :: st)))) : Go C ws Q k n (T.setTop (mkF C.m pc Ls (.int j :: .ref a :: st))) := by
  obtain ⟨⟨hx, hZ, rfl, -⟩, ⟨_, X, N⟩, eT⟩ := O; subst hq
  exact K.of fun _ kk => X.aaload hx (by rw [eT]; exact A.1) (State.isArrayOf_alike hZ.alike A.2.1) hty A.2.2 hin hv (g := mkF C.m pc Ls (.int j :: .ref a :: st)) rfl rfl hd _ kk
theorem arraylength (O : On l Z ws R own nm bytes maxL ret C T h cells slots) {a : Addr} {cl : Cell} {ty : FieldType} {z : Int32} (hd : decode bytes pc = .ok (.arraylength, 1)) (A : Arr Z h a cl ty) (hz : cl.slots.size.toInt32 = z) (hq : pc + 1 = q)
    (K : Go C ws Q k n (T.setTop (mkF C.m q Ls (.int z :: st)))) : Go C ws Q k n (T.setTop (mkF C.m pc Ls (.ref a :: st))) := by
  obtain ⟨⟨hx, hZ, rfl, -⟩, ⟨_, X, N⟩, eT⟩ := O; subst hq hz
  exact K.of fun _ kk => X.arraylength hx (by rw [eT]; exact A.1) (State.isArrayOf_alike hZ.alike A.2.1) (g := mkF C.m pc Ls (.ref a :: st)) rfl rfl hd _ kk
theorem iastore (O : On l Z ws R own nm bytes maxL ret C T h cells slots) {a : Addr} {cl : Cell} {j : Int32} {x : Int32} (hd : decode bytes pc = .ok (.iastore, 1)) (A : Arr Z h a cl .int) (hin : ¬ (j < 0 ∨ cl.slots.size ≤ j.toNatClampNeg)) (ha : a ∈ ws ∨ C.s.heap.size ≤ a) (hq : pc + 1 = q)
    (K : ∀ T' h', On l Z ws R own nm bytes maxL ret C T' h' cells slots → Wr h h' a j.toNatClampNeg (.int x) → Go C ws Q k n (T'.setTop (mkF C.m q Ls st))) : Go C ws Q k n (T.setTop (mkF C.m pc Ls (.int x :: .int j :: .ref a :: st))) := by
  obtain ⟨⟨hx, hZ, rfl, r1, hown, r2⟩, ⟨_, X, N⟩, eT⟩ := O; subst hq
  obtain ⟨T', h', X', e', W, stp⟩ := Jvm.RoadKit.stI X hx hZ eT A hin (g := mkF C.m pc Ls (.int x :: .int j :: .ref a :: st)) rfl rfl hd
  exact (K T' h' ⟨⟨hx, hZ, rfl, r1, hown, r2⟩, ⟨_, X', N.snoc ha⟩, e'⟩ W).of fun _ kk => stp _ kk
theorem lastore (O : On l Z ws R own nm bytes maxL ret C T h cells slots) {a : Addr} {cl : Cell} {j : Int32} {x : Int64} (hd : decode bytes pc = .ok (.lastore, 1)) (A : Arr Z h a cl .long) (hin : ¬ (j < 0 ∨ cl.slots.size ≤ j.toNatClampNeg)) (ha : a ∈ ws ∨ C.s.heap.size ≤ a) (hq : pc + 1 = q)
    (K : ∀ T' h', On l Z ws R own nm bytes maxL ret C T' h' cells slots → Wr h h' a j.toNatClampNeg (.long x) → Go C ws Q k n (T'.setTop (mkF C.m q Ls st))) : Go C ws Q k n (T.setTop (mkF C.m pc Ls (.long x :: .int j :: .ref a :: st))) := by
  obtain ⟨⟨hx, hZ, rfl, r1, hown, r2⟩, ⟨_, X, N⟩, eT⟩ := O; subst hq
  obtain ⟨T', h', X', e', W, stp⟩ := Jvm.RoadKit.stJ X hx hZ eT A hin (g := mkF C.m pc Ls (.long x :: .int j :: .ref a :: st)) rfl rfl hd
  exact (K T' h' ⟨⟨hx, hZ, rfl, r1, hown, r2⟩, ⟨_, X', N.snoc ha⟩, e'⟩ W).of fun _ kk => stp _ kk
theorem bastore (O : On l Z ws R own nm bytes maxL ret C T h cells slots) {a : Addr} {cl : Cell} {j : Int32} {x : Int32} (hd : decode bytes pc = .ok (.bastore, 1)) (A : Arr Z h a cl .byte) (hin : ¬ (j < 0 ∨ cl.slots.size ≤ j.toNatClampNeg)) (ha : a ∈ ws ∨ C.s.heap.size ≤ a) (hq : pc + 1 = q)
    (K : ∀ T' h', On l Z ws R own nm bytes maxL ret C T' h' cells slots → Wr h h' a j.toNatClampNeg (.int (nar .byte x)) → Go C ws Q k n (T'.setTop (mkF C.m q Ls st))) : Go C ws Q k n (T.setTop (mkF C.m pc Ls (.int x :: .int j :: .ref a :: st))) := by
  obtain ⟨⟨hx, hZ, rfl, r1, hown, r2⟩, ⟨_, X, N⟩, eT⟩ := O; subst hq
  obtain ⟨T', h', X', e', W, stp⟩ := Jvm.RoadKit.stB X hx hZ eT A hin (g := mkF C.m pc Ls (.int x :: .int j :: .ref a :: st)) rfl rfl hd
  exact (K T' h' ⟨⟨hx, hZ, rfl, r1, hown, r2⟩, ⟨_, X', N.snoc ha⟩, e'⟩ W).of fun _ kk => stp _ kk
theorem callS (O : On l Z ws R own nm bytes maxL ret C T h cells slots) {i : Nat} {y : MethodName} {yb : ByteArray} {yl : Nat} {yr : Option FieldType} {rm : Room} {argsL rest : List Value} {wsc : List Addr} {Qc : Option Value → Heap → Prop} {ps : List FieldType} {rr : Option FieldType} {W c2 s2 : Nat}
    (hd : decode bytes pc = .ok (.invokestatic i, 3)) (w1 : (Cond.methodLink own i y).before a0 Z = true) (w2 : (Cond.static y).before a0 Z = true) (w3 : (Cond.initialized y.cls).before a0 Z = true) (w4 : (Cond.code y yb yl yr).before a0 Z = true) (hy : y.cls ≠ "java/lang/invoke/MethodHandle" ∧ y.cls ≠ "java/lang/invoke/VarHandle")
    (hM : Met l Z y yb yl yr [] rm (argsL).toArray wsc h Qc) (hsz : Ls.size = maxL) (hpd : parseMethodDescriptor y.desc = some ⟨ps, rr⟩) (hlen : argsL.length = ps.length) (hst : st = argsL.reverse ++ rest) (hW : (rest.map fun v => v.category).sum ≤ W)
    (hf : rm.frames + 1 ≤ R.frames) (hl : W + (yl + 11) + rm.locals ≤ R.locals) (hc2 : cells + rm.cells = c2) (hs2 : slots + rm.slots = s2) (hcl : c2 ≤ R.cells) (hsl : s2 ≤ R.slots) (hws : ∀ x ∈ wsc, x ∈ ws ∨ C.s.heap.size ≤ x) (hq : pc + 3 = q)
    (K : ∀ v T' h', On l Z ws R own nm bytes maxL ret C T' h' c2 s2 → Keep h h' wsc → Qc v h' → Go C ws Q k n (T'.setTop (mkF C.m q Ls (v.toList ++ rest)))) : Go C ws Q k n (T.setTop (mkF C.m pc Ls st)) := by
  obtain ⟨⟨hx, hZ, rfl, r1, hown, r2⟩, ⟨locs, X, N⟩, eT⟩ := O; subst hq hc2 hs2
  obtain ⟨v, _, ⟨T', L', k', n'⟩, -, X', ⟨Lc, hQ, l', y', z'⟩, stp⟩ := Jvm.LawKit.callS X hx (y := y) hown (mvT hZ w1) (mvT hZ w2) (mvT hZ w3) (mvT hZ w4) hy (backOf (W := W) (Q := Post wsc rm.cells h Qc) hM hZ w4 w3 hf hl) (g := mkF C.m pc Ls st) rfl (hsz.trans r1.symm) (argsL := argsL) (rest := rest) (lenOf hpd hlen) hst (by show 2 * 0 + _ ≤ _; rw [Nat.mul_zero, Nat.zero_add]; exact hW) hd (fun _ _ => ⟨rfl, eT, hcl, hsl⟩)
  dsimp only [Pt.U, Pt.locs, Pt.cells, Pt.slots] at X' l' y' z' stp hQ
  subst l' y' z'
  obtain ⟨hF, hK, hE, hQ⟩ := hQ
  have hb : C.s.heap.size ≤ h.size := eT ▸ X.same.2.1
  exact (K v T' T'.heap ⟨⟨hx, hZ, rfl, r1, hown, r2⟩, ⟨_, X', N.app fun y hy => (hF y hy).elim (hws _) fun z => Or.inr (Nat.le_trans hb z)⟩, rfl⟩ hK hQ).of fun _ kk => stp _ kk
theorem callS0 (O : On l Z ws R own nm bytes maxL ret C T h cells slots) {i : Nat} {y : MethodName} {yb : ByteArray} {yl : Nat} {yr : Option FieldType} {rm : Room} {argsL rest : List Value} {wsc : List Addr} {Qc : Option Value → Heap → Prop} {ps : List FieldType} {rr : Option FieldType} {W c2 s2 : Nat}
    (hd : decode bytes pc = .ok (.invokestatic i, 3)) (w1 : (Cond.methodLink own i y).before a0 Z = true) (w2 : (Cond.static y).before a0 Z = true) (w3 : (Cond.initialized y.cls).before a0 Z = true) (w4 : (Cond.code y yb yl yr).before a0 Z = true) (hy : y.cls ≠ "java/lang/invoke/MethodHandle" ∧ y.cls ≠ "java/lang/invoke/VarHandle")
    (hM : Met l Z y yb yl yr [] rm (argsL).toArray wsc h Qc) (hsz : Ls.size = maxL) (hpd : parseMethodDescriptor y.desc = some ⟨ps, rr⟩) (hlen : argsL.length = ps.length) (hst : st = argsL.reverse ++ rest) (hW : (rest.map fun v => v.category).sum ≤ W)
    (hf : rm.frames + 1 ≤ R.frames) (hl : W + (yl + 11) + rm.locals ≤ R.locals) (hc2 : cells + rm.cells = c2) (hs2 : slots + rm.slots = s2) (hcl : c2 ≤ R.cells) (hsl : s2 ≤ R.slots) (hrc : rm.cells = 0) (hwc : wsc = []) (hq : pc + 3 = q)
    (K : ∀ v T', On l Z ws R own nm bytes maxL ret C T' h c2 s2 → Qc v h → Go C ws Q k n (T'.setTop (mkF C.m q Ls (v.toList ++ rest)))) : Go C ws Q k n (T.setTop (mkF C.m pc Ls st)) := by
  obtain ⟨⟨hx, hZ, rfl, r1, hown, r2⟩, ⟨locs, X, N⟩, eT⟩ := O; subst hq hc2 hs2
  obtain ⟨v, _, ⟨T', L', k', n'⟩, -, X', ⟨Lc, hQ, l', y', z'⟩, stp⟩ := Jvm.LawKit.callS X hx (y := y) hown (mvT hZ w1) (mvT hZ w2) (mvT hZ w3) (mvT hZ w4) hy (backOf (W := W) (Q := Post wsc rm.cells h Qc) hM hZ w4 w3 hf hl) (g := mkF C.m pc Ls st) rfl (hsz.trans r1.symm) (argsL := argsL) (rest := rest) (lenOf hpd hlen) hst (by show 2 * 0 + _ ≤ _; rw [Nat.mul_zero, Nat.zero_add]; exact hW) hd (fun _ _ => ⟨rfl, eT, hcl, hsl⟩)
  dsimp only [Pt.U, Pt.locs, Pt.cells, Pt.slots] at X' l' y' z' stp hQ
  subst l' y' z'
  obtain ⟨hF, hK, hE, hQ⟩ := hQ
  have hb : C.s.heap.size ≤ h.size := eT ▸ X.same.2.1
  have he : T'.heap = h := hE hrc hwc
  refine (K v T' ⟨⟨hx, hZ, rfl, r1, hown, r2⟩, ⟨_, X', N.app fun y hy => (hF y hy).elim (fun z => by rw [hwc] at z; cases z) fun z => Or.inr (Nat.le_trans hb z)⟩, he⟩ (he ▸ hQ)).of fun _ kk => stp _ kk
theorem callI (O : On l Z ws R own nm bytes maxL ret C T h cells slots) {i : Nat} {y : MethodName} {yb : ByteArray} {yl : Nat} {rm : Room} {argsL rest : List Value} {wsc : List Addr} {Qc : Option Value → Heap → Prop} {ps : List FieldType} {rr : Option FieldType} {W c2 s2 : Nat} {a : Addr}
    (hd : decode bytes pc = .ok (.invokespecial i, 3)) (hy1 : y.name = "<init>") (w1 : (Cond.methodLink own i y).before a0 Z = true) (w2 : (Cond.instanceMethod y).before a0 Z = true) (w3 : (Cond.initialized y.cls).before a0 Z = true) (w4 : (Cond.code y yb yl none).before a0 Z = true) (hy : y.cls ≠ "java/lang/invoke/MethodHandle" ∧ y.cls ≠ "java/lang/invoke/VarHandle")
    (hM : Met l Z y yb yl none [] rm (Value.ref a :: argsL).toArray wsc h Qc) (hsz : Ls.size = maxL) (hpd : parseMethodDescriptor y.desc = some ⟨ps, rr⟩) (hlen : argsL.length = ps.length) (hst : st = argsL.reverse ++ .ref a :: rest) (hW : (rest.map fun v => v.category).sum ≤ W)
    (hf : rm.frames + 1 ≤ R.frames) (hl : W + (yl + 11) + rm.locals ≤ R.locals) (hc2 : cells + rm.cells = c2) (hs2 : slots + rm.slots = s2) (hcl : c2 ≤ R.cells) (hsl : s2 ≤ R.slots) (hws : ∀ x ∈ wsc, x ∈ ws ∨ C.s.heap.size ≤ x) (hq : pc + 3 = q)
    (K : ∀ v T' h', On l Z ws R own nm bytes maxL ret C T' h' c2 s2 → Keep h h' wsc → Qc v h' → Go C ws Q k n (T'.setTop (mkF C.m q Ls (v.toList ++ rest)))) : Go C ws Q k n (T.setTop (mkF C.m pc Ls st)) := by
  obtain ⟨⟨hx, hZ, rfl, r1, hown, r2⟩, ⟨locs, X, N⟩, eT⟩ := O; subst hq hc2 hs2
  obtain ⟨v, _, ⟨T', L', k', n'⟩, -, X', ⟨Lc, hQ, l', y', z'⟩, stp⟩ := X.specialBack hx (y := y) hy1 hown (mvT hZ w1) (mvT hZ w2) (mvT hZ w4) hy (backOf (W := W) (Q := Post wsc rm.cells h Qc) hM hZ w4 w3 hf hl) (g := mkF C.m pc Ls st) rfl (hsz.trans r1.symm) (Steps.refl _) (a := a) (argsL := argsL) (rest := rest) (lenOf hpd hlen) hst (by show 2 * 0 + _ ≤ _; rw [Nat.mul_zero, Nat.zero_add]; exact hW) hd (fun _ _ => ⟨rfl, eT, hcl, hsl⟩)
  dsimp only [Pt.U, Pt.locs, Pt.cells, Pt.slots] at X' l' y' z' stp hQ
  subst l' y' z'
  obtain ⟨hF, hK, hE, hQ⟩ := hQ
  have hb : C.s.heap.size ≤ h.size := eT ▸ X.same.2.1
  exact (K v T' T'.heap ⟨⟨hx, hZ, rfl, r1, hown, r2⟩, ⟨_, X', N.app fun y hy => (hF y hy).elim (hws _) fun z => Or.inr (Nat.le_trans hb z)⟩, rfl⟩ hK hQ).via (stp)
theorem callI0 (O : On l Z ws R own nm bytes maxL ret C T h cells slots) {i : Nat} {y : MethodName} {yb : ByteArray} {yl : Nat} {rm : Room} {argsL rest : List Value} {wsc : List Addr} {Qc : Option Value → Heap → Prop} {ps : List FieldType} {rr : Option FieldType} {W c2 s2 : Nat} {a : Addr}
    (hd : decode bytes pc = .ok (.invokespecial i, 3)) (hy1 : y.name = "<init>") (w1 : (Cond.methodLink own i y).before a0 Z = true) (w2 : (Cond.instanceMethod y).before a0 Z = true) (w3 : (Cond.initialized y.cls).before a0 Z = true) (w4 : (Cond.code y yb yl none).before a0 Z = true) (hy : y.cls ≠ "java/lang/invoke/MethodHandle" ∧ y.cls ≠ "java/lang/invoke/VarHandle")
    (hM : Met l Z y yb yl none [] rm (Value.ref a :: argsL).toArray wsc h Qc) (hsz : Ls.size = maxL) (hpd : parseMethodDescriptor y.desc = some ⟨ps, rr⟩) (hlen : argsL.length = ps.length) (hst : st = argsL.reverse ++ .ref a :: rest) (hW : (rest.map fun v => v.category).sum ≤ W)
    (hf : rm.frames + 1 ≤ R.frames) (hl : W + (yl + 11) + rm.locals ≤ R.locals) (hc2 : cells + rm.cells = c2) (hs2 : slots + rm.slots = s2) (hcl : c2 ≤ R.cells) (hsl : s2 ≤ R.slots) (hrc : rm.cells = 0) (hwc : wsc = []) (hq : pc + 3 = q)
    (K : ∀ v T', On l Z ws R own nm bytes maxL ret C T' h c2 s2 → Qc v h → Go C ws Q k n (T'.setTop (mkF C.m q Ls (v.toList ++ rest)))) : Go C ws Q k n (T.setTop (mkF C.m pc Ls st)) := by
  obtain ⟨⟨hx, hZ, rfl, r1, hown, r2⟩, ⟨locs, X, N⟩, eT⟩ := O; subst hq hc2 hs2
  obtain ⟨v, _, ⟨T', L', k', n'⟩, -, X', ⟨Lc, hQ, l', y', z'⟩, stp⟩ := X.specialBack hx (y := y) hy1 hown (mvT hZ w1) (mvT hZ w2) (mvT hZ w4) hy (backOf (W := W) (Q := Post wsc rm.cells h Qc) hM hZ w4 w3 hf hl) (g := mkF C.m pc Ls st) rfl (hsz.trans r1.symm) (Steps.refl _) (a := a) (argsL := argsL) (rest := rest) (lenOf hpd hlen) hst (by show 2 * 0 + _ ≤ _; rw [Nat.mul_zero, Nat.zero_add]; exact hW) hd (fun _ _ => ⟨rfl, eT, hcl, hsl⟩)
  dsimp only [Pt.U, Pt.locs, Pt.cells, Pt.slots] at X' l' y' z' stp hQ
  subst l' y' z'
  obtain ⟨hF, hK, hE, hQ⟩ := hQ
  have hb : C.s.heap.size ≤ h.size := eT ▸ X.same.2.1
  have he : T'.heap = h := hE hrc hwc
  refine (K v T' ⟨⟨hx, hZ, rfl, r1, hown, r2⟩, ⟨_, X', N.app fun y hy => (hF y hy).elim (fun z => by rw [hwc] at z; cases z) fun z => Or.inr (Nat.le_trans hb z)⟩, he⟩ (he ▸ hQ)).via (stp)
theorem callV (O : On l Z ws R own nm bytes maxL ret C T h cells slots) {i : Nat} {y z : MethodName} {yb : ByteArray} {yl : Nat} {yr : Option FieldType} {rm : Room} {argsL rest : List Value} {wsc : List Addr} {Qc : Option Value → Heap → Prop} {ps : List FieldType} {rr : Option FieldType} {W c2 s2 : Nat} {a : Addr} {K0 : String}
    (hd : decode bytes pc = .ok (.invokevirtual i, 3)) (w1 : (Cond.methodLink own i y).before a0 Z = true) (wd : (Cond.declares y).before a0 Z = true) (ws1 : (Cond.selects K0 y z).before a0 Z = true) (hyz : y = z) (w2 : (Cond.instanceMethod z).before a0 Z = true) (w3 : (Cond.initialized z.cls).before a0 Z = true) (w4 : (Cond.code z yb yl yr).before a0 Z = true) (hy : y.cls ≠ "java/lang/invoke/MethodHandle" ∧ y.cls ≠ "java/lang/invoke/VarHandle")
    (hM : Met l Z z yb yl yr [] rm (Value.ref a :: argsL).toArray wsc h Qc) (E : Exa Z h a K0) (hsz : Ls.size = maxL) (hpd : parseMethodDescriptor y.desc = some ⟨ps, rr⟩) (hlen : argsL.length = ps.length) (hst : st = argsL.reverse ++ .ref a :: rest) (hW : (rest.map fun v => v.category).sum ≤ W)
    (hf : rm.frames + 1 ≤ R.frames) (hl : W + (yl + 11) + rm.locals ≤ R.locals) (hc2 : cells + rm.cells = c2) (hs2 : slots + rm.slots = s2) (hcl : c2 ≤ R.cells) (hsl : s2 ≤ R.slots) (hws : ∀ x ∈ wsc, x ∈ ws ∨ C.s.heap.size ≤ x) (hq : pc + 3 = q)
    (K : ∀ v T' h', On l Z ws R own nm bytes maxL ret C T' h' c2 s2 → Keep h h' wsc → Qc v h' → Go C ws Q k n (T'.setTop (mkF C.m q Ls (v.toList ++ rest)))) : Go C ws Q k n (T.setTop (mkF C.m pc Ls st)) := by
  obtain ⟨⟨hx, hZ, rfl, r1, hown, r2⟩, ⟨locs, X, N⟩, eT⟩ := O; subst hq hc2 hs2
  subst hyz
  obtain ⟨_, _, q1, -, q3⟩ := isOf hZ eT E
  obtain ⟨v, _, ⟨T', L', k', n'⟩, -, X', ⟨Lc, hQ, l', y', z'⟩, stp⟩ := X.virtualBack hx (y := y) (z := y) hown (mvT hZ w1) (mvT hZ wd) (notFace_of_selects (args := #[]) (mvT hZ ws1)) (mvT hZ ws1) (mvT hZ w2) hy (backOf (W := W) (Q := Post wsc rm.cells h Qc) hM hZ w4 w3 hf hl) q1 q3 (g := mkF C.m pc Ls st) rfl (hsz.trans r1.symm) (Steps.refl _) (argsL := argsL) (rest := rest) (lenOf hpd hlen) hst (by show 2 * 0 + _ ≤ _; rw [Nat.mul_zero, Nat.zero_add]; exact hW) hd (fun _ _ => ⟨rfl, eT, hcl, hsl⟩)
  dsimp only [Pt.U, Pt.locs, Pt.cells, Pt.slots] at X' l' y' z' stp hQ
  subst l' y' z'
  obtain ⟨hF, hK, hE, hQ⟩ := hQ
  have hb : C.s.heap.size ≤ h.size := eT ▸ X.same.2.1
  exact (K v T' T'.heap ⟨⟨hx, hZ, rfl, r1, hown, r2⟩, ⟨_, X', N.app fun y hy => (hF y hy).elim (hws _) fun z => Or.inr (Nat.le_trans hb z)⟩, rfl⟩ hK hQ).via (stp)
theorem callV0 (O : On l Z ws R own nm bytes maxL ret C T h cells slots) {i : Nat} {y z : MethodName} {yb : ByteArray} {yl : Nat} {yr : Option FieldType} {rm : Room} {argsL rest : List Value} {wsc : List Addr} {Qc : Option Value → Heap → Prop} {ps : List FieldType} {rr : Option FieldType} {W c2 s2 : Nat} {a : Addr} {K0 : String}
    (hd : decode bytes pc = .ok (.invokevirtual i, 3)) (w1 : (Cond.methodLink own i y).before a0 Z = true) (wd : (Cond.declares y).before a0 Z = true) (ws1 : (Cond.selects K0 y z).before a0 Z = true) (hyz : y = z) (w2 : (Cond.instanceMethod z).before a0 Z = true) (w3 : (Cond.initialized z.cls).before a0 Z = true) (w4 : (Cond.code z yb yl yr).before a0 Z = true) (hy : y.cls ≠ "java/lang/invoke/MethodHandle" ∧ y.cls ≠ "java/lang/invoke/VarHandle")
    (hM : Met l Z z yb yl yr [] rm (Value.ref a :: argsL).toArray wsc h Qc) (E : Exa Z h a K0) (hsz : Ls.size = maxL) (hpd : parseMethodDescriptor y.desc = some ⟨ps, rr⟩) (hlen : argsL.length = ps.length) (hst : st = argsL.reverse ++ .ref a :: rest) (hW : (rest.map fun v => v.category).sum ≤ W)
    (hf : rm.frames + 1 ≤ R.frames) (hl : W + (yl + 11) + rm.locals ≤ R.locals) (hc2 : cells + rm.cells = c2) (hs2 : slots + rm.slots = s2) (hcl : c2 ≤ R.cells) (hsl : s2 ≤ R.slots) (hrc : rm.cells = 0) (hwc : wsc = []) (hq : pc + 3 = q)
    (K : ∀ v T', On l Z ws R own nm bytes maxL ret C T' h c2 s2 → Qc v h → Go C ws Q k n (T'.setTop (mkF C.m q Ls (v.toList ++ rest)))) : Go C ws Q k n (T.setTop (mkF C.m pc Ls st)) := by
  obtain ⟨⟨hx, hZ, rfl, r1, hown, r2⟩, ⟨locs, X, N⟩, eT⟩ := O; subst hq hc2 hs2
  subst hyz
  obtain ⟨_, _, q1, -, q3⟩ := isOf hZ eT E
  obtain ⟨v, _, ⟨T', L', k', n'⟩, -, X', ⟨Lc, hQ, l', y', z'⟩, stp⟩ := X.virtualBack hx (y := y) (z := y) hown (mvT hZ w1) (mvT hZ wd) (notFace_of_selects (args := #[]) (mvT hZ ws1)) (mvT hZ ws1) (mvT hZ w2) hy (backOf (W := W) (Q := Post wsc rm.cells h Qc) hM hZ w4 w3 hf hl) q1 q3 (g := mkF C.m pc Ls st) rfl (hsz.trans r1.symm) (Steps.refl _) (argsL := argsL) (rest := rest) (lenOf hpd hlen) hst (by show 2 * 0 + _ ≤ _; rw [Nat.mul_zero, Nat.zero_add]; exact hW) hd (fun _ _ => ⟨rfl, eT, hcl, hsl⟩)
  dsimp only [Pt.U, Pt.locs, Pt.cells, Pt.slots] at X' l' y' z' stp hQ
  subst l' y' z'
  obtain ⟨hF, hK, hE, hQ⟩ := hQ
  have hb : C.s.heap.size ≤ h.size := eT ▸ X.same.2.1
  have he : T'.heap = h := hE hrc hwc
  refine (K v T' ⟨⟨hx, hZ, rfl, r1, hown, r2⟩, ⟨_, X', N.app fun y hy => (hF y hy).elim (fun z => by rw [hwc] at z; cases z) fun z => Or.inr (Nat.le_trans hb z)⟩, he⟩ (he ▸ hQ)).via (stp)
theorem tltL {x y : Int64} (h : x < y) : ifCond.holds .lt (lcmpW x y) = true ∧ ifCond.holds .ge (lcmpW x y) = false ∧ ifCond.holds .gt (lcmpW y x) = true ∧ ifCond.holds .le (lcmpW y x) = false := by
  rw [if0, if0, if0, if0]
  exact ⟨(tlt ((lw_lt x y).mpr h)).1, (tlt ((lw_lt x y).mpr h)).2.1, (tlt ((lw_gt y x).mpr h)).2.2.1, (tlt ((lw_gt y x).mpr h)).2.2.2⟩
theorem fltL {x y : Int64} (h : ¬ x < y) : ifCond.holds .lt (lcmpW x y) = false ∧ ifCond.holds .ge (lcmpW x y) = true ∧ ifCond.holds .gt (lcmpW y x) = false ∧ ifCond.holds .le (lcmpW y x) = true := by
  rw [if0, if0, if0, if0]
  have h1 : ¬ lcmpW x y < 0 := fun q => h ((lw_lt x y).mp q)
  have h2 : ¬ 0 < lcmpW y x := fun q => h ((lw_gt y x).mp q)
  exact ⟨(flt h1).1, (flt h1).2.1, (flt h2).2.2.1, (flt h2).2.2.2⟩
theorem teqL {x y : Int64} (h : x = y) : ifCond.holds .eq (lcmpW x y) = true ∧ ifCond.holds .ne (lcmpW x y) = false := by
  rw [if0, if0]; exact teq ((lw_eq x y).mpr h)
theorem feqL {x y : Int64} (h : ¬ x = y) : ifCond.holds .eq (lcmpW x y) = false ∧ ifCond.holds .ne (lcmpW x y) = true := by
  rw [if0, if0]; exact feq fun q => h ((lw_eq x y).mp q)
theorem tlt0 {x : Int32} (h : x < 0) : ifCond.holds .lt x = true ∧ ifCond.holds .ge x = false := by rw [if0, if0]; exact ⟨(tlt h).1, (tlt h).2.1⟩
theorem flt0 {x : Int32} (h : ¬ x < 0) : ifCond.holds .lt x = false ∧ ifCond.holds .ge x = true := by rw [if0, if0]; exact ⟨(flt h).1, (flt h).2.1⟩
theorem tgt0 {x : Int32} (h : 0 < x) : ifCond.holds .gt x = true ∧ ifCond.holds .le x = false := by rw [if0, if0]; exact ⟨(tlt h).2.2.1, (tlt h).2.2.2⟩
theorem fgt0 {x : Int32} (h : ¬ 0 < x) : ifCond.holds .gt x = false ∧ ifCond.holds .le x = true := by rw [if0, if0]; exact ⟨(flt h).2.2.1, (flt h).2.2.2⟩
theorem teq0 {x : Int32} (h : x = 0) : ifCond.holds .eq x = true ∧ ifCond.holds .ne x = false := by rw [if0, if0]; exact teq h
theorem feq0 {x : Int32} (h : ¬ x = 0) : ifCond.holds .eq x = false ∧ ifCond.holds .ne x = true := by rw [if0, if0]; exact feq h
end Steps
end Jvm.OwnW

namespace Jvm.OwnW
open Sem ClassFile Op Lib Jvm.Free Jvm.Stand Jvm.LawKit Jvm.RoadKit
/-- an array of n places of the kind ty; place j holds f j -/
def Ar (Z : State) (h : Heap) (a : Addr) (ty : FieldType) (n : Nat) (f : Nat → Value) : Prop := ∃ cl : Cell, Arr Z h a cl ty ∧ cl.slots.size = n ∧ n < 2147483648 ∧ ∀ j, j < n → cl.slots[j]? = some (f j)
/-- the values of a list by their places -/
def lf (vs : List Value) : Nat → Value := fun j => vs.getD j .null
def updV (f : Nat → Value) (i : Nat) (v : Value) : Nat → Value := fun j => if j = i then v else f j
section Arrs
variable {Z : State} {h h' : Heap} {a b : Addr} {ty : FieldType} {n i sl : Nat} {f g : Nat → Value} {v : Value} {ws : List Addr} {vs : List Value}
theorem Ar.lt (F : Ar Z h a ty n f) : a < h.size := by obtain ⟨_, A, -⟩ := F; exact A.lt
theorem Ar.ext (F : Ar Z h a ty n f) (E : Ext h h') : Ar Z h' a ty n f := by obtain ⟨c, A, r⟩ := F; exact ⟨c, A.ext E, r⟩
theorem Ar.keep (F : Ar Z h a ty n f) (K : Keep h h' ws) (q : a ∉ ws) : Ar Z h' a ty n f := by obtain ⟨c, A, r⟩ := F; exact ⟨c, ⟨K.2.1 a c A.1 q, A.2⟩, r⟩
theorem Ar.other (F : Ar Z h b ty n f) (W : Wr h h' a sl v) (q : b ≠ a) : Ar Z h' b ty n f := by obtain ⟨c, A, r⟩ := F; exact ⟨c, A.other W q, r⟩
theorem Ar.congr (F : Ar Z h a ty n f) (q : ∀ j, j < n → f j = g j) : Ar Z h a ty n g := by obtain ⟨c, A, r1, r2, r3⟩ := F; exact ⟨c, A, r1, r2, fun j hj => by rw [r3 j hj, q j hj]⟩
theorem Ar.small (F : Ar Z h a ty n f) : n < 2147483648 := by obtain ⟨c, A, r1, r2, r3⟩ := F; exact r2
theorem toNat_of {z : Int32} {n : Nat} (hz : z.toInt = n) : z.toNatClampNeg = n := by simp only [Int32.toNatClampNeg, hz, Int.toNat_natCast]
theorem Ar.new {k : ClassId} {z : Int32} (A : Arr Z h a (newA k ty z) ty) (hz : z.toInt = n) : Ar Z h a ty n (fun _ => defaultValue ty) := by
  have q := toNat_of hz
  refine ⟨_, A, by rw [sz_new, q], ?_, fun j hj => ?_⟩
  · have := z.toInt_lt; omega
  · simp [newA, q, hj]
theorem Ar.set (F : Ar Z h a ty n f) (W : Wr h h' a i v) (hi : i < n) : Ar Z h' a ty n (updV f i v) := by
  obtain ⟨c, A, r1, r2, r3⟩ := F
  refine ⟨_, A.same W, by rw [sz_set]; exact r1, r2, fun j hj => ?_⟩
  by_cases e : j = i
  · subst e; simp [Cell.setSlot, updV, r1, hi]
  · simp only [Cell.setSlot, updV, if_neg e]; rw [Array.getElem?_setIfInBounds_ne (Ne.symm e)]; exact r3 j hj
theorem Ar.setL (F : Ar Z h a ty n (lf vs)) (W : Wr h h' a i v) (hi : i < n) (hl : i < vs.length) : Ar Z h' a ty n (lf (vs.set i v)) := (F.set W hi).congr fun j _ => by
  simp only [updV, lf, List.getD_eq_getElem?_getD]
  by_cases e : j = i
  · subst e; simp [hl]
  · rw [if_neg e, List.getElem?_set_ne (Ne.symm e)]
theorem lf_rep (n : Nat) (d : Value) (j : Nat) (hj : j < n) : d = lf (List.replicate n d) j := by simp [lf, hj]
theorem updV_lf (L : List Value) (hi : i < L.length) : updV (lf L) i v = lf (L.set i v) := by
  funext j
  simp only [updV, lf, List.getD_eq_getElem?_getD]
  by_cases e : j = i
  · subst e; simp [hi]
  · rw [if_neg e, List.getElem?_set_ne (Ne.symm e)]
theorem fill_step (N : Nat → Value) (d : Value) (i j : Nat) : updV (fun j => if j < i then N j else d) i (N i) j = if j < i + 1 then N j else d := by
  simp only [updV]
  by_cases e : j = i
  · subst e; rw [if_pos rfl, if_pos (Nat.lt_succ_self j)]
  · rw [if_neg e]
    by_cases q : j < i
    · rw [if_pos q, if_pos (by omega)]
    · rw [if_neg q, if_neg (by omega)]
theorem Ar.of_arr' {cl : Cell} (A : Arr Z h a cl ty) (hn : cl.slots.size = n) (h31 : n < 2147483648) : Ar Z h a ty n (fun j => (cl.slots[j]?).getD .null) :=
  ⟨cl, A, hn, h31, fun j hj => by simp [hn, hj]⟩
theorem staKeep1 {D n d K0 : String} (F : Sta Z h D n d v) (K : Keep h h' [a]) (E : Exa Z h a K0) : Sta Z h' D n d v := by
  obtain ⟨cf, i, k, f, st, cell, h1, h2, h3, h4, h5, h6, r⟩ := F
  refine ⟨cf, i, k, f, st, cell, h1, h2, h3, h4, K.2.1 _ _ h5 (fun q => ?_), h6, r⟩
  obtain ⟨c, _, e1, -, -, e4, -⟩ := E
  cases List.mem_singleton.mp q
  cases h5.symm.trans e1
  rw [e4] at h6; cases h6
theorem Ar.of_arr {cl : Cell} (A : Arr Z h a cl ty) (hn : cl.slots.size = n) (h31 : n < 2147483648) : ∃ f, Ar Z h a ty n f :=
  ⟨fun j => cl.slots.getD j .null, cl, A, hn, h31, fun j hj => by simp [Array.getD, hn, hj]⟩
theorem staKeep {D n d : String} (F : Sta Z h D n d v) (K : Keep h h' []) : Sta Z h' D n d v := by
  obtain ⟨cf, i, k, f, st, cell, h1, h2, h3, h4, h5, r⟩ := F
  exact ⟨cf, i, k, f, st, cell, h1, h2, h3, h4, K.2.1 _ _ h5 (fun q => nomatch q), r⟩
theorem lenEq {t : Term} {args : Array Value} {s : State} {cl : Cell} {z : Int32} (et : t.eval args s none [] s = some (.ref a)) (ha : s.arrayAt? a = some cl) (hc : (Cond.eq (.length t) (.int z)).value args s none s [] = some true) : cl.slots.size.toInt32 = z ∧ cl.slots.size < 2147483648 := by
  by_cases hb : cl.slots.size < 2 ^ 31
  · exact ⟨gotT (Cond.eq_ints (len_f et ha hb) (Term.int_eval z)) hc, hb⟩
  · obtain ⟨x, y, q1, -⟩ := cmp_v (Or.inl hc)
    simp [Term.eval, et, ha, hb] at q1
theorem inb {z : Int32} {m : Nat} (hz : z.toInt = (i : Int)) (hm : m = n) (hi : i < n) : ¬ (z < 0 ∨ m ≤ z.toNatClampNeg) := by
  rw [toNat_of hz, Int32.lt_iff_toInt_lt, hz, hm]
  have : (0 : Int32).toInt = 0 := rfl
  rw [this]; omega
theorem len32 {m : Nat} {z : Int32} (hm : m = n) (hn : n < 2147483648) (hz : z.toInt = n) : m.toInt32 = z := by
  apply Int32.toInt_inj.mp; rw [hz, hm]; exact len_toInt hn
end Arrs
section ArrSteps
variable {l : Launch} {Z : State} {a0 : Array Value} {ws : List Addr} {R : Room} {own nm : String} {bytes : ByteArray} {maxL : Nat} {ret : Option FieldType} {C : Ctx} {T : State} {h : Heap} {cells slots k n : Nat} {Q : Option Value → Heap → Prop} {pc q : Nat} {Ls L' : Array Slot} {st : List Value}
  {a : Addr} {j : Int32} {i N : Nat} {f : Nat → Value} {v : Value} {ty : FieldType}
theorem ialA (O : On l Z ws R own nm bytes maxL ret C T h cells slots) (hd : decode bytes pc = .ok (.iaload, 1)) (V : Ar Z h a .int N f) (hj : j.toInt = (i : Int)) (hi : i < N) (hv : f i = v) (hq : pc + 1 = q)
    (K : Go C ws Q k n (T.setTop (mkF C.m q Ls (v :: st)))) : Go C ws Q k n (T.setTop (mkF C.m pc Ls (.int j :: .ref a :: st))) := by
  obtain ⟨c, A, r1, r2, r3⟩ := V
  exact iaload O hd A (inb hj r1 hi) (by rw [toNat_of hj, ← hv]; exact r3 i hi) hq K
theorem lalA (O : On l Z ws R own nm bytes maxL ret C T h cells slots) (hd : decode bytes pc = .ok (.laload, 1)) (V : Ar Z h a .long N f) (hj : j.toInt = (i : Int)) (hi : i < N) (hv : f i = v) (hq : pc + 1 = q)
    (K : Go C ws Q k n (T.setTop (mkF C.m q Ls (v :: st)))) : Go C ws Q k n (T.setTop (mkF C.m pc Ls (.int j :: .ref a :: st))) := by
  obtain ⟨c, A, r1, r2, r3⟩ := V
  exact laload O hd A (inb hj r1 hi) (by rw [toNat_of hj, ← hv]; exact r3 i hi) hq K
theorem balA (O : On l Z ws R own nm bytes maxL ret C T h cells slots) (hd : decode bytes pc = .ok (.baload, 1)) (V : Ar Z h a .byte N f) (hj : j.toInt = (i : Int)) (hi : i < N) (hv : f i = v) (hq : pc + 1 = q)
    (K : Go C ws Q k n (T.setTop (mkF C.m q Ls (v :: st)))) : Go C ws Q k n (T.setTop (mkF C.m pc Ls (.int j :: .ref a :: st))) := by
  obtain ⟨c, A, r1, r2, r3⟩ := V
  exact baload O hd A (inb hj r1 hi) (by rw [toNat_of hj, ← hv]; exact r3 i hi) hq K
theorem aalA (O : On l Z ws R own nm bytes maxL ret C T h cells slots) (hd : decode bytes pc = .ok (.aaload, 1)) (V : Ar Z h a ty N f) (hty : ty.isReference = true) (hj : j.toInt = (i : Int)) (hi : i < N) (hv : f i = v) (hq : pc + 1 = q)
    (K : Go C ws Q k n (T.setTop (mkF C.m q Ls (v :: st)))) : Go C ws Q k n (T.setTop (mkF C.m pc Ls (.int j :: .ref a :: st))) := by
  obtain ⟨c, A, r1, r2, r3⟩ := V
  exact aaload O hd A hty (inb hj r1 hi) (by rw [toNat_of hj, ← hv]; exact r3 i hi) hq K
theorem lenA (O : On l Z ws R own nm bytes maxL ret C T h cells slots) (hd : decode bytes pc = .ok (.arraylength, 1)) (V : Ar Z h a ty N f) {z : Int32} (hz : z.toInt = N) (hq : pc + 1 = q)
    (K : Go C ws Q k n (T.setTop (mkF C.m q Ls (.int z :: st)))) : Go C ws Q k n (T.setTop (mkF C.m pc Ls (.ref a :: st))) := by
  obtain ⟨c, A, r1, r2, r3⟩ := V
  exact arraylength O hd A (len32 r1 r2 hz) hq K
theorem iasA (O : On l Z ws R own nm bytes maxL ret C T h cells slots) {x : Int32} (hd : decode bytes pc = .ok (.iastore, 1)) (V : Ar Z h a .int N f) (hj : j.toInt = (i : Int)) (hi : i < N) (ha : a ∈ ws ∨ C.s.heap.size ≤ a) (hq : pc + 1 = q)
    (K : ∀ T' h', On l Z ws R own nm bytes maxL ret C T' h' cells slots → Wr h h' a i (.int x) → Go C ws Q k n (T'.setTop (mkF C.m q Ls st))) : Go C ws Q k n (T.setTop (mkF C.m pc Ls (.int x :: .int j :: .ref a :: st))) := by
  obtain ⟨c, A, r1, r2, r3⟩ := V
  exact iastore O hd A (inb hj r1 hi) ha hq fun T' h' O' W => K T' h' O' (toNat_of hj ▸ W)
theorem lasA (O : On l Z ws R own nm bytes maxL ret C T h cells slots) {x : Int64} (hd : decode bytes pc = .ok (.lastore, 1)) (V : Ar Z h a .long N f) (hj : j.toInt = (i : Int)) (hi : i < N) (ha : a ∈ ws ∨ C.s.heap.size ≤ a) (hq : pc + 1 = q)
    (K : ∀ T' h', On l Z ws R own nm bytes maxL ret C T' h' cells slots → Wr h h' a i (.long x) → Go C ws Q k n (T'.setTop (mkF C.m q Ls st))) : Go C ws Q k n (T.setTop (mkF C.m pc Ls (.long x :: .int j :: .ref a :: st))) := by
  obtain ⟨c, A, r1, r2, r3⟩ := V
  exact lastore O hd A (inb hj r1 hi) ha hq fun T' h' O' W => K T' h' O' (toNat_of hj ▸ W)
theorem basA (O : On l Z ws R own nm bytes maxL ret C T h cells slots) {x y : Int32} (hd : decode bytes pc = .ok (.bastore, 1)) (V : Ar Z h a .byte N f) (hj : j.toInt = (i : Int)) (hi : i < N) (ha : a ∈ ws ∨ C.s.heap.size ≤ a) (hy : x.toInt8.toInt32 = y) (hq : pc + 1 = q)
    (K : ∀ T' h', On l Z ws R own nm bytes maxL ret C T' h' cells slots → Wr h h' a i (.int y) → Go C ws Q k n (T'.setTop (mkF C.m q Ls st))) : Go C ws Q k n (T.setTop (mkF C.m pc Ls (.int x :: .int j :: .ref a :: st))) := by
  obtain ⟨c, A, r1, r2, r3⟩ := V
  subst hy
  exact bastore O hd A (inb hj r1 hi) ha hq fun T' h' O' W => K T' h' O' (toNat_of hj ▸ W)
theorem newA' (O : On l Z ws R own nm bytes maxL ret C T h cells slots) {aty : ArrayType} {c2 s2 : Nat} (hd : decode bytes pc = .ok (.newarray aty, 2)) (ht : newarray.typeOf aty = ty) (w : (Cond.arrayClass ty).before a0 Z = true) {z : Int32} (hz : z.toInt = N) {cap : Nat} (hcap : N ≤ cap) (hb : cap * 8 ≤ 536870912) (hc2 : cells + 1 = c2) (hs2 : slots + cap = s2) (hc : c2 ≤ R.cells) (hl : s2 ≤ R.slots) (hq : pc + 2 = q)
    (K : ∀ a T' h', a = h.size → C.s.heap.size ≤ a → On l Z ws R own nm bytes maxL ret C T' h' c2 s2 → Ext h h' → Ar Z h' a ty N (fun _ => defaultValue ty) → Go C ws Q k n (T'.setTop (mkF C.m q Ls (.ref a :: st)))) : Go C ws Q k n (T.setTop (mkF C.m pc Ls (.int z :: st))) := by
  subst ht
  refine newP O hd w ?_ (by rw [toNat_of hz]; exact hcap) hb hc2 hs2 hc hl hq fun a T' h' cA e1 e2 O' E A => K a T' h' e1 e2 O' E (Ar.new A hz)
  rw [Int32.lt_iff_toInt_lt, hz]
  have : (0 : Int32).toInt = 0 := rfl
  rw [this]; omega
end ArrSteps
end Jvm.OwnW

namespace Jvm.OwnW
open Jvm.RoadKit
theorem add32 {x y : Int32} (h1 : -2147483648 ≤ x.toInt + y.toInt) (h2 : x.toInt + y.toInt < 2147483648) : (x + y).toInt = x.toInt + y.toInt := by
  have := c_iadd x y; have := rng32 (x + y); omega
theorem sub32 {x y : Int32} (h1 : -2147483648 ≤ x.toInt - y.toInt) (h2 : x.toInt - y.toInt < 2147483648) : (x - y).toInt = x.toInt - y.toInt := by
  have := c_isub x y; have := rng32 (x - y); omega
theorem mul32 {x y : Int32} (h1 : -2147483648 ≤ x.toInt * y.toInt) (h2 : x.toInt * y.toInt < 2147483648) : (x * y).toInt = x.toInt * y.toInt := by
  have := c_imul x y; have := rng32 (x * y); omega
theorem add64 {x y : Int64} (h1 : -9223372036854775808 ≤ x.toInt + y.toInt) (h2 : x.toInt + y.toInt < 9223372036854775808) : (x + y).toInt = x.toInt + y.toInt := by
  have := c_ladd x y; have := rng64 (x + y); omega
theorem sub64 {x y : Int64} (h1 : -9223372036854775808 ≤ x.toInt - y.toInt) (h2 : x.toInt - y.toInt < 9223372036854775808) : (x - y).toInt = x.toInt - y.toInt := by
  have := c_lsub x y; have := rng64 (x - y); omega
theorem mul64 {x y : Int64} (h1 : -9223372036854775808 ≤ x.toInt * y.toInt) (h2 : x.toInt * y.toInt < 9223372036854775808) : (x * y).toInt = x.toInt * y.toInt := by
  have := c_lmul x y; have := rng64 (x * y); omega
theorem ne0_32 {z : Int32} (h : 0 < z.toInt) : z ≠ 0 := fun e => by subst e; exact absurd h (by decide)
theorem ne0_64 {z : Int64} (h : 0 < z.toInt) : z ≠ 0 := fun e => by subst e; exact absurd h (by decide)
theorem lt32 {x y : Int32} (h : x.toInt < y.toInt) : x < y := Int32.lt_iff_toInt_lt.mpr h
theorem nlt32 {x y : Int32} (h : y.toInt ≤ x.toInt) : ¬ x < y := fun q => by rw [Int32.lt_iff_toInt_lt] at q; omega
theorem lt64 {x y : Int64} (h : x.toInt < y.toInt) : x < y := Int64.lt_iff_toInt_lt.mpr h
theorem nlt64 {x y : Int64} (h : y.toInt ≤ x.toInt) : ¬ x < y := fun q => by rw [Int64.lt_iff_toInt_lt] at q; omega
theorem eq32 {x y : Int32} (h : x.toInt = y.toInt) : x = y := Int32.toInt_inj.mp h
theorem ne32 {x y : Int32} (h : x.toInt ≠ y.toInt) : ¬ x = y := fun e => h (congrArg _ e)
theorem ne64 {x y : Int64} (h : x.toInt ≠ y.toInt) : ¬ x = y := fun e => h (congrArg _ e)
theorem inc32 {z : Int32} {i : Nat} (hi : z.toInt = (i : Int)) (hb : i < 2147483647) : (z + 1).toInt = ((i + 1 : Nat) : Int) := by
  have h1 : (1 : Int32).toInt = 1 := rfl
  rw [add32 (by omega) (by omega)]; omega
theorem dec32 {z : Int32} {i : Nat} (hi : z.toInt = (i : Int)) (hb : 1 ≤ i) : (z - 1).toInt = ((i - 1 : Nat) : Int) := by
  have h1 : (1 : Int32).toInt = 1 := rfl
  have := rng32 z
  rw [sub32 (by omega) (by omega)]; omega
/-- (s & 0x7fffffff) % z for a z above 0 -/
theorem rem_in (s z : Int32) (hz : 0 < z.toInt) : ∃ i : Nat, ((s &&& 2147483647) % z).toInt = (i : Int) ∧ (i : Int) < z.toInt := by
  have h1 := c_mask s 2147483647 31 (by decide) (by decide)
  have h2 := (c_iremV (s &&& 2147483647) z).1 (by omega) hz
  exact ⟨((s &&& 2147483647) % z).toInt.toNat, by omega, by omega⟩
theorem b8 (x : Int32) : x.toInt8.toInt32.toInt8.toInt32 = x.toInt8.toInt32 := by
  have h := c_i2b x; have h2 := c_i2b x.toInt8.toInt32
  apply Int32.toInt_inj.mp; omega
theorem lf_int (L : List Int32) (j : Nat) (hj : j < L.length) : lf (L.map Value.int) j = .int (L.getD j 0) := by
  simp [lf, List.getD_eq_getElem?_getD, hj]
theorem lf_long (L : List Int64) (j : Nat) (hj : j < L.length) : lf (L.map Value.long) j = .long (L.getD j 0) := by
  simp [lf, List.getD_eq_getElem?_getD, hj]
end Jvm.OwnW

namespace Jvm.OwnW
open Sem ClassFile Op Lib Jvm.Free Jvm.Stand Jvm.LawKit Jvm.RoadKit
/-- the Class object of the class K0 has been made: it is a -/
def MirO (Z : State) (K0 : String) (a : Addr) : Prop := ∃ c k, Z.vm.findClass K0 = some c ∧ Z.vm.classes[c]? = some k ∧ k.mirror = some a
theorem catR {v : Value} (h : v.isRef = true) : v.category = 1 := by cases v <;> first | rfl | cases h
theorem isRef_ite {c : Prop} [Decidable c] {a b : Value} (ha : a.isRef = true) (hb : b.isRef = true) : (if c then a else b).isRef = true := by split <;> assumption
theorem ite_val {α : Type} {c : Prop} [Decidable c] {a b v : α} (h1 : c → a = v) (h2 : ¬ c → b = v) : (if c then a else b) = v := by
  by_cases h : c
  · rw [if_pos h]; exact h1 h
  · rw [if_neg h]; exact h2 h
section StepsR
variable {l : Launch} {Z : State} {a0 : Array Value} {ws : List Addr} {R : Room} {own nm : String} {bytes : ByteArray} {maxL : Nat} {ret : Option FieldType} {C : Ctx} {T : State} {h : Heap} {cells slots k n : Nat} {Q : Option Value → Heap → Prop} {pc q : Nat} {Ls L' : Array Slot} {st : List Value}
theorem ldcM (O : On l Z ws R own nm bytes maxL ret C T h cells slots) {i : Nat} {K0 : String} {a : Addr} (hd : decode bytes pc = .ok (.ldc i, 2)) (w : (Cond.classLink own i K0).before a0 Z = true) (M : MirO Z K0 a) (hq : pc + 2 = q)
    (K : ∀ T', On l Z ws R own nm bytes maxL ret C T' h cells slots → Go C ws Q k n (T'.setTop (mkF C.m q Ls (.ref a :: st)))) : Go C ws Q k n (T.setTop (mkF C.m pc Ls st)) := by
  obtain ⟨⟨hx, hZ, rfl, r1, hown, r2⟩, ⟨_, X, N⟩, eT⟩ := O; subst hq
  obtain ⟨c, kc, m1, m2, m3⟩ := M
  obtain ⟨k', q1, q2⟩ := hZ.alike.2.2 _ _ m2
  have q3 : C.s.vm.findClass K0 = some c := by rw [hZ.alike.findClass]; exact m1
  have q4 : k'.mirror = some a := by rw [q2]; exact m3
  have hev : (Term.mirror K0).eval C.args C.s none [] C.s = some (.ref a) := by simp [Term.eval, q3, q1, q4]
  obtain ⟨vm', X', stp⟩ := X.ldcMirror hx hown (mvT hZ w) hev (g := mkF C.m pc Ls st) rfl hd
  exact (K _ ⟨⟨hx, hZ, rfl, r1, hown, r2⟩, ⟨_, X', N⟩, eT⟩).of fun _ kk => stp _ kk
theorem lswIn (O : On l Z ws R own nm bytes maxL ret C T h cells slots) {df v : Int} {prs : Array (Int × Int)} {ln : Nat} {x : Int32} {o : Int} (hd : decode bytes pc = .ok (.lookupswitch df prs, ln)) (hs : (prs.toList.zip (prs.toList.drop 1)).all (fun (a, next) => a.1 < next.1) = true) (hf : prs.find? (·.1 == x.toInt) = some (v, o)) (h0 : 0 ≤ (pc : Int) + o) (hq : ((pc : Int) + o).toNat = q)
    (K : Go C ws Q k n (T.setTop (mkF C.m q Ls st))) : Go C ws Q k n (T.setTop (mkF C.m pc Ls (.int x :: st))) := by
  obtain ⟨⟨hx, -, rfl, -⟩, ⟨_, X, -⟩, -⟩ := O; subst hq
  refine K.of fun _ kk => ?_
  jvm_step X.here [X.here.top, hx, hd, lookupswitch.wp_whole, hf, h0]
  refine ⟨by simpa using hs, kk⟩
theorem lswOut (O : On l Z ws R own nm bytes maxL ret C T h cells slots) {o : Int} {prs : Array (Int × Int)} {ln : Nat} {x : Int32} (hd : decode bytes pc = .ok (.lookupswitch o prs, ln)) (hs : (prs.toList.zip (prs.toList.drop 1)).all (fun (a, next) => a.1 < next.1) = true) (hf : prs.find? (·.1 == x.toInt) = none) (h0 : 0 ≤ (pc : Int) + o) (hq : ((pc : Int) + o).toNat = q)
    (K : Go C ws Q k n (T.setTop (mkF C.m q Ls st))) : Go C ws Q k n (T.setTop (mkF C.m pc Ls (.int x :: st))) := by
  obtain ⟨⟨hx, -, rfl, -⟩, ⟨_, X, -⟩, -⟩ := O; subst hq
  refine K.of fun _ kk => ?_
  jvm_step X.here [X.here.top, hx, hd, lookupswitch.wp_whole, hf, h0]
  refine ⟨by simpa using hs, kk⟩
theorem castY (O : On l Z ws R own nm bytes maxL ret C T h cells slots) {i : Nat} {K0 : String} {a : Addr} (hd : decode bytes pc = .ok (.checkcast i, 3)) (w : (Cond.classLink own i K0).before a0 Z = true) (F : Ins Z h a K0 true) (hq : pc + 3 = q)
    (K : ∀ T', On l Z ws R own nm bytes maxL ret C T' h cells slots → Go C ws Q k n (T'.setTop (mkF C.m q Ls (.ref a :: st)))) : Go C ws Q k n (T.setTop (mkF C.m pc Ls (.ref a :: st))) := by
  obtain ⟨⟨hx, hZ, rfl, r1, hown, r2⟩, ⟨_, X, N⟩, eT⟩ := O; subst hq
  obtain ⟨T', X', e', stp⟩ := Jvm.RoadKit.castY X hx hZ hown w eT F (g := mkF C.m pc Ls (.ref a :: st)) rfl rfl hd
  exact (K T' ⟨⟨hx, hZ, rfl, r1, hown, r2⟩, ⟨_, X', N⟩, e'⟩).of fun _ kk => stp _ kk
end StepsR
end Jvm.OwnW
namespace Jvm.OwnW
open Sem ClassFile Op Lib Jvm.Free Jvm.Stand Jvm.LawKit Jvm.RoadKit
/-- an array whose own class is known too -/
def ArC (Z : State) (h : Heap) (a : Addr) (ty : FieldType) (n : Nat) (f : Nat → Value) (cA : ClassId) : Prop := ∃ cl : Cell, Arr Z h a cl ty ∧ cl.cls = cA ∧ cl.slots.size = n ∧ n < 2147483648 ∧ ∀ j, j < n → cl.slots[j]? = some (f j)
section ArrsC
variable {Z : State} {h h' : Heap} {a b : Addr} {ty : FieldType} {n i sl : Nat} {f g : Nat → Value} {v : Value} {ws : List Addr} {cA : ClassId}
theorem ArC.ar (F : ArC Z h a ty n f cA) : Ar Z h a ty n f := by obtain ⟨c, A, -, r⟩ := F; exact ⟨c, A, r⟩
theorem ArC.lt (F : ArC Z h a ty n f cA) : a < h.size := F.ar.lt
theorem ArC.ext (F : ArC Z h a ty n f cA) (E : Ext h h') : ArC Z h' a ty n f cA := by obtain ⟨c, A, r⟩ := F; exact ⟨c, A.ext E, r⟩
theorem ArC.keep (F : ArC Z h a ty n f cA) (K : Keep h h' ws) (q : a ∉ ws) : ArC Z h' a ty n f cA := by obtain ⟨c, A, r⟩ := F; exact ⟨c, ⟨K.2.1 a c A.1 q, A.2⟩, r⟩
theorem ArC.other (F : ArC Z h b ty n f cA) (W : Wr h h' a sl v) (q : b ≠ a) : ArC Z h' b ty n f cA := by obtain ⟨c, A, r⟩ := F; exact ⟨c, A.other W q, r⟩
theorem ArC.new {z : Int32} (A : Arr Z h a (newA cA ty z) ty) (hz : z.toInt = n) : ArC Z h a ty n (fun _ => defaultValue ty) cA := by
  have q := toNat_of hz
  refine ⟨_, A, rfl, by rw [sz_new, q], ?_, fun j hj => ?_⟩
  · have := z.toInt_lt; omega
  · simp [newA, q, hj]
theorem ArC.set (F : ArC Z h a ty n f cA) (W : Wr h h' a i v) (hi : i < n) : ArC Z h' a ty n (updV f i v) cA := by
  obtain ⟨c, A, rc, r1, r2, r3⟩ := F
  refine ⟨_, A.same W, rc, by rw [sz_set]; exact r1, r2, fun j hj => ?_⟩
  by_cases e : j = i
  · subst e; simp [Cell.setSlot, updV, r1, hi]
  · simp only [Cell.setSlot, updV, if_neg e]; rw [Array.getElem?_setIfInBounds_ne (Ne.symm e)]; exact r3 j hj
end ArrsC
section StepsC
variable {l : Launch} {Z : State} {a0 : Array Value} {ws : List Addr} {R : Room} {own nm : String} {bytes : ByteArray} {maxL : Nat} {ret : Option FieldType} {C : Ctx} {T : State} {h : Heap} {cells slots k n : Nat} {Q : Option Value → Heap → Prop} {pc q : Nat} {Ls L' : Array Slot} {st : List Value}
  {a : Addr} {j : Int32} {i N : Nat} {f : Nat → Value} {v : Value} {ty : FieldType}
theorem nneg {z : Int32} (hz : z.toInt = (N : Int)) : ¬ z < 0 := by
  rw [Int32.lt_iff_toInt_lt, hz]
  have : (0 : Int32).toInt = 0 := rfl
  rw [this]; omega
theorem newAE (O : On l Z ws R own nm bytes maxL ret C T h cells slots) {aty : ArrayType} {c2 s2 : Nat} {ad : String} (hd : decode bytes pc = .ok (.newarray aty, 2)) (ht : newarray.typeOf aty = ty) (had : "[" ++ ty.toString = ad) (w : (Cond.arrayClass ty).before a0 Z = true) {z : Int32} (hz : z.toInt = N) {cap : Nat} (hcap : N ≤ cap) (hb : cap * 8 ≤ 536870912) (hc2 : cells + 1 = c2) (hs2 : slots + cap = s2) (hc : c2 ≤ R.cells) (hl : s2 ≤ R.slots) (hq : pc + 2 = q)
    (K : ∀ a T' h', a = h.size → C.s.heap.size ≤ a → On l Z ws R own nm bytes maxL ret C T' h' c2 s2 → Ext h h' → Ar Z h' a ty N (fun _ => defaultValue ty) → Exa Z h' a ad → Go C ws Q k n (T'.setTop (mkF C.m q Ls (.ref a :: st)))) : Go C ws Q k n (T.setTop (mkF C.m pc Ls (.int z :: st))) := by
  subst ht
  obtain ⟨⟨hx, hZ, rfl, r1, hown, r2⟩, ⟨_, X, N'⟩, eT⟩ := O; subst hq hc2 hs2
  obtain ⟨T', h', cA, X', e', E, A, Ex, stp⟩ := Jvm.RoadKit.newPE X hx hZ w eT (g := mkF C.m pc Ls (.int z :: st)) rfl hd rfl (nneg hz) (by rw [toNat_of hz]; exact hcap) hb hc hl had
  exact (K _ T' h' rfl (eT ▸ X.same.2.1) ⟨⟨hx, hZ, rfl, r1, hown, r2⟩, ⟨_, X', N'⟩, e'⟩ E (Ar.new A hz) Ex).of fun _ kk => stp _ kk
theorem newRO (O : On l Z ws R own nm bytes maxL ret C T h cells slots) {K0 : String} {ix c2 s2 : Nat} (hd : decode bytes pc = .ok (.anewarray ix, 3)) (w1 : (Cond.classLink own ix K0).before a0 Z = true) (w2 : (Cond.arrayOver (.object K0)).before a0 Z = true) {z : Int32} (hz : z.toInt = N) {cap : Nat} (hcap : N ≤ cap) (hb : cap * 8 ≤ 536870912) (hc2 : cells + 1 = c2) (hs2 : slots + cap = s2) (hc : c2 ≤ R.cells) (hl : s2 ≤ R.slots) (hq : pc + 3 = q)
    (K : ∀ a T' h' cA, a = h.size → C.s.heap.size ≤ a → On l Z ws R own nm bytes maxL ret C T' h' c2 s2 → Ext h h' → ArC Z h' a (.object K0) N (fun _ => .null) cA → Ovr Z cA K0 → Go C ws Q k n (T'.setTop (mkF C.m q Ls (.ref a :: st)))) : Go C ws Q k n (T.setTop (mkF C.m pc Ls (.int z :: st))) := by
  obtain ⟨⟨hx, hZ, rfl, r1, hown, r2⟩, ⟨_, X, N'⟩, eT⟩ := O; subst hq hc2 hs2
  obtain ⟨T', h', cA, X', e', E, A, Ov, stp⟩ := Jvm.RoadKit.newR X hx hZ hown w1 w2 eT (g := mkF C.m pc Ls (.int z :: st)) rfl hd rfl (nneg hz) (by rw [toNat_of hz]; exact hcap) hb hc hl
  exact (K _ T' h' cA rfl (eT ▸ X.same.2.1) ⟨⟨hx, hZ, rfl, r1, hown, r2⟩, ⟨_, X', N'⟩, e'⟩ E (ArC.new A hz) Ov).of fun _ kk => stp _ kk
theorem newRR (O : On l Z ws R own nm bytes maxL ret C T h cells slots) {K0 ad : String} {ix c2 s2 : Nat} (hd : decode bytes pc = .ok (.anewarray ix, 3)) (hC : (FieldType.array ty).toString = K0) (had : "[" ++ K0 = ad) (w1 : (Cond.classLink own ix K0).before a0 Z = true) (w2 : (Cond.arrayOver (.array ty)).before a0 Z = true) {z : Int32} (hz : z.toInt = N) {cap : Nat} (hcap : N ≤ cap) (hb : cap * 8 ≤ 536870912) (hc2 : cells + 1 = c2) (hs2 : slots + cap = s2) (hc : c2 ≤ R.cells) (hl : s2 ≤ R.slots) (hq : pc + 3 = q)
    (K : ∀ a T' h' cA, a = h.size → C.s.heap.size ≤ a → On l Z ws R own nm bytes maxL ret C T' h' c2 s2 → Ext h h' → ArC Z h' a (.array ty) N (fun _ => .null) cA → OvrA Z cA ty K0 → Go C ws Q k n (T'.setTop (mkF C.m q Ls (.ref a :: st)))) : Go C ws Q k n (T.setTop (mkF C.m pc Ls (.int z :: st))) := by
  obtain ⟨⟨hx, hZ, rfl, r1, hown, r2⟩, ⟨_, X, N'⟩, eT⟩ := O; subst hq hc2 hs2
  obtain ⟨T', h', cA, X', e', E, A, -, Ov, stp⟩ := Jvm.RoadKit.newRA X hx hZ hown hC w1 w2 eT (g := mkF C.m pc Ls (.int z :: st)) rfl hd rfl (nneg hz) (by rw [toNat_of hz]; exact hcap) hb hc hl had
  exact (K _ T' h' cA rfl (eT ▸ X.same.2.1) ⟨⟨hx, hZ, rfl, r1, hown, r2⟩, ⟨_, X', N'⟩, e'⟩ E (ArC.new A hz) Ov).of fun _ kk => stp _ kk
theorem aasRR (O : On l Z ws R own nm bytes maxL ret C T h cells slots) {K0 : String} {y : Addr} {cA : ClassId} (hd : decode bytes pc = .ok (.aastore, 1)) (V : ArC Z h a (.array ty) N f cA) (Ov : OvrA Z cA ty K0) (I : Ins Z h y K0 true) (hj : j.toInt = (i : Int)) (hi : i < N) (ha : a ∈ ws ∨ C.s.heap.size ≤ a) (hq : pc + 1 = q)
    (K : ∀ T' h', On l Z ws R own nm bytes maxL ret C T' h' cells slots → Wr h h' a i (.ref y) → Go C ws Q k n (T'.setTop (mkF C.m q Ls st))) : Go C ws Q k n (T.setTop (mkF C.m pc Ls (.ref y :: .int j :: .ref a :: st))) := by
  obtain ⟨⟨hx, hZ, rfl, r1, hown, r2⟩, ⟨_, X, N'⟩, eT⟩ := O; subst hq
  obtain ⟨cl, A, rc, s1, s2, s3⟩ := V
  obtain ⟨T', h', X', e', W, stp⟩ := Jvm.RoadKit.stR X hx hZ eT A (inb hj s1 hi) rfl (Sto.ofVA A rc Ov I) (g := mkF C.m pc Ls (.ref y :: .int j :: .ref a :: st)) rfl rfl hd
  exact (K T' h' ⟨⟨hx, hZ, rfl, r1, hown, r2⟩, ⟨_, X', N'.snoc ha⟩, e'⟩ (toNat_of hj ▸ W)).of fun _ kk => stp _ kk
end StepsC
end Jvm.OwnW

namespace Jvm.Pilot.@@N@@
open Jvm Jvm.ClassFile Sem Op Lib Jvm.Free Jvm.Stand Jvm.LawKit Jvm.RoadKit Bundle Jvm.OwnW Jvm.Pilot.@@N@@.Jvm.D

theorem di_0 : decode prog_60_method_1_code 0 = .ok (.aload_n 0, 1) := by decide +kernel
theorem di_1 : decode prog_60_method_1_code 1 = .ok (.invokespecial 1, 3) := by decide +kernel
theorem di_4 : decode prog_60_method_1_code 4 = .ok (.aload_n 0, 1) := by decide +kernel
theorem di_5 : decode prog_60_method_1_code 5 = .ok (.iload_n 1, 1) := by decide +kernel
theorem di_6 : decode prog_60_method_1_code 6 = .ok (.anewarray 7, 3) := by decide +kernel
theorem di_9 : decode prog_60_method_1_code 9 = .ok (.putfield 9, 3) := by decide +kernel
theorem di_12 : decode prog_60_method_1_code 12 = .ok (.aload_n 0, 1) := by decide +kernel
theorem di_13 : decode prog_60_method_1_code 13 = .ok (.iload_n 1, 1) := by decide +kernel
theorem di_14 : decode prog_60_method_1_code 14 = .ok (.anewarray 15, 3) := by decide +kernel
theorem di_17 : decode prog_60_method_1_code 17 = .ok (.putfield 17, 3) := by decide +kernel
theorem di_20 : decode prog_60_method_1_code 20 = .ok (.return_, 1) := by decide +kernel
theorem ef_i (a1 : Addr) (p2 : Int32) (m : MethodId) : entryFrame m #[(.ref a1), (.int p2)] 2 = mkF m 0 #[.val (.ref a1), .val (.int p2)] [] := by first | (simp [entryFrame, mkF, argsToLocals, Value.category, maxLocals]; done) | rfl
theorem pn_i : plainFor (⟨"com/example/lamina/lamina/table/Block", "<init>", "(I)V"⟩ : MethodName) = true := by first | exact plainFor_of_name (by first | (simp [plainName, overriddenIn]; done) | decide +kernel) | decide +kernel
set_option maxRecDepth 65536 in
set_option maxHeartbeats 40000000 in
theorem rm_i (l : Launch) (Z : State) (a0 : Array Value) (hw : ∀ d ∈ tables_1, d.before a0 Z = true) (a1 : Addr) (p2 : Int32) (nn : Nat) (h0 : Heap) (E_a1 : Exa Z h0 a1 "com/example/lamina/lamina/table/Block") (F_longs_a1 : Fld Z h0 a1 "com/example/lamina/lamina/table/Block" "longs" "[[J" .null) (F_text_a1 : Fld Z h0 a1 "com/example/lamina/lamina/table/Block" "text" "[Lcom/example/lamina/lamina/table/TextVector;" .null) (F_rows_a1 : Fld Z h0 a1 "com/example/lamina/lamina/table/Block" "rows" "I" (.int (0 : Int32))) (hn : p2.toInt = (nn : Int)) (hn4 : nn ≤ 4) :
    Met l Z (⟨"com/example/lamina/lamina/table/Block", "<init>", "(I)V"⟩ : MethodName) prog_60_method_1_code 2 none [] ({ frames := 1, cells := 2, slots := 8, locals := 12 } : Room) #[(.ref a1), (.int p2)] [a1] h0 (fun v h => v = none ∧ ∃ (al : Addr) (cA : ClassId), h0.size ≤ al ∧ Fld Z h a1 "com/example/lamina/lamina/table/Block" "longs" "[[J" (.ref al) ∧ Fld Z h a1 "com/example/lamina/lamina/table/Block" "rows" "I" (.int (0 : Int32)) ∧ ArC Z h al (.array .long) nn (fun _ => .null) cA ∧ OvrA Z cA .long "[J") := by
  refine Met.mk pn_i (ef_i a1 p2) ?_
  intro C T hs0 O
  show Go C [a1] (fun v h => v = none ∧ ∃ (al : Addr) (cA : ClassId), h0.size ≤ al ∧ Fld Z h a1 "com/example/lamina/lamina/table/Block" "longs" "[[J" (.ref al) ∧ Fld Z h a1 "com/example/lamina/lamina/table/Block" "rows" "I" (.int (0 : Int32)) ∧ ArC Z h al (.array .long) nn (fun _ => .null) cA ∧ OvrA Z cA .long "[J") 2 8 (T.setTop (mkF C.m 0 #[.val (.ref a1), .val (.int p2)] []))
  refine Jvm.OwnW.aloadN O di_0 rfl rfl (q := 1) rfl ?_
  refine Jvm.OwnW.initO O di_1 (hw _ (List.mem_of_getElem? (i := 7) rfl)) (hw _ (List.mem_of_getElem? (i := 8) rfl)) (hw _ (List.mem_of_getElem? (i := 9) rfl)) rfl (by decide) (W := 0) (Nat.le_of_eq rfl) (by decide) (q := 4) rfl ?_
  intro T1 O1
  refine Jvm.OwnW.aloadN O1 di_4 rfl rfl (q := 5) rfl ?_
  refine Jvm.OwnW.iloadN O1 di_5 rfl (q := 6) rfl ?_
  refine Jvm.OwnW.newRR O1 di_6 (ty := .long) (K0 := "[J") (ad := "[[J") (by decide) (by decide) (hw _ (List.mem_of_getElem? (i := 10) rfl)) (hw _ (List.mem_of_getElem? (i := 11) rfl)) (N := nn) hn (cap := 4) hn4 (by decide) (c2 := 1) (s2 := 4) rfl rfl (by decide) (by decide) (q := 9) rfl ?_
  intro nb2 T2 h2 c2 g2 N2 O2 X2 V_nb2 OV_nb2
  have ne_a1_nb2 : a1 ≠ nb2 := Nat.ne_of_lt (Nat.lt_of_lt_of_le E_a1.lt (Nat.le_of_eq g2.symm))
  have E_a1 := E_a1.ext X2
  have F_longs_a1 := F_longs_a1.ext X2
  have F_text_a1 := F_text_a1.ext X2
  have F_rows_a1 := F_rows_a1.ext X2
  refine Jvm.OwnW.putF O2 di_9 (host := "") (Or.inl (hw _ (List.mem_of_getElem? (i := 12) rfl))) Via.refl F_longs_a1 E_a1 (Or.inr ⟨hw _ (List.mem_of_getElem? (i := 13) rfl), rfl, rfl⟩) (hw _ (List.mem_of_getElem? (i := 2) rfl)) (ty := (.array (.array .long))) (by decide) rfl rfl (Or.inl (List.mem_cons_self ..)) (q := 12) rfl ?_
  intro T3 h3 O3 W3
  have E_a1 := E_a1.wr W3
  have F_longs_a1 := F_longs_a1.same W3
  have F_text_a1 := F_text_a1.other W3 (Or.inr (slot_ne (Or.inr (hw _ (List.mem_of_getElem? (i := 17) rfl))) (Or.inr (hw _ (List.mem_of_getElem? (i := 13) rfl))) (by decide) (t := (.array (.object "com/example/lamina/lamina/table/TextVector"))) (t' := (.array (.array .long))) (by decide) (by decide)))
  have F_rows_a1 := F_rows_a1.other W3 (Or.inr (slot_ne (Or.inl (hw _ (List.mem_of_getElem? (i := 36) rfl))) (Or.inr (hw _ (List.mem_of_getElem? (i := 13) rfl))) (by decide) (t := .int) (t' := (.array (.array .long))) (by decide) (by decide)))
  have V_nb2 := V_nb2.other W3 (Ne.symm ne_a1_nb2)
  refine Jvm.OwnW.aloadN O3 di_12 rfl rfl (q := 13) rfl ?_
  refine Jvm.OwnW.iloadN O3 di_13 rfl (q := 14) rfl ?_
  refine Jvm.OwnW.newRO O3 di_14 (hw _ (List.mem_of_getElem? (i := 14) rfl)) (hw _ (List.mem_of_getElem? (i := 15) rfl)) (N := nn) hn (cap := 4) hn4 (by decide) (c2 := 2) (s2 := 8) rfl rfl (by decide) (by decide) (q := 17) rfl ?_
  intro nb4 T4 h4 c4 g4 N4 O4 X4 V_nb4 OV_nb4
  have ne_a1_nb4 : a1 ≠ nb4 := Nat.ne_of_lt (Nat.lt_of_lt_of_le E_a1.lt (Nat.le_of_eq g4.symm))
  have ne_nb2_nb4 : nb2 ≠ nb4 := Nat.ne_of_lt (Nat.lt_of_lt_of_le V_nb2.lt (Nat.le_of_eq g4.symm))
  have E_a1 := E_a1.ext X4
  have F_longs_a1 := F_longs_a1.ext X4
  have F_text_a1 := F_text_a1.ext X4
  have F_rows_a1 := F_rows_a1.ext X4
  have V_nb2 := V_nb2.ext X4
  refine Jvm.OwnW.putF O4 di_17 (host := "") (Or.inl (hw _ (List.mem_of_getElem? (i := 16) rfl))) Via.refl F_text_a1 E_a1 (Or.inr ⟨hw _ (List.mem_of_getElem? (i := 17) rfl), rfl, rfl⟩) (hw _ (List.mem_of_getElem? (i := 2) rfl)) (ty := (.array (.object "com/example/lamina/lamina/table/TextVector"))) (by decide) rfl rfl (Or.inl (List.mem_cons_self ..)) (q := 20) rfl ?_
  intro T5 h5 O5 W5
  have E_a1 := E_a1.wr W5
  have F_longs_a1 := F_longs_a1.other W5 (Or.inr (slot_ne (Or.inr (hw _ (List.mem_of_getElem? (i := 13) rfl))) (Or.inr (hw _ (List.mem_of_getElem? (i := 17) rfl))) (by decide) (t := (.array (.array .long))) (t' := (.array (.object "com/example/lamina/lamina/table/TextVector"))) (by decide) (by decide)))
  have F_text_a1 := F_text_a1.same W5
  have F_rows_a1 := F_rows_a1.other W5 (Or.inr (slot_ne (Or.inl (hw _ (List.mem_of_getElem? (i := 36) rfl))) (Or.inr (hw _ (List.mem_of_getElem? (i := 17) rfl))) (by decide) (t := .int) (t' := (.array (.object "com/example/lamina/lamina/table/TextVector"))) (by decide) (by decide)))
  have V_nb2 := V_nb2.other W5 (Ne.symm ne_a1_nb2)
  have V_nb4 := V_nb4.other W5 (Ne.symm ne_a1_nb4)
  exact Jvm.OwnW.ret0 O5 di_20 (by decide) (by decide) ⟨rfl, nb2, _, hs0 ▸ N2, F_longs_a1, F_rows_a1, V_nb2, OV_nb2⟩
theorem df0_0 : decode prog_60_method_8_code 0 = .ok (.aload_n 0, 1) := by decide +kernel
theorem df0_1 : decode prog_60_method_8_code 1 = .ok (.getfield 9, 3) := by decide +kernel
theorem df0_4 : decode prog_60_method_8_code 4 = .ok (.iload_n 1, 1) := by decide +kernel
theorem df0_5 : decode prog_60_method_8_code 5 = .ok (.aaload, 1) := by decide +kernel
theorem df0_6 : decode prog_60_method_8_code 6 = .ok (.ifnull 14, 3) := by decide +kernel
theorem df0_20 : decode prog_60_method_8_code 20 = .ok (.aload_n 0, 1) := by decide +kernel
theorem df0_21 : decode prog_60_method_8_code 21 = .ok (.getfield 9, 3) := by decide +kernel
theorem df0_24 : decode prog_60_method_8_code 24 = .ok (.iload_n 1, 1) := by decide +kernel
theorem df0_25 : decode prog_60_method_8_code 25 = .ok (.iload_n 2, 1) := by decide +kernel
theorem df0_26 : decode prog_60_method_8_code 26 = .ok (.newarray .long, 2) := by decide +kernel
theorem df0_28 : decode prog_60_method_8_code 28 = .ok (.aastore, 1) := by decide +kernel
theorem df0_29 : decode prog_60_method_8_code 29 = .ok (.aload_n 0, 1) := by decide +kernel
theorem df0_30 : decode prog_60_method_8_code 30 = .ok (.getfield 9, 3) := by decide +kernel
theorem df0_33 : decode prog_60_method_8_code 33 = .ok (.iload_n 1, 1) := by decide +kernel
theorem df0_34 : decode prog_60_method_8_code 34 = .ok (.aaload, 1) := by decide +kernel
theorem df0_35 : decode prog_60_method_8_code 35 = .ok (.areturn, 1) := by decide +kernel
theorem ef_f0 (a1 : Addr) (p2 : Int32) (p3 : Int32) (al : Addr) (m : MethodId) : entryFrame m #[(.ref a1), (.int p2), (.int p3)] 3 = mkF m 0 #[.val (.ref a1), .val (.int p2), .val (.int p3)] [] := by first | (simp [entryFrame, mkF, argsToLocals, Value.category, maxLocals]; done) | rfl
theorem pn_f0 : plainFor (⟨"com/example/lamina/lamina/table/Block", "longsForRows", "(II)[J"⟩ : MethodName) = true := by first | exact plainFor_of_name (by first | (simp [plainName, overriddenIn]; done) | decide +kernel) | decide +kernel
set_option maxRecDepth 65536 in
set_option maxHeartbeats 40000000 in
theorem rm_f0 (l : Launch) (Z : State) (a0 : Array Value) (hw : ∀ d ∈ tables_1, d.before a0 Z = true) (a1 : Addr) (p2 : Int32) (p3 : Int32) (al : Addr) (nn cn : Nat) (f : Nat → Value) (cA : ClassId) (rn : Nat) (h0 : Heap) (E_a1 : Exa Z h0 a1 "com/example/lamina/lamina/table/Block") (F_longs_a1 : Fld Z h0 a1 "com/example/lamina/lamina/table/Block" "longs" "[[J" (.ref al)) (V_al : ArC Z h0 al (.array .long) nn f cA) (hc : p2.toInt = (cn : Int)) (hcn : cn < nn) (n1a : a1 ≠ al) (OV : OvrA Z cA .long "[J") (hr : p3.toInt = (rn : Int)) (hr7 : rn ≤ 7) (hf : f cn = .null) :
    Met l Z (⟨"com/example/lamina/lamina/table/Block", "longsForRows", "(II)[J"⟩ : MethodName) prog_60_method_8_code 3 (some (.array .long)) [] ({ frames := 0, cells := 1, slots := 7, locals := 0 } : Room) #[(.ref a1), (.int p2), (.int p3)] [al] h0 (fun v h => ∃ x, v = some (.ref x) ∧ h0.size ≤ x ∧ Ar Z h x .long rn (fun _ => .long (0 : Int64)) ∧ Exa Z h x "[J" ∧ ArC Z h al (.array .long) nn (updV f cn (.ref x)) cA) := by
  refine Met.mk pn_f0 (ef_f0 a1 p2 p3 al) ?_
  intro C T hs0 O
  show Go C [al] (fun v h => ∃ x, v = some (.ref x) ∧ h0.size ≤ x ∧ Ar Z h x .long rn (fun _ => .long (0 : Int64)) ∧ Exa Z h x "[J" ∧ ArC Z h al (.array .long) nn (updV f cn (.ref x)) cA) 1 7 (T.setTop (mkF C.m 0 #[.val (.ref a1), .val (.int p2), .val (.int p3)] []))
  refine Jvm.OwnW.aloadN O df0_0 rfl rfl (q := 1) rfl ?_
  refine Jvm.OwnW.getF O df0_1 (host := "") (Or.inl (hw _ (List.mem_of_getElem? (i := 12) rfl))) Via.refl F_longs_a1 (q := 4) rfl ?_
  intro T1 O1
  refine Jvm.OwnW.iloadN O1 df0_4 rfl (q := 5) rfl ?_
  refine Jvm.OwnW.aalA O1 df0_5 V_al.ar rfl (i := cn) hc hcn (v := .null) hf (q := 6) rfl ?_
  refine Jvm.OwnW.ifnullYes O1 df0_6 (by decide) (q := 20) rfl ?_
  refine Jvm.OwnW.aloadN O1 df0_20 rfl rfl (q := 21) rfl ?_
  refine Jvm.OwnW.getF O1 df0_21 (host := "") (Or.inl (hw _ (List.mem_of_getElem? (i := 12) rfl))) Via.refl F_longs_a1 (q := 24) rfl ?_
  intro T2 O2
  refine Jvm.OwnW.iloadN O2 df0_24 rfl (q := 25) rfl ?_
  refine Jvm.OwnW.iloadN O2 df0_25 rfl (q := 26) rfl ?_
  refine Jvm.OwnW.newAE O2 df0_26 (ty := .long) rfl (ad := "[J") (by decide) (hw _ (List.mem_of_getElem? (i := 23) rfl)) (N := rn) hr (cap := 7) hr7 (by decide) (c2 := 1) (s2 := 7) rfl rfl (by decide) (by decide) (q := 28) rfl ?_
  intro nb3 T3 h3 g3 N3 O3 X3 V_nb3 E_nb3
  have ne_a1_nb3 : a1 ≠ nb3 := Nat.ne_of_lt (Nat.lt_of_lt_of_le E_a1.lt (Nat.le_of_eq g3.symm))
  have ne_al_nb3 : al ≠ nb3 := Nat.ne_of_lt (Nat.lt_of_lt_of_le V_al.lt (Nat.le_of_eq g3.symm))
  have E_a1 := E_a1.ext X3
  have F_longs_a1 := F_longs_a1.ext X3
  have V_al := V_al.ext X3
  refine Jvm.OwnW.aasRR O3 df0_28 V_al OV (Ins.self E_nb3) (i := cn) hc hcn (Or.inl (List.mem_cons_self ..)) (q := 29) rfl ?_
  intro T4 h4 O4 W4
  have V_al := V_al.set W4 hcn
  have E_a1 := E_a1.wr W4
  have F_longs_a1 := F_longs_a1.other W4 (Or.inl n1a)
  have E_nb3 := E_nb3.wr W4
  have V_nb3 := V_nb3.other W4 (Ne.symm ne_al_nb3)
  refine Jvm.OwnW.aloadN O4 df0_29 rfl rfl (q := 30) rfl ?_
  refine Jvm.OwnW.getF O4 df0_30 (host := "") (Or.inl (hw _ (List.mem_of_getElem? (i := 12) rfl))) Via.refl F_longs_a1 (q := 33) rfl ?_
  intro T5 O5
  refine Jvm.OwnW.iloadN O5 df0_33 rfl (q := 34) rfl ?_
  refine Jvm.OwnW.aalA O5 df0_34 V_al.ar rfl (i := cn) hc hcn (v := (.ref nb3)) (if_pos rfl) (q := 35) rfl ?_
  exact Jvm.OwnW.retA O5 df0_35 rfl rfl (by first | rfl | (cases ((.ref nb3)) <;> rfl)) (by decide) (by decide) ⟨_, rfl, hs0 ▸ N3, V_nb3, E_nb3, V_al⟩
theorem df1_0 : decode prog_60_method_8_code 0 = .ok (.aload_n 0, 1) := by decide +kernel
theorem df1_1 : decode prog_60_method_8_code 1 = .ok (.getfield 9, 3) := by decide +kernel
theorem df1_4 : decode prog_60_method_8_code 4 = .ok (.iload_n 1, 1) := by decide +kernel
theorem df1_5 : decode prog_60_method_8_code 5 = .ok (.aaload, 1) := by decide +kernel
theorem df1_6 : decode prog_60_method_8_code 6 = .ok (.ifnull 14, 3) := by decide +kernel
theorem df1_9 : decode prog_60_method_8_code 9 = .ok (.aload_n 0, 1) := by decide +kernel
theorem df1_10 : decode prog_60_method_8_code 10 = .ok (.getfield 9, 3) := by decide +kernel
theorem df1_13 : decode prog_60_method_8_code 13 = .ok (.iload_n 1, 1) := by decide +kernel
theorem df1_14 : decode prog_60_method_8_code 14 = .ok (.aaload, 1) := by decide +kernel
theorem df1_15 : decode prog_60_method_8_code 15 = .ok (.arraylength, 1) := by decide +kernel
theorem df1_16 : decode prog_60_method_8_code 16 = .ok (.iload_n 2, 1) := by decide +kernel
theorem df1_17 : decode prog_60_method_8_code 17 = .ok (.if_icmp .ge 12, 3) := by decide +kernel
theorem df1_20 : decode prog_60_method_8_code 20 = .ok (.aload_n 0, 1) := by decide +kernel
theorem df1_21 : decode prog_60_method_8_code 21 = .ok (.getfield 9, 3) := by decide +kernel
theorem df1_24 : decode prog_60_method_8_code 24 = .ok (.iload_n 1, 1) := by decide +kernel
theorem df1_25 : decode prog_60_method_8_code 25 = .ok (.iload_n 2, 1) := by decide +kernel
theorem df1_26 : decode prog_60_method_8_code 26 = .ok (.newarray .long, 2) := by decide +kernel
theorem df1_28 : decode prog_60_method_8_code 28 = .ok (.aastore, 1) := by decide +kernel
theorem df1_29 : decode prog_60_method_8_code 29 = .ok (.aload_n 0, 1) := by decide +kernel
theorem df1_30 : decode prog_60_method_8_code 30 = .ok (.getfield 9, 3) := by decide +kernel
theorem df1_33 : decode prog_60_method_8_code 33 = .ok (.iload_n 1, 1) := by decide +kernel
theorem df1_34 : decode prog_60_method_8_code 34 = .ok (.aaload, 1) := by decide +kernel
theorem df1_35 : decode prog_60_method_8_code 35 = .ok (.areturn, 1) := by decide +kernel
theorem ef_f1 (a1 : Addr) (p2 : Int32) (p3 : Int32) (al : Addr) (y : Addr) (zy : Int32) (m : MethodId) : entryFrame m #[(.ref a1), (.int p2), (.int p3)] 3 = mkF m 0 #[.val (.ref a1), .val (.int p2), .val (.int p3)] [] := by first | (simp [entryFrame, mkF, argsToLocals, Value.category, maxLocals]; done) | rfl
theorem pn_f1 : plainFor (⟨"com/example/lamina/lamina/table/Block", "longsForRows", "(II)[J"⟩ : MethodName) = true := by first | exact plainFor_of_name (by first | (simp [plainName, overriddenIn]; done) | decide +kernel) | decide +kernel
set_option maxRecDepth 65536 in
set_option maxHeartbeats 40000000 in
theorem rm_f1 (l : Launch) (Z : State) (a0 : Array Value) (hw : ∀ d ∈ tables_1, d.before a0 Z = true) (a1 : Addr) (p2 : Int32) (p3 : Int32) (al : Addr) (nn cn : Nat) (f : Nat → Value) (cA : ClassId) (rn : Nat) (y : Addr) (ly : Nat) (fy : Nat → Value) (zy : Int32) (h0 : Heap) (E_a1 : Exa Z h0 a1 "com/example/lamina/lamina/table/Block") (F_longs_a1 : Fld Z h0 a1 "com/example/lamina/lamina/table/Block" "longs" "[[J" (.ref al)) (V_al : ArC Z h0 al (.array .long) nn f cA) (hc : p2.toInt = (cn : Int)) (hcn : cn < nn) (V_y : Ar Z h0 y .long ly fy) (hzy : zy.toInt = (ly : Int)) (nya : y ≠ al) (n1a : a1 ≠ al) (OV : OvrA Z cA .long "[J") (hr : p3.toInt = (rn : Int)) (hr7 : rn ≤ 7) (hf : f cn = .ref y) (hlt : ly < rn) :
    Met l Z (⟨"com/example/lamina/lamina/table/Block", "longsForRows", "(II)[J"⟩ : MethodName) prog_60_method_8_code 3 (some (.array .long)) [] ({ frames := 0, cells := 1, slots := 7, locals := 0 } : Room) #[(.ref a1), (.int p2), (.int p3)] [al] h0 (fun v h => ∃ x, v = some (.ref x) ∧ h0.size ≤ x ∧ Ar Z h x .long rn (fun _ => .long (0 : Int64)) ∧ Exa Z h x "[J" ∧ ArC Z h al (.array .long) nn (updV f cn (.ref x)) cA) := by
  refine Met.mk pn_f1 (ef_f1 a1 p2 p3 al y zy) ?_
  intro C T hs0 O
  show Go C [al] (fun v h => ∃ x, v = some (.ref x) ∧ h0.size ≤ x ∧ Ar Z h x .long rn (fun _ => .long (0 : Int64)) ∧ Exa Z h x "[J" ∧ ArC Z h al (.array .long) nn (updV f cn (.ref x)) cA) 1 7 (T.setTop (mkF C.m 0 #[.val (.ref a1), .val (.int p2), .val (.int p3)] []))
  refine Jvm.OwnW.aloadN O df1_0 rfl rfl (q := 1) rfl ?_
  refine Jvm.OwnW.getF O df1_1 (host := "") (Or.inl (hw _ (List.mem_of_getElem? (i := 12) rfl))) Via.refl F_longs_a1 (q := 4) rfl ?_
  intro T1 O1
  refine Jvm.OwnW.iloadN O1 df1_4 rfl (q := 5) rfl ?_
  refine Jvm.OwnW.aalA O1 df1_5 V_al.ar rfl (i := cn) hc hcn (v := (.ref y)) hf (q := 6) rfl ?_
  refine Jvm.OwnW.ifnullNo O1 df1_6 (q := 9) rfl ?_
  refine Jvm.OwnW.aloadN O1 df1_9 rfl rfl (q := 10) rfl ?_
  refine Jvm.OwnW.getF O1 df1_10 (host := "") (Or.inl (hw _ (List.mem_of_getElem? (i := 12) rfl))) Via.refl F_longs_a1 (q := 13) rfl ?_
  intro T2 O2
  refine Jvm.OwnW.iloadN O2 df1_13 rfl (q := 14) rfl ?_
  refine Jvm.OwnW.aalA O2 df1_14 V_al.ar rfl (i := cn) hc hcn (v := (.ref y)) hf (q := 15) rfl ?_
  refine Jvm.OwnW.lenA O2 df1_15 V_y (z := zy) hzy (q := 16) rfl ?_
  refine Jvm.OwnW.iloadN O2 df1_16 rfl (q := 17) rfl ?_
  refine Jvm.OwnW.icmpNo O2 df1_17 (tlt (show zy < p3 from lt32 (by omega))).2.1 (q := 20) rfl ?_
  refine Jvm.OwnW.aloadN O2 df1_20 rfl rfl (q := 21) rfl ?_
  refine Jvm.OwnW.getF O2 df1_21 (host := "") (Or.inl (hw _ (List.mem_of_getElem? (i := 12) rfl))) Via.refl F_longs_a1 (q := 24) rfl ?_
  intro T3 O3
  refine Jvm.OwnW.iloadN O3 df1_24 rfl (q := 25) rfl ?_
  refine Jvm.OwnW.iloadN O3 df1_25 rfl (q := 26) rfl ?_
  refine Jvm.OwnW.newAE O3 df1_26 (ty := .long) rfl (ad := "[J") (by decide) (hw _ (List.mem_of_getElem? (i := 23) rfl)) (N := rn) hr (cap := 7) hr7 (by decide) (c2 := 1) (s2 := 7) rfl rfl (by decide) (by decide) (q := 28) rfl ?_
  intro nb4 T4 h4 g4 N4 O4 X4 V_nb4 E_nb4
  have ne_a1_nb4 : a1 ≠ nb4 := Nat.ne_of_lt (Nat.lt_of_lt_of_le E_a1.lt (Nat.le_of_eq g4.symm))
  have ne_al_nb4 : al ≠ nb4 := Nat.ne_of_lt (Nat.lt_of_lt_of_le V_al.lt (Nat.le_of_eq g4.symm))
  have ne_y_nb4 : y ≠ nb4 := Nat.ne_of_lt (Nat.lt_of_lt_of_le V_y.lt (Nat.le_of_eq g4.symm))
  have E_a1 := E_a1.ext X4
  have F_longs_a1 := F_longs_a1.ext X4
  have V_al := V_al.ext X4
  have V_y := V_y.ext X4
  refine Jvm.OwnW.aasRR O4 df1_28 V_al OV (Ins.self E_nb4) (i := cn) hc hcn (Or.inl (List.mem_cons_self ..)) (q := 29) rfl ?_
  intro T5 h5 O5 W5
  have V_al := V_al.set W5 hcn
  have E_a1 := E_a1.wr W5
  have F_longs_a1 := F_longs_a1.other W5 (Or.inl n1a)
  have V_y := V_y.other W5 nya
  have E_nb4 := E_nb4.wr W5
  have V_nb4 := V_nb4.other W5 (Ne.symm ne_al_nb4)
  refine Jvm.OwnW.aloadN O5 df1_29 rfl rfl (q := 30) rfl ?_
  refine Jvm.OwnW.getF O5 df1_30 (host := "") (Or.inl (hw _ (List.mem_of_getElem? (i := 12) rfl))) Via.refl F_longs_a1 (q := 33) rfl ?_
  intro T6 O6
  refine Jvm.OwnW.iloadN O6 df1_33 rfl (q := 34) rfl ?_
  refine Jvm.OwnW.aalA O6 df1_34 V_al.ar rfl (i := cn) hc hcn (v := (.ref nb4)) (if_pos rfl) (q := 35) rfl ?_
  exact Jvm.OwnW.retA O6 df1_35 rfl rfl (by first | rfl | (cases ((.ref nb4)) <;> rfl)) (by decide) (by decide) ⟨_, rfl, hs0 ▸ N4, V_nb4, E_nb4, V_al⟩
theorem df2_0 : decode prog_60_method_8_code 0 = .ok (.aload_n 0, 1) := by decide +kernel
theorem df2_1 : decode prog_60_method_8_code 1 = .ok (.getfield 9, 3) := by decide +kernel
theorem df2_4 : decode prog_60_method_8_code 4 = .ok (.iload_n 1, 1) := by decide +kernel
theorem df2_5 : decode prog_60_method_8_code 5 = .ok (.aaload, 1) := by decide +kernel
theorem df2_6 : decode prog_60_method_8_code 6 = .ok (.ifnull 14, 3) := by decide +kernel
theorem df2_9 : decode prog_60_method_8_code 9 = .ok (.aload_n 0, 1) := by decide +kernel
theorem df2_10 : decode prog_60_method_8_code 10 = .ok (.getfield 9, 3) := by decide +kernel
theorem df2_13 : decode prog_60_method_8_code 13 = .ok (.iload_n 1, 1) := by decide +kernel
theorem df2_14 : decode prog_60_method_8_code 14 = .ok (.aaload, 1) := by decide +kernel
theorem df2_15 : decode prog_60_method_8_code 15 = .ok (.arraylength, 1) := by decide +kernel
theorem df2_16 : decode prog_60_method_8_code 16 = .ok (.iload_n 2, 1) := by decide +kernel
theorem df2_17 : decode prog_60_method_8_code 17 = .ok (.if_icmp .ge 12, 3) := by decide +kernel
theorem df2_29 : decode prog_60_method_8_code 29 = .ok (.aload_n 0, 1) := by decide +kernel
theorem df2_30 : decode prog_60_method_8_code 30 = .ok (.getfield 9, 3) := by decide +kernel
theorem df2_33 : decode prog_60_method_8_code 33 = .ok (.iload_n 1, 1) := by decide +kernel
theorem df2_34 : decode prog_60_method_8_code 34 = .ok (.aaload, 1) := by decide +kernel
theorem df2_35 : decode prog_60_method_8_code 35 = .ok (.areturn, 1) := by decide +kernel
theorem ef_f2 (a1 : Addr) (p2 : Int32) (p3 : Int32) (al : Addr) (y : Addr) (zy : Int32) (m : MethodId) : entryFrame m #[(.ref a1), (.int p2), (.int p3)] 3 = mkF m 0 #[.val (.ref a1), .val (.int p2), .val (.int p3)] [] := by first | (simp [entryFrame, mkF, argsToLocals, Value.category, maxLocals]; done) | rfl
theorem pn_f2 : plainFor (⟨"com/example/lamina/lamina/table/Block", "longsForRows", "(II)[J"⟩ : MethodName) = true := by first | exact plainFor_of_name (by first | (simp [plainName, overriddenIn]; done) | decide +kernel) | decide +kernel
set_option maxRecDepth 65536 in
set_option maxHeartbeats 40000000 in
theorem rm_f2 (l : Launch) (Z : State) (a0 : Array Value) (hw : ∀ d ∈ tables_1, d.before a0 Z = true) (a1 : Addr) (p2 : Int32) (p3 : Int32) (al : Addr) (nn cn : Nat) (f : Nat → Value) (cA : ClassId) (rn : Nat) (y : Addr) (ly : Nat) (fy : Nat → Value) (zy : Int32) (h0 : Heap) (E_a1 : Exa Z h0 a1 "com/example/lamina/lamina/table/Block") (F_longs_a1 : Fld Z h0 a1 "com/example/lamina/lamina/table/Block" "longs" "[[J" (.ref al)) (V_al : ArC Z h0 al (.array .long) nn f cA) (hc : p2.toInt = (cn : Int)) (hcn : cn < nn) (V_y : Ar Z h0 y .long ly fy) (hzy : zy.toInt = (ly : Int)) (hr : p3.toInt = (rn : Int)) (hr7 : rn ≤ 7) (hf : f cn = .ref y) (hlt : rn ≤ ly) :
    Met l Z (⟨"com/example/lamina/lamina/table/Block", "longsForRows", "(II)[J"⟩ : MethodName) prog_60_method_8_code 3 (some (.array .long)) [] ({ frames := 0, cells := 0, slots := 0, locals := 0 } : Room) #[(.ref a1), (.int p2), (.int p3)] [] h0 (fun v h => v = some (.ref y)) := by
  refine Met.mk pn_f2 (ef_f2 a1 p2 p3 al y zy) ?_
  intro C T hs0 O
  show Go C [] (fun v h => v = some (.ref y)) 0 0 (T.setTop (mkF C.m 0 #[.val (.ref a1), .val (.int p2), .val (.int p3)] []))
  refine Jvm.OwnW.aloadN O df2_0 rfl rfl (q := 1) rfl ?_
  refine Jvm.OwnW.getF O df2_1 (host := "") (Or.inl (hw _ (List.mem_of_getElem? (i := 12) rfl))) Via.refl F_longs_a1 (q := 4) rfl ?_
  intro T1 O1
  refine Jvm.OwnW.iloadN O1 df2_4 rfl (q := 5) rfl ?_
  refine Jvm.OwnW.aalA O1 df2_5 V_al.ar rfl (i := cn) hc hcn (v := (.ref y)) hf (q := 6) rfl ?_
  refine Jvm.OwnW.ifnullNo O1 df2_6 (q := 9) rfl ?_
  refine Jvm.OwnW.aloadN O1 df2_9 rfl rfl (q := 10) rfl ?_
  refine Jvm.OwnW.getF O1 df2_10 (host := "") (Or.inl (hw _ (List.mem_of_getElem? (i := 12) rfl))) Via.refl F_longs_a1 (q := 13) rfl ?_
  intro T2 O2
  refine Jvm.OwnW.iloadN O2 df2_13 rfl (q := 14) rfl ?_
  refine Jvm.OwnW.aalA O2 df2_14 V_al.ar rfl (i := cn) hc hcn (v := (.ref y)) hf (q := 15) rfl ?_
  refine Jvm.OwnW.lenA O2 df2_15 V_y (z := zy) hzy (q := 16) rfl ?_
  refine Jvm.OwnW.iloadN O2 df2_16 rfl (q := 17) rfl ?_
  refine Jvm.OwnW.icmpYes O2 df2_17 (flt (show ¬ (zy < p3) from nlt32 (by omega))).2.1 (by decide) (q := 29) rfl ?_
  refine Jvm.OwnW.aloadN O2 df2_29 rfl rfl (q := 30) rfl ?_
  refine Jvm.OwnW.getF O2 df2_30 (host := "") (Or.inl (hw _ (List.mem_of_getElem? (i := 12) rfl))) Via.refl F_longs_a1 (q := 33) rfl ?_
  intro T3 O3
  refine Jvm.OwnW.iloadN O3 df2_33 rfl (q := 34) rfl ?_
  refine Jvm.OwnW.aalA O3 df2_34 V_al.ar rfl (i := cn) hc hcn (v := (.ref y)) hf (q := 35) rfl ?_
  exact Jvm.OwnW.retA O3 df2_35 rfl rfl (by first | rfl | (cases ((.ref y)) <;> rfl)) (by decide) (by decide) rfl
theorem dl_0 : decode prog_60_method_4_code 0 = .ok (.aload_n 0, 1) := by decide +kernel
theorem dl_1 : decode prog_60_method_4_code 1 = .ok (.getfield 9, 3) := by decide +kernel
theorem dl_4 : decode prog_60_method_4_code 4 = .ok (.iload_n 1, 1) := by decide +kernel
theorem dl_5 : decode prog_60_method_4_code 5 = .ok (.aaload, 1) := by decide +kernel
theorem dl_6 : decode prog_60_method_4_code 6 = .ok (.areturn, 1) := by decide +kernel
theorem ef_l (a1 : Addr) (p2 : Int32) (al : Addr) (m : MethodId) : entryFrame m #[(.ref a1), (.int p2)] 2 = mkF m 0 #[.val (.ref a1), .val (.int p2)] [] := by first | (simp [entryFrame, mkF, argsToLocals, Value.category, maxLocals]; done) | rfl
theorem pn_l : plainFor (⟨"com/example/lamina/lamina/table/Block", "longs", "(I)[J"⟩ : MethodName) = true := by first | exact plainFor_of_name (by first | (simp [plainName, overriddenIn]; done) | decide +kernel) | decide +kernel
set_option maxRecDepth 65536 in
set_option maxHeartbeats 40000000 in
theorem rm_l (l : Launch) (Z : State) (a0 : Array Value) (hw : ∀ d ∈ tables_1, d.before a0 Z = true) (a1 : Addr) (p2 : Int32) (al : Addr) (nn cn : Nat) (f : Nat → Value) (cA : ClassId) (v0 : Value) (h0 : Heap) (E_a1 : Exa Z h0 a1 "com/example/lamina/lamina/table/Block") (F_longs_a1 : Fld Z h0 a1 "com/example/lamina/lamina/table/Block" "longs" "[[J" (.ref al)) (V_al : ArC Z h0 al (.array .long) nn f cA) (hc : p2.toInt = (cn : Int)) (hcn : cn < nn) (hf : f cn = v0) (hr0 : v0.isRef = true) :
    Met l Z (⟨"com/example/lamina/lamina/table/Block", "longs", "(I)[J"⟩ : MethodName) prog_60_method_4_code 2 (some (.array .long)) [] ({ frames := 0, cells := 0, slots := 0, locals := 0 } : Room) #[(.ref a1), (.int p2)] [] h0 (fun v h => v = some v0) := by
  refine Met.mk pn_l (ef_l a1 p2 al) ?_
  intro C T hs0 O
  show Go C [] (fun v h => v = some v0) 0 0 (T.setTop (mkF C.m 0 #[.val (.ref a1), .val (.int p2)] []))
  refine Jvm.OwnW.aloadN O dl_0 rfl rfl (q := 1) rfl ?_
  refine Jvm.OwnW.getF O dl_1 (host := "") (Or.inl (hw _ (List.mem_of_getElem? (i := 12) rfl))) Via.refl F_longs_a1 (q := 4) rfl ?_
  intro T1 O1
  refine Jvm.OwnW.iloadN O1 dl_4 rfl (q := 5) rfl ?_
  refine Jvm.OwnW.aalA O1 dl_5 V_al.ar rfl (i := cn) hc hcn (v := v0) hf (q := 6) rfl ?_
  exact Jvm.OwnW.retA O1 dl_6 rfl hr0 (by first | rfl | (cases (v0) <;> rfl)) (by decide) (by decide) rfl
theorem dr_0 : decode prog_60_method_2_code 0 = .ok (.aload_n 0, 1) := by decide +kernel
theorem dr_1 : decode prog_60_method_2_code 1 = .ok (.getfield 21, 3) := by decide +kernel
theorem dr_4 : decode prog_60_method_2_code 4 = .ok (.ireturn, 1) := by decide +kernel
theorem ef_r (a1 : Addr) (u : Int32) (m : MethodId) : entryFrame m #[(.ref a1)] 1 = mkF m 0 #[.val (.ref a1)] [] := by first | (simp [entryFrame, mkF, argsToLocals, Value.category, maxLocals]; done) | rfl
theorem pn_r : plainFor (⟨"com/example/lamina/lamina/table/Block", "rows", "()I"⟩ : MethodName) = true := by first | exact plainFor_of_name (by first | (simp [plainName, overriddenIn]; done) | decide +kernel) | decide +kernel
set_option maxRecDepth 65536 in
set_option maxHeartbeats 40000000 in
theorem rm_r (l : Launch) (Z : State) (a0 : Array Value) (hw : ∀ d ∈ tables_1, d.before a0 Z = true) (a1 : Addr) (u : Int32) (h0 : Heap) (E_a1 : Exa Z h0 a1 "com/example/lamina/lamina/table/Block") (F_rows_a1 : Fld Z h0 a1 "com/example/lamina/lamina/table/Block" "rows" "I" (.int u)) :
    Met l Z (⟨"com/example/lamina/lamina/table/Block", "rows", "()I"⟩ : MethodName) prog_60_method_2_code 1 (some .int) [] ({ frames := 0, cells := 0, slots := 0, locals := 0 } : Room) #[(.ref a1)] [] h0 (fun v h => v = some (.int u)) := by
  refine Met.mk pn_r (ef_r a1 u) ?_
  intro C T hs0 O
  show Go C [] (fun v h => v = some (.int u)) 0 0 (T.setTop (mkF C.m 0 #[.val (.ref a1)] []))
  refine Jvm.OwnW.aloadN O dr_0 rfl rfl (q := 1) rfl ?_
  refine Jvm.OwnW.getF O dr_1 (host := "") (Or.inl (hw _ (List.mem_of_getElem? (i := 35) rfl))) Via.refl F_rows_a1 (q := 4) rfl ?_
  intro T1 O1
  exact Jvm.OwnW.retI O1 dr_4 rfl (by decide) (by decide) rfl
theorem ds_0 : decode prog_60_method_7_code 0 = .ok (.aload_n 0, 1) := by decide +kernel
theorem ds_1 : decode prog_60_method_7_code 1 = .ok (.getfield 9, 3) := by decide +kernel
theorem ds_4 : decode prog_60_method_7_code 4 = .ok (.iload_n 1, 1) := by decide +kernel
theorem ds_5 : decode prog_60_method_7_code 5 = .ok (.aload_n 2, 1) := by decide +kernel
theorem ds_6 : decode prog_60_method_7_code 6 = .ok (.aastore, 1) := by decide +kernel
theorem ds_7 : decode prog_60_method_7_code 7 = .ok (.return_, 1) := by decide +kernel
theorem ef_s (a1 : Addr) (p2 : Int32) (y : Addr) (al : Addr) (m : MethodId) : entryFrame m #[(.ref a1), (.int p2), (.ref y)] 3 = mkF m 0 #[.val (.ref a1), .val (.int p2), .val (.ref y)] [] := by first | (simp [entryFrame, mkF, argsToLocals, Value.category, maxLocals]; done) | rfl
theorem pn_s : plainFor (⟨"com/example/lamina/lamina/table/Block", "setLongs", "(I[J)V"⟩ : MethodName) = true := by first | exact plainFor_of_name (by first | (simp [plainName, overriddenIn]; done) | decide +kernel) | decide +kernel
set_option maxRecDepth 65536 in
set_option maxHeartbeats 40000000 in
theorem rm_s (l : Launch) (Z : State) (a0 : Array Value) (hw : ∀ d ∈ tables_1, d.before a0 Z = true) (a1 : Addr) (p2 : Int32) (y : Addr) (al : Addr) (nn cn : Nat) (f : Nat → Value) (cA : ClassId) (h0 : Heap) (E_a1 : Exa Z h0 a1 "com/example/lamina/lamina/table/Block") (F_longs_a1 : Fld Z h0 a1 "com/example/lamina/lamina/table/Block" "longs" "[[J" (.ref al)) (V_al : ArC Z h0 al (.array .long) nn f cA) (hc : p2.toInt = (cn : Int)) (hcn : cn < nn) (E_y : Exa Z h0 y "[J") (OV : OvrA Z cA .long "[J") (n1a : a1 ≠ al) :
    Met l Z (⟨"com/example/lamina/lamina/table/Block", "setLongs", "(I[J)V"⟩ : MethodName) prog_60_method_7_code 3 none [] ({ frames := 0, cells := 0, slots := 0, locals := 0 } : Room) #[(.ref a1), (.int p2), (.ref y)] [al] h0 (fun v h => v = none ∧ ArC Z h al (.array .long) nn (updV f cn (.ref y)) cA) := by
  refine Met.mk pn_s (ef_s a1 p2 y al) ?_
  intro C T hs0 O
  show Go C [al] (fun v h => v = none ∧ ArC Z h al (.array .long) nn (updV f cn (.ref y)) cA) 0 0 (T.setTop (mkF C.m 0 #[.val (.ref a1), .val (.int p2), .val (.ref y)] []))
  refine Jvm.OwnW.aloadN O ds_0 rfl rfl (q := 1) rfl ?_
  refine Jvm.OwnW.getF O ds_1 (host := "") (Or.inl (hw _ (List.mem_of_getElem? (i := 12) rfl))) Via.refl F_longs_a1 (q := 4) rfl ?_
  intro T1 O1
  refine Jvm.OwnW.iloadN O1 ds_4 rfl (q := 5) rfl ?_
  refine Jvm.OwnW.aloadN O1 ds_5 rfl rfl (q := 6) rfl ?_
  refine Jvm.OwnW.aasRR O1 ds_6 V_al OV (Ins.self E_y) (i := cn) hc hcn (Or.inl (List.mem_cons_self ..)) (q := 7) rfl ?_
  intro T2 h2 O2 W2
  have V_al := V_al.set W2 hcn
  have E_a1 := E_a1.wr W2
  have F_longs_a1 := F_longs_a1.other W2 (Or.inl n1a)
  have E_y := E_y.wr W2
  exact Jvm.OwnW.ret0 O2 ds_7 (by decide) (by decide) ⟨rfl, V_al⟩
theorem own_other {f : Nat → Value} {i j : Nat} {v w : Value} (hne : j ≠ i) (h : f j = w) : updV f i v j = w := by rw [updV, if_neg hne]; exact h
theorem own_n (x : Int32) : ∃ n : Nat, (1 + (x &&& 3) : Int32).toInt = (n : Int) ∧ 1 ≤ n ∧ n ≤ 4 := by
  have h := c_mask x 3 2 (by decide) (by decide)
  have h1 : (1 : Int32).toInt = 1 := rfl
  have h2 : (1 + (x &&& 3) : Int32).toInt = 1 + (x &&& 3).toInt := by rw [add32 (by omega) (by omega), h1]
  exact ⟨(1 + (x &&& 3) : Int32).toInt.toNat, by omega, by omega, by omega⟩
theorem own_7 (x : Int32) : ∃ n : Nat, (x &&& 7).toInt = (n : Int) ∧ n ≤ 7 := by
  have h := c_mask x 7 3 (by decide) (by decide)
  exact ⟨(x &&& 7).toInt.toNat, by omega, by omega⟩
theorem own_d (c n : Int32) (cn nn : Nat) (hc : c.toInt = (cn : Int)) (hn : n.toInt = (nn : Int)) (h1 : cn < nn) (h4 : nn ≤ 4) : ((c + 1) % n).toInt = (((cn + 1) % nn : Nat) : Int) := by
  have e := inc32 hc (by omega)
  rw [(c_irem (c + 1) n nn hn).1 (by omega), e]; rfl
theorem pd_0 : parseMethodDescriptor "(I)V" = some ⟨[.int], none⟩ := by decide +kernel
theorem pd_1 : parseMethodDescriptor "(II)[J" = some ⟨[.int, .int], some (.array .long)⟩ := by decide +kernel
theorem pd_2 : parseMethodDescriptor "(I)[J" = some ⟨[.int], some (.array .long)⟩ := by decide +kernel
theorem pd_3 : parseMethodDescriptor "()I" = some ⟨[], some .int⟩ := by decide +kernel
theorem pd_4 : parseMethodDescriptor "(I[J)V" = some ⟨[.int, (.array .long)], none⟩ := by decide +kernel
theorem ef_0 (p0 : Int32) (p1 : Int32) (p2 : Int32) (p3 : Int32) (p4 : Int32) (p5 : Int64) (m : MethodId) : entryFrame m #[(.int p0), (.int p1), (.int p2), (.int p3), (.int p4), (.long p5)] maxLocals = mkF m 0 #[.val (.int p0), .val (.int p1), .val (.int p2), .val (.int p3), .val (.int p4), .val (.long p5), .second, .unset, .unset, .unset, .unset, .unset, .unset, .unset, .unset, .unset] [] := by first | (simp [entryFrame, mkF, argsToLocals, Value.category, maxLocals]; done) | rfl
theorem pn_0 : plainFor x = true := by first | exact plainFor_of_name (by first | (simp [plainName, overriddenIn]; done) | decide +kernel) | decide +kernel
set_option maxRecDepth 65536 in
set_option maxHeartbeats 40000000 in
theorem rm_0 (l : Launch) (Z : State) (a0 : Array Value) (hw : ∀ d ∈ tables_1, d.before a0 Z = true) (wds : List Jvm.Cond) (p0 : Int32) (p1 : Int32) (p2 : Int32) (p3 : Int32) (p4 : Int32) (p5 : Int64) (h0 : Heap)  :
    Met l Z x code maxLocals ret wds room_1 #[(.int p0), (.int p1), (.int p2), (.int p3), (.int p4), (.long p5)] [] h0 (fun v h => v = some (.int 1)) := by
  refine Met.mk pn_0 (ef_0 p0 p1 p2 p3 p4 p5) ?_
  intro C T hs0 O
  show Go C [] (fun v h => v = some (.int 1)) 24 128 (T.setTop (mkF C.m 0 #[.val (.int p0), .val (.int p1), .val (.int p2), .val (.int p3), .val (.int p4), .val (.long p5), .second, .unset, .unset, .unset, .unset, .unset, .unset, .unset, .unset, .unset] []))
  refine Jvm.OwnW.iconst O at_0 (r := (1 : Int32)) rfl (q := 1) rfl ?_
  refine Jvm.OwnW.iloadN O at_1 rfl (q := 2) rfl ?_
  refine Jvm.OwnW.iconst O at_2 (r := (3 : Int32)) rfl (q := 3) rfl ?_
  refine Jvm.OwnW.iand O at_3 rfl (q := 4) rfl ?_
  obtain ⟨n, hn⟩ : ∃ zz_, ((1 : Int32) + (p0 &&& (3 : Int32))) = zz_ := ⟨_, rfl⟩
  refine Jvm.OwnW.iadd O at_4 hn (q := 5) rfl ?_
  obtain ⟨nn, hnn, hn1, hn4⟩ := own_n p0
  rw [hn] at hnn
  refine Jvm.OwnW.istore O at_5 (L' := #[.val (.int p0), .val (.int p1), .val (.int p2), .val (.int p3), .val (.int p4), .val (.long p5), .second, .val (.int n), .unset, .unset, .unset, .unset, .unset, .unset, .unset, .unset]) rfl (q := 7) rfl ?_
  refine Jvm.OwnW.iloadN O at_7 rfl (q := 8) rfl ?_
  refine Jvm.OwnW.ldcI O at_8 (hw _ (List.mem_of_getElem? (i := 0) rfl)) (q := 10) rfl ?_
  refine Jvm.OwnW.iand O at_10 rfl (q := 11) rfl ?_
  refine Jvm.OwnW.iload O at_11 rfl (q := 13) rfl ?_
  obtain ⟨col, hcol⟩ : ∃ zz_, ((p1 &&& (2147483647 : Int32)) % n) = zz_ := ⟨_, rfl⟩
  refine Jvm.OwnW.irem O at_13 (ne0_32 (by omega)) hcol (q := 14) rfl ?_
  obtain ⟨cn, hcn', hcn0⟩ := rem_in p1 n (by omega)
  rw [hcol] at hcn'
  have hcn : cn < nn := by omega
  refine Jvm.OwnW.istore O at_14 (L' := #[.val (.int p0), .val (.int p1), .val (.int p2), .val (.int p3), .val (.int p4), .val (.long p5), .second, .val (.int n), .val (.int col), .unset, .unset, .unset, .unset, .unset, .unset, .unset]) rfl (q := 16) rfl ?_
  refine Jvm.OwnW.iloadN O at_16 rfl (q := 17) rfl ?_
  refine Jvm.OwnW.bipush O at_17 (r := (7 : Int32)) rfl (q := 19) rfl ?_
  obtain ⟨len, hlen⟩ : ∃ zz_, (p3 &&& (7 : Int32)) = zz_ := ⟨_, rfl⟩
  refine Jvm.OwnW.iand O at_19 hlen (q := 20) rfl ?_
  obtain ⟨ln, hln, hl7⟩ := own_7 p3
  rw [hlen] at hln
  refine Jvm.OwnW.istore O at_20 (L' := #[.val (.int p0), .val (.int p1), .val (.int p2), .val (.int p3), .val (.int p4), .val (.long p5), .second, .val (.int n), .val (.int col), .val (.int len), .unset, .unset, .unset, .unset, .unset, .unset]) rfl (q := 22) rfl ?_
  refine Jvm.OwnW.iload O at_22 rfl (q := 24) rfl ?_
  refine Jvm.OwnW.bipush O at_24 (r := (7 : Int32)) rfl (q := 26) rfl ?_
  obtain ⟨r, hr⟩ : ∃ zz_, (p4 &&& (7 : Int32)) = zz_ := ⟨_, rfl⟩
  refine Jvm.OwnW.iand O at_26 hr (q := 27) rfl ?_
  obtain ⟨rn, hrn, hr7⟩ := own_7 p4
  rw [hr] at hrn
  refine Jvm.OwnW.istore O at_27 (L' := #[.val (.int p0), .val (.int p1), .val (.int p2), .val (.int p3), .val (.int p4), .val (.long p5), .second, .val (.int n), .val (.int col), .val (.int len), .val (.int r), .unset, .unset, .unset, .unset, .unset]) rfl (q := 29) rfl ?_
  refine Jvm.OwnW.iloadN O at_29 rfl (q := 30) rfl ?_
  refine Jvm.OwnW.iconst O at_30 (r := (1 : Int32)) rfl (q := 31) rfl ?_
  refine Jvm.OwnW.iand O at_31 rfl (q := 32) rfl ?_
  by_cases hc32 : (p2 &&& (1 : Int32)) = (0 : Int32)
  · refine Jvm.OwnW.ifYes O at_32 (teq0 hc32).1 (by decide) (q := 39) rfl ?_
    refine Jvm.OwnW.iconst O at_39 (r := (0 : Int32)) rfl (q := 40) rfl ?_
    refine Jvm.OwnW.istore O at_40 (L' := #[.val (.int p0), .val (.int p1), .val (.int p2), .val (.int p3), .val (.int p4), .val (.long p5), .second, .val (.int n), .val (.int col), .val (.int len), .val (.int r), .val (.int (0 : Int32)), .unset, .unset, .unset, .unset]) rfl (q := 42) rfl ?_
    refine Jvm.OwnW.newO O at_42 (hw _ (List.mem_of_getElem? (i := 1) rfl)) (hw _ (List.mem_of_getElem? (i := 2) rfl)) (hw _ (List.mem_of_getElem? (i := 3) rfl)) (c2 := 1) (s2 := 3) rfl rfl (by decide) (by decide) (q := 45) rfl ?_
    intro a1 T1 h1 g1 N1 O1 X1 E_a1 D1
    have F_longs_a1 : Fld Z h1 a1 "com/example/lamina/lamina/table/Block" "longs" "[[J" .null := D1 (Or.inr (hw _ (List.mem_of_getElem? (i := 13) rfl))) (ty := (.array (.array .long))) (by decide)
    have F_text_a1 : Fld Z h1 a1 "com/example/lamina/lamina/table/Block" "text" "[Lcom/example/lamina/lamina/table/TextVector;" .null := D1 (Or.inr (hw _ (List.mem_of_getElem? (i := 17) rfl))) (ty := (.array (.object "com/example/lamina/lamina/table/TextVector"))) (by decide)
    have F_rows_a1 : Fld Z h1 a1 "com/example/lamina/lamina/table/Block" "rows" "I" (.int (0 : Int32)) := D1 (Or.inl (hw _ (List.mem_of_getElem? (i := 36) rfl))) (ty := .int) (by decide)
    refine Jvm.OwnW.dup O1 at_45 rfl (q := 46) rfl ?_
    refine Jvm.OwnW.iload O1 at_46 rfl (q := 48) rfl ?_
    have lt_a1 := E_a1.lt
    refine Jvm.OwnW.callI O1 (y := (⟨"com/example/lamina/lamina/table/Block", "<init>", "(I)V"⟩ : MethodName)) (a := a1) (argsL := [(.int n)]) (rest := [(.ref a1)]) at_48 rfl (hw _ (List.mem_of_getElem? (i := 4) rfl)) (hw _ (List.mem_of_getElem? (i := 5) rfl)) (hw _ (List.mem_of_getElem? (i := 3) rfl)) (hw _ (List.mem_of_getElem? (i := 6) rfl)) (by decide) (rm_i l Z a0 hw a1 n nn h1 E_a1 F_longs_a1 F_text_a1 F_rows_a1 hnn hn4) rfl pd_0 rfl (hst := rfl) (W := 1) (Nat.le_of_eq rfl) (by decide) (by decide) (c2 := 3) (s2 := 11) rfl rfl (by decide) (by decide) (allS (Or.inr N1) all0) (q := 51) rfl ?_
    intro v2 T2 h2 O2 K2 q2
    obtain ⟨rfl, al, cA, m_al, F_longs_a1, F_rows_a1, V_al, OV_al⟩ := q2
    have E_a1 := E_a1.keep K2
    have N_al : C.s.heap.size ≤ al := Nat.le_trans O1.size m_al
    have ne_a1_al : a1 ≠ al := Nat.ne_of_lt (Nat.lt_of_lt_of_le lt_a1 m_al)
    show Go C _ _ _ _ (T2.setTop (mkF C.m 51 #[.val (.int p0), .val (.int p1), .val (.int p2), .val (.int p3), .val (.int p4), .val (.long p5), .second, .val (.int n), .val (.int col), .val (.int len), .val (.int r), .val (.int (0 : Int32)), .unset, .unset, .unset, .unset] [(.ref a1)]))
    refine Jvm.OwnW.astore O2 at_51 rfl (L' := #[.val (.int p0), .val (.int p1), .val (.int p2), .val (.int p3), .val (.int p4), .val (.long p5), .second, .val (.int n), .val (.int col), .val (.int len), .val (.int r), .val (.int (0 : Int32)), .val (.ref a1), .unset, .unset, .unset]) rfl (q := 53) rfl ?_
    refine Jvm.OwnW.aconst_null O2 at_53 (q := 54) rfl ?_
    refine Jvm.OwnW.astore O2 at_54 rfl (L' := #[.val (.int p0), .val (.int p1), .val (.int p2), .val (.int p3), .val (.int p4), .val (.long p5), .second, .val (.int n), .val (.int col), .val (.int len), .val (.int r), .val (.int (0 : Int32)), .val (.ref a1), .val .null, .unset, .unset]) rfl (q := 56) rfl ?_
    refine Jvm.OwnW.iload O2 at_56 rfl (q := 58) rfl ?_
    refine Jvm.OwnW.ifYes O2 at_58 (teq0 (show (0 : Int32) = (0 : Int32) from (by decide))).1 (by decide) (q := 96) rfl ?_
    refine Jvm.OwnW.aload O2 at_96 rfl rfl (q := 98) rfl ?_
    refine Jvm.OwnW.iload O2 at_98 rfl (q := 100) rfl ?_
    refine Jvm.OwnW.iload O2 at_100 rfl (q := 102) rfl ?_
    have lt_a1 := E_a1.lt
    have lt_al := V_al.lt
    refine Jvm.OwnW.callV O2 (y := (⟨"com/example/lamina/lamina/table/Block", "longsForRows", "(II)[J"⟩ : MethodName)) (z := (⟨"com/example/lamina/lamina/table/Block", "longsForRows", "(II)[J"⟩ : MethodName)) (a := a1) (argsL := [(.int col), (.int r)]) (rest := []) at_102 (hw _ (List.mem_of_getElem? (i := 18) rfl)) (hw _ (List.mem_of_getElem? (i := 19) rfl)) (hw _ (List.mem_of_getElem? (i := 21) rfl)) rfl (hw _ (List.mem_of_getElem? (i := 20) rfl)) (hw _ (List.mem_of_getElem? (i := 3) rfl)) (hw _ (List.mem_of_getElem? (i := 22) rfl)) (by decide) (rm_f0 l Z a0 hw a1 col r al nn cn (fun _ => .null) cA rn h2 E_a1 F_longs_a1 V_al hcn' hcn ne_a1_al OV_al hrn hr7 rfl) E_a1 rfl pd_1 rfl (hst := rfl) (W := 0) (Nat.le_of_eq rfl) (by decide) (by decide) (c2 := 4) (s2 := 18) rfl rfl (by decide) (by decide) (allS (Or.inr N_al) all0) (q := 105) rfl ?_
    intro v3 T3 h3 O3 K3 q3
    obtain ⟨xx, rfl, m_xx, V_xx, E_xx, V_al⟩ := q3
    have E_a1 := E_a1.keep K3
    have F_longs_a1 := F_longs_a1.keep K3 (ninS ne_a1_al nin0)
    have F_rows_a1 := F_rows_a1.keep K3 (ninS ne_a1_al nin0)
    have ne_a1_xx : a1 ≠ xx := Nat.ne_of_lt (Nat.lt_of_lt_of_le lt_a1 m_xx)
    show Go C _ _ _ _ (T3.setTop (mkF C.m 105 #[.val (.int p0), .val (.int p1), .val (.int p2), .val (.int p3), .val (.int p4), .val (.long p5), .second, .val (.int n), .val (.int col), .val (.int len), .val (.int r), .val (.int (0 : Int32)), .val (.ref a1), .val .null, .unset, .unset] [(.ref xx)]))
    refine Jvm.OwnW.astore O3 at_105 rfl (L' := #[.val (.int p0), .val (.int p1), .val (.int p2), .val (.int p3), .val (.int p4), .val (.long p5), .second, .val (.int n), .val (.int col), .val (.int len), .val (.int r), .val (.int (0 : Int32)), .val (.ref a1), .val .null, .val (.ref xx), .unset]) rfl (q := 107) rfl ?_
    refine Jvm.OwnW.aload O3 at_107 rfl rfl (q := 109) rfl ?_
    refine Jvm.OwnW.ifnonnullYes O3 at_109 (by decide) (q := 114) rfl ?_
    refine Jvm.OwnW.aload O3 at_114 rfl rfl (q := 116) rfl ?_
    refine Jvm.OwnW.aload O3 at_116 rfl rfl (q := 118) rfl ?_
    refine Jvm.OwnW.iload O3 at_118 rfl (q := 120) rfl ?_
    refine Jvm.OwnW.callV0 O3 (y := (⟨"com/example/lamina/lamina/table/Block", "longs", "(I)[J"⟩ : MethodName)) (z := (⟨"com/example/lamina/lamina/table/Block", "longs", "(I)[J"⟩ : MethodName)) (a := a1) (argsL := [(.int col)]) (rest := [(.ref xx)]) at_120 (hw _ (List.mem_of_getElem? (i := 25) rfl)) (hw _ (List.mem_of_getElem? (i := 26) rfl)) (hw _ (List.mem_of_getElem? (i := 28) rfl)) rfl (hw _ (List.mem_of_getElem? (i := 27) rfl)) (hw _ (List.mem_of_getElem? (i := 3) rfl)) (hw _ (List.mem_of_getElem? (i := 29) rfl)) (by decide) (rm_l l Z a0 hw a1 col al nn cn (updV (fun _ => .null) cn (.ref xx)) cA (.ref xx) h3 E_a1 F_longs_a1 V_al hcn' hcn (if_pos rfl) rfl) E_a1 rfl pd_2 rfl (hst := rfl) (W := 1) (Nat.le_of_eq rfl) (by decide) (by decide) (c2 := 4) (s2 := 18) rfl rfl (by decide) (by decide) rfl rfl (q := 123) rfl ?_
    intro v4 T4 O4 q4
    obtain rfl := q4
    show Go C _ _ _ _ (T4.setTop (mkF C.m 123 #[.val (.int p0), .val (.int p1), .val (.int p2), .val (.int p3), .val (.int p4), .val (.long p5), .second, .val (.int n), .val (.int col), .val (.int len), .val (.int r), .val (.int (0 : Int32)), .val (.ref a1), .val .null, .val (.ref xx), .unset] [(.ref xx), (.ref xx)]))
    refine Jvm.OwnW.acmp O4 at_123 rfl rfl (same := true) (decide_eq_true rfl) (by decide) (q := 128) (by decide) ?_
    refine Jvm.OwnW.aload O4 at_128 rfl rfl (q := 130) rfl ?_
    refine Jvm.OwnW.callV0 O4 (y := (⟨"com/example/lamina/lamina/table/Block", "rows", "()I"⟩ : MethodName)) (z := (⟨"com/example/lamina/lamina/table/Block", "rows", "()I"⟩ : MethodName)) (a := a1) (argsL := []) (rest := []) at_130 (hw _ (List.mem_of_getElem? (i := 30) rfl)) (hw _ (List.mem_of_getElem? (i := 31) rfl)) (hw _ (List.mem_of_getElem? (i := 33) rfl)) rfl (hw _ (List.mem_of_getElem? (i := 32) rfl)) (hw _ (List.mem_of_getElem? (i := 3) rfl)) (hw _ (List.mem_of_getElem? (i := 34) rfl)) (by decide) (rm_r l Z a0 hw a1 (0 : Int32) h3 E_a1 F_rows_a1) E_a1 rfl pd_3 rfl (hst := rfl) (W := 0) (Nat.le_of_eq rfl) (by decide) (by decide) (c2 := 4) (s2 := 18) rfl rfl (by decide) (by decide) rfl rfl (q := 133) rfl ?_
    intro v5 T5 O5 q5
    obtain rfl := q5
    show Go C _ _ _ _ (T5.setTop (mkF C.m 133 #[.val (.int p0), .val (.int p1), .val (.int p2), .val (.int p3), .val (.int p4), .val (.long p5), .second, .val (.int n), .val (.int col), .val (.int len), .val (.int r), .val (.int (0 : Int32)), .val (.ref a1), .val .null, .val (.ref xx), .unset] [(.int (0 : Int32))]))
    refine Jvm.OwnW.ifYes O5 at_133 (teq0 (show (0 : Int32) = (0 : Int32) from (by decide))).1 (by decide) (q := 138) rfl ?_
    refine Jvm.OwnW.iload O5 at_138 rfl (q := 140) rfl ?_
    refine Jvm.OwnW.iconst O5 at_140 (r := (1 : Int32)) rfl (q := 141) rfl ?_
    by_cases hc141 : (1 : Int32) < n
    · refine Jvm.OwnW.icmpNo O5 at_141 (tlt hc141).2.2.2 (q := 144) rfl ?_
      have hnn1 : 1 < nn := by rw [Int32.lt_iff_toInt_lt] at hc141; have : (1 : Int32).toInt = 1 := rfl; omega
      obtain ⟨dn, hdd⟩ : ∃ z, (cn + 1) % nn = z := ⟨_, rfl⟩
      have hdn := own_d col n cn nn hcn' hnn hcn hn4
      rw [hdd] at hdn
      have hdn' : dn < nn := by rw [← hdd]; exact Nat.mod_lt _ (by omega)
      have hne : dn ≠ cn := by
        rw [← hdd]
        rcases Nat.lt_or_ge (cn + 1) nn with q | q
        · rw [Nat.mod_eq_of_lt q]; omega
        · have : cn + 1 = nn := by omega
          rw [this, Nat.mod_self]; omega
      refine Jvm.OwnW.aload O5 at_144 rfl rfl (q := 146) rfl ?_
      refine Jvm.OwnW.iload O5 at_146 rfl (q := 148) rfl ?_
      refine Jvm.OwnW.iconst O5 at_148 (r := (1 : Int32)) rfl (q := 149) rfl ?_
      refine Jvm.OwnW.iadd O5 at_149 rfl (q := 150) rfl ?_
      refine Jvm.OwnW.iload O5 at_150 rfl (q := 152) rfl ?_
      refine Jvm.OwnW.irem O5 at_152 (ne0_32 (by omega)) rfl (q := 153) rfl ?_
      refine Jvm.OwnW.callV0 O5 (y := (⟨"com/example/lamina/lamina/table/Block", "longs", "(I)[J"⟩ : MethodName)) (z := (⟨"com/example/lamina/lamina/table/Block", "longs", "(I)[J"⟩ : MethodName)) (a := a1) (argsL := [(.int ((col + (1 : Int32)) % n))]) (rest := []) at_153 (hw _ (List.mem_of_getElem? (i := 25) rfl)) (hw _ (List.mem_of_getElem? (i := 26) rfl)) (hw _ (List.mem_of_getElem? (i := 28) rfl)) rfl (hw _ (List.mem_of_getElem? (i := 27) rfl)) (hw _ (List.mem_of_getElem? (i := 3) rfl)) (hw _ (List.mem_of_getElem? (i := 29) rfl)) (by decide) (rm_l l Z a0 hw a1 ((col + (1 : Int32)) % n) al nn dn (updV (fun _ => .null) cn (.ref xx)) cA .null h3 E_a1 F_longs_a1 V_al hdn hdn' (own_other hne rfl) rfl) E_a1 rfl pd_2 rfl (hst := rfl) (W := 0) (Nat.le_of_eq rfl) (by decide) (by decide) (c2 := 4) (s2 := 18) rfl rfl (by decide) (by decide) rfl rfl (q := 156) rfl ?_
      intro v6 T6 O6 q6
      obtain rfl := q6
      show Go C _ _ _ _ (T6.setTop (mkF C.m 156 #[.val (.int p0), .val (.int p1), .val (.int p2), .val (.int p3), .val (.int p4), .val (.long p5), .second, .val (.int n), .val (.int col), .val (.int len), .val (.int r), .val (.int (0 : Int32)), .val (.ref a1), .val .null, .val (.ref xx), .unset] [.null]))
      refine Jvm.OwnW.ifnullYes O6 at_156 (by decide) (q := 161) rfl ?_
      refine Jvm.OwnW.iload O6 at_161 rfl (q := 163) rfl ?_
      refine Jvm.OwnW.ifYes O6 at_163 (teq0 (show (0 : Int32) = (0 : Int32) from (by decide))).1 (by decide) (q := 177) rfl ?_
      refine Jvm.OwnW.iconst O6 at_177 (r := (0 : Int32)) rfl (q := 178) rfl ?_
      refine Jvm.OwnW.istore O6 at_178 (L' := #[.val (.int p0), .val (.int p1), .val (.int p2), .val (.int p3), .val (.int p4), .val (.long p5), .second, .val (.int n), .val (.int col), .val (.int len), .val (.int r), .val (.int (0 : Int32)), .val (.ref a1), .val .null, .val (.ref xx), .val (.int (0 : Int32))]) rfl (q := 180) rfl ?_
      refine Jvm.OwnW.iload O6 at_180 rfl (q := 182) rfl ?_
      refine Jvm.OwnW.ifYes O6 at_182 (teq0 (show (0 : Int32) = (0 : Int32) from (by decide))).1 (by decide) (q := 226) rfl ?_
      refine Jvm.OwnW.aload O6 at_226 rfl rfl (q := 228) rfl ?_
      refine Jvm.OwnW.aload O6 at_228 rfl rfl (q := 230) rfl ?_
      refine Jvm.OwnW.acmp O6 at_230 rfl rfl (same := false) (decide_eq_false nofun) (by decide) (q := 235) (by decide) ?_
      refine Jvm.OwnW.aload O6 at_235 rfl rfl (q := 237) rfl ?_
      refine Jvm.OwnW.lenA O6 at_237 V_xx (z := r) hrn (q := 238) rfl ?_
      refine Jvm.OwnW.iload O6 at_238 rfl (q := 240) rfl ?_
      refine Jvm.OwnW.icmpYes O6 at_240 (teq (show r = r from rfl)).1 (by decide) (q := 245) rfl ?_
      refine Jvm.OwnW.iload O6 at_245 rfl (q := 247) rfl ?_
      by_cases hc247 : (0 : Int32) < r
      · refine Jvm.OwnW.ifNo O6 at_247 (tgt0 hc247).2 (q := 250) rfl ?_
        refine Jvm.OwnW.aload O6 at_250 rfl rfl (q := 252) rfl ?_
        refine Jvm.OwnW.iconst O6 at_252 (r := (0 : Int32)) rfl (q := 253) rfl ?_
        refine Jvm.OwnW.lalA O6 at_253 V_xx (i := 0) rfl (by rw [Int32.lt_iff_toInt_lt] at hc247; have : (0 : Int32).toInt = 0 := rfl; omega) (v := (.long (0 : Int64))) rfl (q := 254) rfl ?_
        refine Jvm.OwnW.lconst O6 at_254 (r := (0 : Int64)) rfl (q := 255) rfl ?_
        refine Jvm.OwnW.lcmp O6 at_255 rfl (q := 256) rfl ?_
        refine Jvm.OwnW.ifNo O6 at_256 (teqL (show (0 : Int64) = (0 : Int64) from (by decide))).2 (q := 259) rfl ?_
        refine Jvm.OwnW.aload O6 at_259 rfl rfl (q := 261) rfl ?_
        refine Jvm.OwnW.iload O6 at_261 rfl (q := 263) rfl ?_
        refine Jvm.OwnW.iconst O6 at_263 (r := (1 : Int32)) rfl (q := 264) rfl ?_
        refine Jvm.OwnW.isub O6 at_264 rfl (q := 265) rfl ?_
        refine Jvm.OwnW.lalA O6 at_265 V_xx (i := (rn - 1)) (dec32 hrn (by rw [Int32.lt_iff_toInt_lt] at hc247; have : (0 : Int32).toInt = 0 := rfl; omega)) (by rw [Int32.lt_iff_toInt_lt] at hc247; have : (0 : Int32).toInt = 0 := rfl; omega) (v := (.long (0 : Int64))) rfl (q := 266) rfl ?_
        refine Jvm.OwnW.lconst O6 at_266 (r := (0 : Int64)) rfl (q := 267) rfl ?_
        refine Jvm.OwnW.lcmp O6 at_267 rfl (q := 268) rfl ?_
        refine Jvm.OwnW.ifYes O6 at_268 (teqL (show (0 : Int64) = (0 : Int64) from (by decide))).1 (by decide) (q := 273) rfl ?_
        refine Jvm.OwnW.iconst O6 at_273 (r := (1 : Int32)) rfl (q := 274) rfl ?_
        exact Jvm.OwnW.retB O6 at_274 rfl (Or.inr rfl) (by decide) (by decide) rfl
      · refine Jvm.OwnW.ifYes O6 at_247 (fgt0 hc247).2 (by decide) (q := 273) rfl ?_
        refine Jvm.OwnW.iconst O6 at_273 (r := (1 : Int32)) rfl (q := 274) rfl ?_
        exact Jvm.OwnW.retB O6 at_274 rfl (Or.inr rfl) (by decide) (by decide) rfl
    · refine Jvm.OwnW.icmpYes O5 at_141 (flt hc141).2.2.2 (by decide) (q := 161) rfl ?_
      refine Jvm.OwnW.iload O5 at_161 rfl (q := 163) rfl ?_
      refine Jvm.OwnW.ifYes O5 at_163 (teq0 (show (0 : Int32) = (0 : Int32) from (by decide))).1 (by decide) (q := 177) rfl ?_
      refine Jvm.OwnW.iconst O5 at_177 (r := (0 : Int32)) rfl (q := 178) rfl ?_
      refine Jvm.OwnW.istore O5 at_178 (L' := #[.val (.int p0), .val (.int p1), .val (.int p2), .val (.int p3), .val (.int p4), .val (.long p5), .second, .val (.int n), .val (.int col), .val (.int len), .val (.int r), .val (.int (0 : Int32)), .val (.ref a1), .val .null, .val (.ref xx), .val (.int (0 : Int32))]) rfl (q := 180) rfl ?_
      refine Jvm.OwnW.iload O5 at_180 rfl (q := 182) rfl ?_
      refine Jvm.OwnW.ifYes O5 at_182 (teq0 (show (0 : Int32) = (0 : Int32) from (by decide))).1 (by decide) (q := 226) rfl ?_
      refine Jvm.OwnW.aload O5 at_226 rfl rfl (q := 228) rfl ?_
      refine Jvm.OwnW.aload O5 at_228 rfl rfl (q := 230) rfl ?_
      refine Jvm.OwnW.acmp O5 at_230 rfl rfl (same := false) (decide_eq_false nofun) (by decide) (q := 235) (by decide) ?_
      refine Jvm.OwnW.aload O5 at_235 rfl rfl (q := 237) rfl ?_
      refine Jvm.OwnW.lenA O5 at_237 V_xx (z := r) hrn (q := 238) rfl ?_
      refine Jvm.OwnW.iload O5 at_238 rfl (q := 240) rfl ?_
      refine Jvm.OwnW.icmpYes O5 at_240 (teq (show r = r from rfl)).1 (by decide) (q := 245) rfl ?_
      refine Jvm.OwnW.iload O5 at_245 rfl (q := 247) rfl ?_
      by_cases hc247 : (0 : Int32) < r
      · refine Jvm.OwnW.ifNo O5 at_247 (tgt0 hc247).2 (q := 250) rfl ?_
        refine Jvm.OwnW.aload O5 at_250 rfl rfl (q := 252) rfl ?_
        refine Jvm.OwnW.iconst O5 at_252 (r := (0 : Int32)) rfl (q := 253) rfl ?_
        refine Jvm.OwnW.lalA O5 at_253 V_xx (i := 0) rfl (by rw [Int32.lt_iff_toInt_lt] at hc247; have : (0 : Int32).toInt = 0 := rfl; omega) (v := (.long (0 : Int64))) rfl (q := 254) rfl ?_
        refine Jvm.OwnW.lconst O5 at_254 (r := (0 : Int64)) rfl (q := 255) rfl ?_
        refine Jvm.OwnW.lcmp O5 at_255 rfl (q := 256) rfl ?_
        refine Jvm.OwnW.ifNo O5 at_256 (teqL (show (0 : Int64) = (0 : Int64) from (by decide))).2 (q := 259) rfl ?_
        refine Jvm.OwnW.aload O5 at_259 rfl rfl (q := 261) rfl ?_
        refine Jvm.OwnW.iload O5 at_261 rfl (q := 263) rfl ?_
        refine Jvm.OwnW.iconst O5 at_263 (r := (1 : Int32)) rfl (q := 264) rfl ?_
        refine Jvm.OwnW.isub O5 at_264 rfl (q := 265) rfl ?_
        refine Jvm.OwnW.lalA O5 at_265 V_xx (i := (rn - 1)) (dec32 hrn (by rw [Int32.lt_iff_toInt_lt] at hc247; have : (0 : Int32).toInt = 0 := rfl; omega)) (by rw [Int32.lt_iff_toInt_lt] at hc247; have : (0 : Int32).toInt = 0 := rfl; omega) (v := (.long (0 : Int64))) rfl (q := 266) rfl ?_
        refine Jvm.OwnW.lconst O5 at_266 (r := (0 : Int64)) rfl (q := 267) rfl ?_
        refine Jvm.OwnW.lcmp O5 at_267 rfl (q := 268) rfl ?_
        refine Jvm.OwnW.ifYes O5 at_268 (teqL (show (0 : Int64) = (0 : Int64) from (by decide))).1 (by decide) (q := 273) rfl ?_
        refine Jvm.OwnW.iconst O5 at_273 (r := (1 : Int32)) rfl (q := 274) rfl ?_
        exact Jvm.OwnW.retB O5 at_274 rfl (Or.inr rfl) (by decide) (by decide) rfl
      · refine Jvm.OwnW.ifYes O5 at_247 (fgt0 hc247).2 (by decide) (q := 273) rfl ?_
        refine Jvm.OwnW.iconst O5 at_273 (r := (1 : Int32)) rfl (q := 274) rfl ?_
        exact Jvm.OwnW.retB O5 at_274 rfl (Or.inr rfl) (by decide) (by decide) rfl
  · refine Jvm.OwnW.ifNo O at_32 (feq0 hc32).1 (q := 35) rfl ?_
    refine Jvm.OwnW.iconst O at_35 (r := (1 : Int32)) rfl (q := 36) rfl ?_
    refine Jvm.OwnW.goto O at_36 (by decide) (q := 40) rfl ?_
    refine Jvm.OwnW.istore O at_40 (L' := #[.val (.int p0), .val (.int p1), .val (.int p2), .val (.int p3), .val (.int p4), .val (.long p5), .second, .val (.int n), .val (.int col), .val (.int len), .val (.int r), .val (.int (1 : Int32)), .unset, .unset, .unset, .unset]) rfl (q := 42) rfl ?_
    refine Jvm.OwnW.newO O at_42 (hw _ (List.mem_of_getElem? (i := 1) rfl)) (hw _ (List.mem_of_getElem? (i := 2) rfl)) (hw _ (List.mem_of_getElem? (i := 3) rfl)) (c2 := 1) (s2 := 3) rfl rfl (by decide) (by decide) (q := 45) rfl ?_
    intro a7 T7 h7 g7 N7 O7 X7 E_a7 D7
    have F_longs_a7 : Fld Z h7 a7 "com/example/lamina/lamina/table/Block" "longs" "[[J" .null := D7 (Or.inr (hw _ (List.mem_of_getElem? (i := 13) rfl))) (ty := (.array (.array .long))) (by decide)
    have F_text_a7 : Fld Z h7 a7 "com/example/lamina/lamina/table/Block" "text" "[Lcom/example/lamina/lamina/table/TextVector;" .null := D7 (Or.inr (hw _ (List.mem_of_getElem? (i := 17) rfl))) (ty := (.array (.object "com/example/lamina/lamina/table/TextVector"))) (by decide)
    have F_rows_a7 : Fld Z h7 a7 "com/example/lamina/lamina/table/Block" "rows" "I" (.int (0 : Int32)) := D7 (Or.inl (hw _ (List.mem_of_getElem? (i := 36) rfl))) (ty := .int) (by decide)
    refine Jvm.OwnW.dup O7 at_45 rfl (q := 46) rfl ?_
    refine Jvm.OwnW.iload O7 at_46 rfl (q := 48) rfl ?_
    have lt_a7 := E_a7.lt
    refine Jvm.OwnW.callI O7 (y := (⟨"com/example/lamina/lamina/table/Block", "<init>", "(I)V"⟩ : MethodName)) (a := a7) (argsL := [(.int n)]) (rest := [(.ref a7)]) at_48 rfl (hw _ (List.mem_of_getElem? (i := 4) rfl)) (hw _ (List.mem_of_getElem? (i := 5) rfl)) (hw _ (List.mem_of_getElem? (i := 3) rfl)) (hw _ (List.mem_of_getElem? (i := 6) rfl)) (by decide) (rm_i l Z a0 hw a7 n nn h7 E_a7 F_longs_a7 F_text_a7 F_rows_a7 hnn hn4) rfl pd_0 rfl (hst := rfl) (W := 1) (Nat.le_of_eq rfl) (by decide) (by decide) (c2 := 3) (s2 := 11) rfl rfl (by decide) (by decide) (allS (Or.inr N7) all0) (q := 51) rfl ?_
    intro v8 T8 h8 O8 K8 q8
    obtain ⟨rfl, al, cA, m_al, F_longs_a7, F_rows_a7, V_al, OV_al⟩ := q8
    have E_a7 := E_a7.keep K8
    have N_al : C.s.heap.size ≤ al := Nat.le_trans O7.size m_al
    have ne_a7_al : a7 ≠ al := Nat.ne_of_lt (Nat.lt_of_lt_of_le lt_a7 m_al)
    show Go C _ _ _ _ (T8.setTop (mkF C.m 51 #[.val (.int p0), .val (.int p1), .val (.int p2), .val (.int p3), .val (.int p4), .val (.long p5), .second, .val (.int n), .val (.int col), .val (.int len), .val (.int r), .val (.int (1 : Int32)), .unset, .unset, .unset, .unset] [(.ref a7)]))
    refine Jvm.OwnW.astore O8 at_51 rfl (L' := #[.val (.int p0), .val (.int p1), .val (.int p2), .val (.int p3), .val (.int p4), .val (.long p5), .second, .val (.int n), .val (.int col), .val (.int len), .val (.int r), .val (.int (1 : Int32)), .val (.ref a7), .unset, .unset, .unset]) rfl (q := 53) rfl ?_
    refine Jvm.OwnW.aconst_null O8 at_53 (q := 54) rfl ?_
    refine Jvm.OwnW.astore O8 at_54 rfl (L' := #[.val (.int p0), .val (.int p1), .val (.int p2), .val (.int p3), .val (.int p4), .val (.long p5), .second, .val (.int n), .val (.int col), .val (.int len), .val (.int r), .val (.int (1 : Int32)), .val (.ref a7), .val .null, .unset, .unset]) rfl (q := 56) rfl ?_
    refine Jvm.OwnW.iload O8 at_56 rfl (q := 58) rfl ?_
    refine Jvm.OwnW.ifNo O8 at_58 (feq0 (show ¬ ((1 : Int32) = (0 : Int32)) from (by decide))).1 (q := 61) rfl ?_
    refine Jvm.OwnW.iload O8 at_61 rfl (q := 63) rfl ?_
    refine Jvm.OwnW.newAE O8 at_63 (ty := .long) rfl (ad := "[J") (by decide) (hw _ (List.mem_of_getElem? (i := 23) rfl)) (N := ln) hln (cap := 7) hl7 (by decide) (c2 := 4) (s2 := 18) rfl rfl (by decide) (by decide) (q := 65) rfl ?_
    intro a9 T9 h9 g9 N9 O9 X9 V_a9 E_a9
    have ne_a7_a9 : a7 ≠ a9 := Nat.ne_of_lt (Nat.lt_of_lt_of_le E_a7.lt (Nat.le_of_eq g9.symm))
    have ne_al_a9 : al ≠ a9 := Nat.ne_of_lt (Nat.lt_of_lt_of_le V_al.lt (Nat.le_of_eq g9.symm))
    have E_a7 := E_a7.ext X9
    have F_longs_a7 := F_longs_a7.ext X9
    have F_rows_a7 := F_rows_a7.ext X9
    have V_al := V_al.ext X9
    refine Jvm.OwnW.astore O9 at_65 rfl (L' := #[.val (.int p0), .val (.int p1), .val (.int p2), .val (.int p3), .val (.int p4), .val (.long p5), .second, .val (.int n), .val (.int col), .val (.int len), .val (.int r), .val (.int (1 : Int32)), .val (.ref a7), .val (.ref a9), .unset, .unset]) rfl (q := 67) rfl ?_
    have J87 : ∀ (T10 : State) (h10 : Heap), On l Z [] room_1 x.cls x.name code 16 ret C T10 h10 4 18 → ∀ (fO : Nat → Value), ∀ (hO : 0 < ln → fO 0 = .long p5 ∧ fO (ln - 1) = .long p5), Exa Z h10 a7 "com/example/lamina/lamina/table/Block" → Fld Z h10 a7 "com/example/lamina/lamina/table/Block" "longs" "[[J" (.ref al) → Fld Z h10 a7 "com/example/lamina/lamina/table/Block" "rows" "I" (.int (0 : Int32)) → ArC Z h10 al (.array .long) nn (fun _ => .null) cA → Exa Z h10 a9 "[J" → Ar Z h10 a9 .long ln fO → Go C [] (fun v h => v = some (.int 1)) 24 128 (T10.setTop (mkF C.m 87 #[.val (.int p0), .val (.int p1), .val (.int p2), .val (.int p3), .val (.int p4), .val (.long p5), .second, .val (.int n), .val (.int col), .val (.int len), .val (.int r), .val (.int (1 : Int32)), .val (.ref a7), .val (.ref a9), .unset, .unset] [])) := by
      intro T10 h10 O10 fO hO E_a7 F_longs_a7 F_rows_a7 V_al E_a9 V_a9
      refine Jvm.OwnW.aload O10 at_87 rfl rfl (q := 89) rfl ?_
      refine Jvm.OwnW.iload O10 at_89 rfl (q := 91) rfl ?_
      refine Jvm.OwnW.aload O10 at_91 rfl rfl (q := 93) rfl ?_
      refine Jvm.OwnW.callV O10 (y := (⟨"com/example/lamina/lamina/table/Block", "setLongs", "(I[J)V"⟩ : MethodName)) (z := (⟨"com/example/lamina/lamina/table/Block", "setLongs", "(I[J)V"⟩ : MethodName)) (a := a7) (argsL := [(.int col), (.ref a9)]) (rest := []) at_93 (hw _ (List.mem_of_getElem? (i := 37) rfl)) (hw _ (List.mem_of_getElem? (i := 38) rfl)) (hw _ (List.mem_of_getElem? (i := 40) rfl)) rfl (hw _ (List.mem_of_getElem? (i := 39) rfl)) (hw _ (List.mem_of_getElem? (i := 3) rfl)) (hw _ (List.mem_of_getElem? (i := 41) rfl)) (by decide) (rm_s l Z a0 hw a7 col a9 al nn cn (fun _ => .null) cA h10 E_a7 F_longs_a7 V_al hcn' hcn E_a9 OV_al ne_a7_al) E_a7 rfl pd_4 rfl (hst := rfl) (W := 0) (Nat.le_of_eq rfl) (by decide) (by decide) (c2 := 4) (s2 := 18) rfl rfl (by decide) (by decide) (allS (Or.inr N_al) all0) (q := 96) rfl ?_
      intro v11 T11 h11 O11 K11 q11
      obtain ⟨rfl, V_al⟩ := q11
      have E_a7 := E_a7.keep K11
      have F_longs_a7 := F_longs_a7.keep K11 (ninS ne_a7_al nin0)
      have F_rows_a7 := F_rows_a7.keep K11 (ninS ne_a7_al nin0)
      have E_a9 := E_a9.keep K11
      have V_a9 := V_a9.keep K11 (ninS (Ne.symm ne_al_a9) nin0)
      show Go C _ _ _ _ (T11.setTop (mkF C.m 96 #[.val (.int p0), .val (.int p1), .val (.int p2), .val (.int p3), .val (.int p4), .val (.long p5), .second, .val (.int n), .val (.int col), .val (.int len), .val (.int r), .val (.int (1 : Int32)), .val (.ref a7), .val (.ref a9), .unset, .unset] []))
      rcases Nat.lt_or_ge ln rn with hlr | hlr
      · skip
        refine Jvm.OwnW.aload O11 at_96 rfl rfl (q := 98) rfl ?_
        refine Jvm.OwnW.iload O11 at_98 rfl (q := 100) rfl ?_
        refine Jvm.OwnW.iload O11 at_100 rfl (q := 102) rfl ?_
        have lt_a7 := E_a7.lt
        have lt_a9 := E_a9.lt
        have lt_al := V_al.lt
        refine Jvm.OwnW.callV O11 (y := (⟨"com/example/lamina/lamina/table/Block", "longsForRows", "(II)[J"⟩ : MethodName)) (z := (⟨"com/example/lamina/lamina/table/Block", "longsForRows", "(II)[J"⟩ : MethodName)) (a := a7) (argsL := [(.int col), (.int r)]) (rest := []) at_102 (hw _ (List.mem_of_getElem? (i := 18) rfl)) (hw _ (List.mem_of_getElem? (i := 19) rfl)) (hw _ (List.mem_of_getElem? (i := 21) rfl)) rfl (hw _ (List.mem_of_getElem? (i := 20) rfl)) (hw _ (List.mem_of_getElem? (i := 3) rfl)) (hw _ (List.mem_of_getElem? (i := 22) rfl)) (by decide) (rm_f1 l Z a0 hw a7 col r al nn cn (updV (fun _ => .null) cn (.ref a9)) cA rn a9 ln _ len h11 E_a7 F_longs_a7 V_al hcn' hcn V_a9 hln (Ne.symm ne_al_a9) ne_a7_al OV_al hrn hr7 (if_pos rfl) hlr) E_a7 rfl pd_1 rfl (hst := rfl) (W := 0) (Nat.le_of_eq rfl) (by decide) (by decide) (c2 := 5) (s2 := 25) rfl rfl (by decide) (by decide) (allS (Or.inr N_al) all0) (q := 105) rfl ?_
        intro v12 T12 h12 O12 K12 q12
        obtain ⟨xx, rfl, m_xx, V_xx, E_xx, V_al⟩ := q12
        have E_a7 := E_a7.keep K12
        have F_longs_a7 := F_longs_a7.keep K12 (ninS ne_a7_al nin0)
        have F_rows_a7 := F_rows_a7.keep K12 (ninS ne_a7_al nin0)
        have E_a9 := E_a9.keep K12
        have V_a9 := V_a9.keep K12 (ninS (Ne.symm ne_al_a9) nin0)
        have ne_a7_xx : a7 ≠ xx := Nat.ne_of_lt (Nat.lt_of_lt_of_le lt_a7 m_xx)
        have ne_a9_xx : a9 ≠ xx := Nat.ne_of_lt (Nat.lt_of_lt_of_le lt_a9 m_xx)
        show Go C _ _ _ _ (T12.setTop (mkF C.m 105 #[.val (.int p0), .val (.int p1), .val (.int p2), .val (.int p3), .val (.int p4), .val (.long p5), .second, .val (.int n), .val (.int col), .val (.int len), .val (.int r), .val (.int (1 : Int32)), .val (.ref a7), .val (.ref a9), .unset, .unset] [(.ref xx)]))
        refine Jvm.OwnW.astore O12 at_105 rfl (L' := #[.val (.int p0), .val (.int p1), .val (.int p2), .val (.int p3), .val (.int p4), .val (.long p5), .second, .val (.int n), .val (.int col), .val (.int len), .val (.int r), .val (.int (1 : Int32)), .val (.ref a7), .val (.ref a9), .val (.ref xx), .unset]) rfl (q := 107) rfl ?_
        refine Jvm.OwnW.aload O12 at_107 rfl rfl (q := 109) rfl ?_
        refine Jvm.OwnW.ifnonnullYes O12 at_109 (by decide) (q := 114) rfl ?_
        refine Jvm.OwnW.aload O12 at_114 rfl rfl (q := 116) rfl ?_
        refine Jvm.OwnW.aload O12 at_116 rfl rfl (q := 118) rfl ?_
        refine Jvm.OwnW.iload O12 at_118 rfl (q := 120) rfl ?_
        refine Jvm.OwnW.callV0 O12 (y := (⟨"com/example/lamina/lamina/table/Block", "longs", "(I)[J"⟩ : MethodName)) (z := (⟨"com/example/lamina/lamina/table/Block", "longs", "(I)[J"⟩ : MethodName)) (a := a7) (argsL := [(.int col)]) (rest := [(.ref xx)]) at_120 (hw _ (List.mem_of_getElem? (i := 25) rfl)) (hw _ (List.mem_of_getElem? (i := 26) rfl)) (hw _ (List.mem_of_getElem? (i := 28) rfl)) rfl (hw _ (List.mem_of_getElem? (i := 27) rfl)) (hw _ (List.mem_of_getElem? (i := 3) rfl)) (hw _ (List.mem_of_getElem? (i := 29) rfl)) (by decide) (rm_l l Z a0 hw a7 col al nn cn (updV (updV (fun _ => .null) cn (.ref a9)) cn (.ref xx)) cA (.ref xx) h12 E_a7 F_longs_a7 V_al hcn' hcn (if_pos rfl) rfl) E_a7 rfl pd_2 rfl (hst := rfl) (W := 1) (Nat.le_of_eq rfl) (by decide) (by decide) (c2 := 5) (s2 := 25) rfl rfl (by decide) (by decide) rfl rfl (q := 123) rfl ?_
        intro v13 T13 O13 q13
        obtain rfl := q13
        show Go C _ _ _ _ (T13.setTop (mkF C.m 123 #[.val (.int p0), .val (.int p1), .val (.int p2), .val (.int p3), .val (.int p4), .val (.long p5), .second, .val (.int n), .val (.int col), .val (.int len), .val (.int r), .val (.int (1 : Int32)), .val (.ref a7), .val (.ref a9), .val (.ref xx), .unset] [(.ref xx), (.ref xx)]))
        refine Jvm.OwnW.acmp O13 at_123 rfl rfl (same := true) (decide_eq_true rfl) (by decide) (q := 128) (by decide) ?_
        refine Jvm.OwnW.aload O13 at_128 rfl rfl (q := 130) rfl ?_
        refine Jvm.OwnW.callV0 O13 (y := (⟨"com/example/lamina/lamina/table/Block", "rows", "()I"⟩ : MethodName)) (z := (⟨"com/example/lamina/lamina/table/Block", "rows", "()I"⟩ : MethodName)) (a := a7) (argsL := []) (rest := []) at_130 (hw _ (List.mem_of_getElem? (i := 30) rfl)) (hw _ (List.mem_of_getElem? (i := 31) rfl)) (hw _ (List.mem_of_getElem? (i := 33) rfl)) rfl (hw _ (List.mem_of_getElem? (i := 32) rfl)) (hw _ (List.mem_of_getElem? (i := 3) rfl)) (hw _ (List.mem_of_getElem? (i := 34) rfl)) (by decide) (rm_r l Z a0 hw a7 (0 : Int32) h12 E_a7 F_rows_a7) E_a7 rfl pd_3 rfl (hst := rfl) (W := 0) (Nat.le_of_eq rfl) (by decide) (by decide) (c2 := 5) (s2 := 25) rfl rfl (by decide) (by decide) rfl rfl (q := 133) rfl ?_
        intro v14 T14 O14 q14
        obtain rfl := q14
        show Go C _ _ _ _ (T14.setTop (mkF C.m 133 #[.val (.int p0), .val (.int p1), .val (.int p2), .val (.int p3), .val (.int p4), .val (.long p5), .second, .val (.int n), .val (.int col), .val (.int len), .val (.int r), .val (.int (1 : Int32)), .val (.ref a7), .val (.ref a9), .val (.ref xx), .unset] [(.int (0 : Int32))]))
        refine Jvm.OwnW.ifYes O14 at_133 (teq0 (show (0 : Int32) = (0 : Int32) from (by decide))).1 (by decide) (q := 138) rfl ?_
        refine Jvm.OwnW.iload O14 at_138 rfl (q := 140) rfl ?_
        refine Jvm.OwnW.iconst O14 at_140 (r := (1 : Int32)) rfl (q := 141) rfl ?_
        by_cases hc141 : (1 : Int32) < n
        · refine Jvm.OwnW.icmpNo O14 at_141 (tlt hc141).2.2.2 (q := 144) rfl ?_
          have hnn1 : 1 < nn := by rw [Int32.lt_iff_toInt_lt] at hc141; have : (1 : Int32).toInt = 1 := rfl; omega
          obtain ⟨dn, hdd⟩ : ∃ z, (cn + 1) % nn = z := ⟨_, rfl⟩
          have hdn := own_d col n cn nn hcn' hnn hcn hn4
          rw [hdd] at hdn
          have hdn' : dn < nn := by rw [← hdd]; exact Nat.mod_lt _ (by omega)
          have hne : dn ≠ cn := by
            rw [← hdd]
            rcases Nat.lt_or_ge (cn + 1) nn with q | q
            · rw [Nat.mod_eq_of_lt q]; omega
            · have : cn + 1 = nn := by omega
              rw [this, Nat.mod_self]; omega
          refine Jvm.OwnW.aload O14 at_144 rfl rfl (q := 146) rfl ?_
          refine Jvm.OwnW.iload O14 at_146 rfl (q := 148) rfl ?_
          refine Jvm.OwnW.iconst O14 at_148 (r := (1 : Int32)) rfl (q := 149) rfl ?_
          refine Jvm.OwnW.iadd O14 at_149 rfl (q := 150) rfl ?_
          refine Jvm.OwnW.iload O14 at_150 rfl (q := 152) rfl ?_
          refine Jvm.OwnW.irem O14 at_152 (ne0_32 (by omega)) rfl (q := 153) rfl ?_
          refine Jvm.OwnW.callV0 O14 (y := (⟨"com/example/lamina/lamina/table/Block", "longs", "(I)[J"⟩ : MethodName)) (z := (⟨"com/example/lamina/lamina/table/Block", "longs", "(I)[J"⟩ : MethodName)) (a := a7) (argsL := [(.int ((col + (1 : Int32)) % n))]) (rest := []) at_153 (hw _ (List.mem_of_getElem? (i := 25) rfl)) (hw _ (List.mem_of_getElem? (i := 26) rfl)) (hw _ (List.mem_of_getElem? (i := 28) rfl)) rfl (hw _ (List.mem_of_getElem? (i := 27) rfl)) (hw _ (List.mem_of_getElem? (i := 3) rfl)) (hw _ (List.mem_of_getElem? (i := 29) rfl)) (by decide) (rm_l l Z a0 hw a7 ((col + (1 : Int32)) % n) al nn dn (updV (updV (fun _ => .null) cn (.ref a9)) cn (.ref xx)) cA .null h12 E_a7 F_longs_a7 V_al hdn hdn' (own_other hne (own_other hne rfl)) rfl) E_a7 rfl pd_2 rfl (hst := rfl) (W := 0) (Nat.le_of_eq rfl) (by decide) (by decide) (c2 := 5) (s2 := 25) rfl rfl (by decide) (by decide) rfl rfl (q := 156) rfl ?_
          intro v15 T15 O15 q15
          obtain rfl := q15
          show Go C _ _ _ _ (T15.setTop (mkF C.m 156 #[.val (.int p0), .val (.int p1), .val (.int p2), .val (.int p3), .val (.int p4), .val (.long p5), .second, .val (.int n), .val (.int col), .val (.int len), .val (.int r), .val (.int (1 : Int32)), .val (.ref a7), .val (.ref a9), .val (.ref xx), .unset] [.null]))
          refine Jvm.OwnW.ifnullYes O15 at_156 (by decide) (q := 161) rfl ?_
          refine Jvm.OwnW.iload O15 at_161 rfl (q := 163) rfl ?_
          refine Jvm.OwnW.ifNo O15 at_163 (feq0 (show ¬ ((1 : Int32) = (0 : Int32)) from (by decide))).1 (q := 166) rfl ?_
          refine Jvm.OwnW.iload O15 at_166 rfl (q := 168) rfl ?_
          refine Jvm.OwnW.iload O15 at_168 rfl (q := 170) rfl ?_
          refine Jvm.OwnW.icmpYes O15 at_170 (tlt (show len < r from lt32 (by omega))).1 (by decide) (q := 177) rfl ?_
          refine Jvm.OwnW.iconst O15 at_177 (r := (0 : Int32)) rfl (q := 178) rfl ?_
          refine Jvm.OwnW.istore O15 at_178 (L' := #[.val (.int p0), .val (.int p1), .val (.int p2), .val (.int p3), .val (.int p4), .val (.long p5), .second, .val (.int n), .val (.int col), .val (.int len), .val (.int r), .val (.int (1 : Int32)), .val (.ref a7), .val (.ref a9), .val (.ref xx), .val (.int (0 : Int32))]) rfl (q := 180) rfl ?_
          refine Jvm.OwnW.iload O15 at_180 rfl (q := 182) rfl ?_
          refine Jvm.OwnW.ifYes O15 at_182 (teq0 (show (0 : Int32) = (0 : Int32) from (by decide))).1 (by decide) (q := 226) rfl ?_
          refine Jvm.OwnW.aload O15 at_226 rfl rfl (q := 228) rfl ?_
          refine Jvm.OwnW.aload O15 at_228 rfl rfl (q := 230) rfl ?_
          refine Jvm.OwnW.acmp O15 at_230 rfl rfl (same := false) (decide_eq_false (fun q => (Ne.symm ne_a9_xx) (Value.ref.inj q))) (by decide) (q := 235) (by decide) ?_
          refine Jvm.OwnW.aload O15 at_235 rfl rfl (q := 237) rfl ?_
          refine Jvm.OwnW.lenA O15 at_237 V_xx (z := r) hrn (q := 238) rfl ?_
          refine Jvm.OwnW.iload O15 at_238 rfl (q := 240) rfl ?_
          refine Jvm.OwnW.icmpYes O15 at_240 (teq (show r = r from rfl)).1 (by decide) (q := 245) rfl ?_
          refine Jvm.OwnW.iload O15 at_245 rfl (q := 247) rfl ?_
          by_cases hc247 : (0 : Int32) < r
          · refine Jvm.OwnW.ifNo O15 at_247 (tgt0 hc247).2 (q := 250) rfl ?_
            refine Jvm.OwnW.aload O15 at_250 rfl rfl (q := 252) rfl ?_
            refine Jvm.OwnW.iconst O15 at_252 (r := (0 : Int32)) rfl (q := 253) rfl ?_
            refine Jvm.OwnW.lalA O15 at_253 V_xx (i := 0) rfl (by rw [Int32.lt_iff_toInt_lt] at hc247; have : (0 : Int32).toInt = 0 := rfl; omega) (v := (.long (0 : Int64))) rfl (q := 254) rfl ?_
            refine Jvm.OwnW.lconst O15 at_254 (r := (0 : Int64)) rfl (q := 255) rfl ?_
            refine Jvm.OwnW.lcmp O15 at_255 rfl (q := 256) rfl ?_
            refine Jvm.OwnW.ifNo O15 at_256 (teqL (show (0 : Int64) = (0 : Int64) from (by decide))).2 (q := 259) rfl ?_
            refine Jvm.OwnW.aload O15 at_259 rfl rfl (q := 261) rfl ?_
            refine Jvm.OwnW.iload O15 at_261 rfl (q := 263) rfl ?_
            refine Jvm.OwnW.iconst O15 at_263 (r := (1 : Int32)) rfl (q := 264) rfl ?_
            refine Jvm.OwnW.isub O15 at_264 rfl (q := 265) rfl ?_
            refine Jvm.OwnW.lalA O15 at_265 V_xx (i := (rn - 1)) (dec32 hrn (by rw [Int32.lt_iff_toInt_lt] at hc247; have : (0 : Int32).toInt = 0 := rfl; omega)) (by rw [Int32.lt_iff_toInt_lt] at hc247; have : (0 : Int32).toInt = 0 := rfl; omega) (v := (.long (0 : Int64))) rfl (q := 266) rfl ?_
            refine Jvm.OwnW.lconst O15 at_266 (r := (0 : Int64)) rfl (q := 267) rfl ?_
            refine Jvm.OwnW.lcmp O15 at_267 rfl (q := 268) rfl ?_
            refine Jvm.OwnW.ifYes O15 at_268 (teqL (show (0 : Int64) = (0 : Int64) from (by decide))).1 (by decide) (q := 273) rfl ?_
            refine Jvm.OwnW.iconst O15 at_273 (r := (1 : Int32)) rfl (q := 274) rfl ?_
            exact Jvm.OwnW.retB O15 at_274 rfl (Or.inr rfl) (by decide) (by decide) rfl
          · refine Jvm.OwnW.ifYes O15 at_247 (fgt0 hc247).2 (by decide) (q := 273) rfl ?_
            refine Jvm.OwnW.iconst O15 at_273 (r := (1 : Int32)) rfl (q := 274) rfl ?_
            exact Jvm.OwnW.retB O15 at_274 rfl (Or.inr rfl) (by decide) (by decide) rfl
        · refine Jvm.OwnW.icmpYes O14 at_141 (flt hc141).2.2.2 (by decide) (q := 161) rfl ?_
          refine Jvm.OwnW.iload O14 at_161 rfl (q := 163) rfl ?_
          refine Jvm.OwnW.ifNo O14 at_163 (feq0 (show ¬ ((1 : Int32) = (0 : Int32)) from (by decide))).1 (q := 166) rfl ?_
          refine Jvm.OwnW.iload O14 at_166 rfl (q := 168) rfl ?_
          refine Jvm.OwnW.iload O14 at_168 rfl (q := 170) rfl ?_
          refine Jvm.OwnW.icmpYes O14 at_170 (tlt (show len < r from lt32 (by omega))).1 (by decide) (q := 177) rfl ?_
          refine Jvm.OwnW.iconst O14 at_177 (r := (0 : Int32)) rfl (q := 178) rfl ?_
          refine Jvm.OwnW.istore O14 at_178 (L' := #[.val (.int p0), .val (.int p1), .val (.int p2), .val (.int p3), .val (.int p4), .val (.long p5), .second, .val (.int n), .val (.int col), .val (.int len), .val (.int r), .val (.int (1 : Int32)), .val (.ref a7), .val (.ref a9), .val (.ref xx), .val (.int (0 : Int32))]) rfl (q := 180) rfl ?_
          refine Jvm.OwnW.iload O14 at_180 rfl (q := 182) rfl ?_
          refine Jvm.OwnW.ifYes O14 at_182 (teq0 (show (0 : Int32) = (0 : Int32) from (by decide))).1 (by decide) (q := 226) rfl ?_
          refine Jvm.OwnW.aload O14 at_226 rfl rfl (q := 228) rfl ?_
          refine Jvm.OwnW.aload O14 at_228 rfl rfl (q := 230) rfl ?_
          refine Jvm.OwnW.acmp O14 at_230 rfl rfl (same := false) (decide_eq_false (fun q => (Ne.symm ne_a9_xx) (Value.ref.inj q))) (by decide) (q := 235) (by decide) ?_
          refine Jvm.OwnW.aload O14 at_235 rfl rfl (q := 237) rfl ?_
          refine Jvm.OwnW.lenA O14 at_237 V_xx (z := r) hrn (q := 238) rfl ?_
          refine Jvm.OwnW.iload O14 at_238 rfl (q := 240) rfl ?_
          refine Jvm.OwnW.icmpYes O14 at_240 (teq (show r = r from rfl)).1 (by decide) (q := 245) rfl ?_
          refine Jvm.OwnW.iload O14 at_245 rfl (q := 247) rfl ?_
          by_cases hc247 : (0 : Int32) < r
          · refine Jvm.OwnW.ifNo O14 at_247 (tgt0 hc247).2 (q := 250) rfl ?_
            refine Jvm.OwnW.aload O14 at_250 rfl rfl (q := 252) rfl ?_
            refine Jvm.OwnW.iconst O14 at_252 (r := (0 : Int32)) rfl (q := 253) rfl ?_
            refine Jvm.OwnW.lalA O14 at_253 V_xx (i := 0) rfl (by rw [Int32.lt_iff_toInt_lt] at hc247; have : (0 : Int32).toInt = 0 := rfl; omega) (v := (.long (0 : Int64))) rfl (q := 254) rfl ?_
            refine Jvm.OwnW.lconst O14 at_254 (r := (0 : Int64)) rfl (q := 255) rfl ?_
            refine Jvm.OwnW.lcmp O14 at_255 rfl (q := 256) rfl ?_
            refine Jvm.OwnW.ifNo O14 at_256 (teqL (show (0 : Int64) = (0 : Int64) from (by decide))).2 (q := 259) rfl ?_
            refine Jvm.OwnW.aload O14 at_259 rfl rfl (q := 261) rfl ?_
            refine Jvm.OwnW.iload O14 at_261 rfl (q := 263) rfl ?_
            refine Jvm.OwnW.iconst O14 at_263 (r := (1 : Int32)) rfl (q := 264) rfl ?_
            refine Jvm.OwnW.isub O14 at_264 rfl (q := 265) rfl ?_
            refine Jvm.OwnW.lalA O14 at_265 V_xx (i := (rn - 1)) (dec32 hrn (by rw [Int32.lt_iff_toInt_lt] at hc247; have : (0 : Int32).toInt = 0 := rfl; omega)) (by rw [Int32.lt_iff_toInt_lt] at hc247; have : (0 : Int32).toInt = 0 := rfl; omega) (v := (.long (0 : Int64))) rfl (q := 266) rfl ?_
            refine Jvm.OwnW.lconst O14 at_266 (r := (0 : Int64)) rfl (q := 267) rfl ?_
            refine Jvm.OwnW.lcmp O14 at_267 rfl (q := 268) rfl ?_
            refine Jvm.OwnW.ifYes O14 at_268 (teqL (show (0 : Int64) = (0 : Int64) from (by decide))).1 (by decide) (q := 273) rfl ?_
            refine Jvm.OwnW.iconst O14 at_273 (r := (1 : Int32)) rfl (q := 274) rfl ?_
            exact Jvm.OwnW.retB O14 at_274 rfl (Or.inr rfl) (by decide) (by decide) rfl
          · refine Jvm.OwnW.ifYes O14 at_247 (fgt0 hc247).2 (by decide) (q := 273) rfl ?_
            refine Jvm.OwnW.iconst O14 at_273 (r := (1 : Int32)) rfl (q := 274) rfl ?_
            exact Jvm.OwnW.retB O14 at_274 rfl (Or.inr rfl) (by decide) (by decide) rfl
      · skip
        refine Jvm.OwnW.aload O11 at_96 rfl rfl (q := 98) rfl ?_
        refine Jvm.OwnW.iload O11 at_98 rfl (q := 100) rfl ?_
        refine Jvm.OwnW.iload O11 at_100 rfl (q := 102) rfl ?_
        refine Jvm.OwnW.callV0 O11 (y := (⟨"com/example/lamina/lamina/table/Block", "longsForRows", "(II)[J"⟩ : MethodName)) (z := (⟨"com/example/lamina/lamina/table/Block", "longsForRows", "(II)[J"⟩ : MethodName)) (a := a7) (argsL := [(.int col), (.int r)]) (rest := []) at_102 (hw _ (List.mem_of_getElem? (i := 18) rfl)) (hw _ (List.mem_of_getElem? (i := 19) rfl)) (hw _ (List.mem_of_getElem? (i := 21) rfl)) rfl (hw _ (List.mem_of_getElem? (i := 20) rfl)) (hw _ (List.mem_of_getElem? (i := 3) rfl)) (hw _ (List.mem_of_getElem? (i := 22) rfl)) (by decide) (rm_f2 l Z a0 hw a7 col r al nn cn (updV (fun _ => .null) cn (.ref a9)) cA rn a9 ln _ len h11 E_a7 F_longs_a7 V_al hcn' hcn V_a9 hln hrn hr7 (if_pos rfl) hlr) E_a7 rfl pd_1 rfl (hst := rfl) (W := 0) (Nat.le_of_eq rfl) (by decide) (by decide) (c2 := 4) (s2 := 18) rfl rfl (by decide) (by decide) rfl rfl (q := 105) rfl ?_
        intro v16 T16 O16 q16
        obtain rfl := q16
        show Go C _ _ _ _ (T16.setTop (mkF C.m 105 #[.val (.int p0), .val (.int p1), .val (.int p2), .val (.int p3), .val (.int p4), .val (.long p5), .second, .val (.int n), .val (.int col), .val (.int len), .val (.int r), .val (.int (1 : Int32)), .val (.ref a7), .val (.ref a9), .unset, .unset] [(.ref a9)]))
        refine Jvm.OwnW.astore O16 at_105 rfl (L' := #[.val (.int p0), .val (.int p1), .val (.int p2), .val (.int p3), .val (.int p4), .val (.long p5), .second, .val (.int n), .val (.int col), .val (.int len), .val (.int r), .val (.int (1 : Int32)), .val (.ref a7), .val (.ref a9), .val (.ref a9), .unset]) rfl (q := 107) rfl ?_
        refine Jvm.OwnW.aload O16 at_107 rfl rfl (q := 109) rfl ?_
        refine Jvm.OwnW.ifnonnullYes O16 at_109 (by decide) (q := 114) rfl ?_
        refine Jvm.OwnW.aload O16 at_114 rfl rfl (q := 116) rfl ?_
        refine Jvm.OwnW.aload O16 at_116 rfl rfl (q := 118) rfl ?_
        refine Jvm.OwnW.iload O16 at_118 rfl (q := 120) rfl ?_
        refine Jvm.OwnW.callV0 O16 (y := (⟨"com/example/lamina/lamina/table/Block", "longs", "(I)[J"⟩ : MethodName)) (z := (⟨"com/example/lamina/lamina/table/Block", "longs", "(I)[J"⟩ : MethodName)) (a := a7) (argsL := [(.int col)]) (rest := [(.ref a9)]) at_120 (hw _ (List.mem_of_getElem? (i := 25) rfl)) (hw _ (List.mem_of_getElem? (i := 26) rfl)) (hw _ (List.mem_of_getElem? (i := 28) rfl)) rfl (hw _ (List.mem_of_getElem? (i := 27) rfl)) (hw _ (List.mem_of_getElem? (i := 3) rfl)) (hw _ (List.mem_of_getElem? (i := 29) rfl)) (by decide) (rm_l l Z a0 hw a7 col al nn cn (updV (fun _ => .null) cn (.ref a9)) cA (.ref a9) h11 E_a7 F_longs_a7 V_al hcn' hcn (if_pos rfl) rfl) E_a7 rfl pd_2 rfl (hst := rfl) (W := 1) (Nat.le_of_eq rfl) (by decide) (by decide) (c2 := 4) (s2 := 18) rfl rfl (by decide) (by decide) rfl rfl (q := 123) rfl ?_
        intro v17 T17 O17 q17
        obtain rfl := q17
        show Go C _ _ _ _ (T17.setTop (mkF C.m 123 #[.val (.int p0), .val (.int p1), .val (.int p2), .val (.int p3), .val (.int p4), .val (.long p5), .second, .val (.int n), .val (.int col), .val (.int len), .val (.int r), .val (.int (1 : Int32)), .val (.ref a7), .val (.ref a9), .val (.ref a9), .unset] [(.ref a9), (.ref a9)]))
        refine Jvm.OwnW.acmp O17 at_123 rfl rfl (same := true) (decide_eq_true rfl) (by decide) (q := 128) (by decide) ?_
        refine Jvm.OwnW.aload O17 at_128 rfl rfl (q := 130) rfl ?_
        refine Jvm.OwnW.callV0 O17 (y := (⟨"com/example/lamina/lamina/table/Block", "rows", "()I"⟩ : MethodName)) (z := (⟨"com/example/lamina/lamina/table/Block", "rows", "()I"⟩ : MethodName)) (a := a7) (argsL := []) (rest := []) at_130 (hw _ (List.mem_of_getElem? (i := 30) rfl)) (hw _ (List.mem_of_getElem? (i := 31) rfl)) (hw _ (List.mem_of_getElem? (i := 33) rfl)) rfl (hw _ (List.mem_of_getElem? (i := 32) rfl)) (hw _ (List.mem_of_getElem? (i := 3) rfl)) (hw _ (List.mem_of_getElem? (i := 34) rfl)) (by decide) (rm_r l Z a0 hw a7 (0 : Int32) h11 E_a7 F_rows_a7) E_a7 rfl pd_3 rfl (hst := rfl) (W := 0) (Nat.le_of_eq rfl) (by decide) (by decide) (c2 := 4) (s2 := 18) rfl rfl (by decide) (by decide) rfl rfl (q := 133) rfl ?_
        intro v18 T18 O18 q18
        obtain rfl := q18
        show Go C _ _ _ _ (T18.setTop (mkF C.m 133 #[.val (.int p0), .val (.int p1), .val (.int p2), .val (.int p3), .val (.int p4), .val (.long p5), .second, .val (.int n), .val (.int col), .val (.int len), .val (.int r), .val (.int (1 : Int32)), .val (.ref a7), .val (.ref a9), .val (.ref a9), .unset] [(.int (0 : Int32))]))
        refine Jvm.OwnW.ifYes O18 at_133 (teq0 (show (0 : Int32) = (0 : Int32) from (by decide))).1 (by decide) (q := 138) rfl ?_
        refine Jvm.OwnW.iload O18 at_138 rfl (q := 140) rfl ?_
        refine Jvm.OwnW.iconst O18 at_140 (r := (1 : Int32)) rfl (q := 141) rfl ?_
        by_cases hc141 : (1 : Int32) < n
        · refine Jvm.OwnW.icmpNo O18 at_141 (tlt hc141).2.2.2 (q := 144) rfl ?_
          have hnn1 : 1 < nn := by rw [Int32.lt_iff_toInt_lt] at hc141; have : (1 : Int32).toInt = 1 := rfl; omega
          obtain ⟨dn, hdd⟩ : ∃ z, (cn + 1) % nn = z := ⟨_, rfl⟩
          have hdn := own_d col n cn nn hcn' hnn hcn hn4
          rw [hdd] at hdn
          have hdn' : dn < nn := by rw [← hdd]; exact Nat.mod_lt _ (by omega)
          have hne : dn ≠ cn := by
            rw [← hdd]
            rcases Nat.lt_or_ge (cn + 1) nn with q | q
            · rw [Nat.mod_eq_of_lt q]; omega
            · have : cn + 1 = nn := by omega
              rw [this, Nat.mod_self]; omega
          refine Jvm.OwnW.aload O18 at_144 rfl rfl (q := 146) rfl ?_
          refine Jvm.OwnW.iload O18 at_146 rfl (q := 148) rfl ?_
          refine Jvm.OwnW.iconst O18 at_148 (r := (1 : Int32)) rfl (q := 149) rfl ?_
          refine Jvm.OwnW.iadd O18 at_149 rfl (q := 150) rfl ?_
          refine Jvm.OwnW.iload O18 at_150 rfl (q := 152) rfl ?_
          refine Jvm.OwnW.irem O18 at_152 (ne0_32 (by omega)) rfl (q := 153) rfl ?_
          refine Jvm.OwnW.callV0 O18 (y := (⟨"com/example/lamina/lamina/table/Block", "longs", "(I)[J"⟩ : MethodName)) (z := (⟨"com/example/lamina/lamina/table/Block", "longs", "(I)[J"⟩ : MethodName)) (a := a7) (argsL := [(.int ((col + (1 : Int32)) % n))]) (rest := []) at_153 (hw _ (List.mem_of_getElem? (i := 25) rfl)) (hw _ (List.mem_of_getElem? (i := 26) rfl)) (hw _ (List.mem_of_getElem? (i := 28) rfl)) rfl (hw _ (List.mem_of_getElem? (i := 27) rfl)) (hw _ (List.mem_of_getElem? (i := 3) rfl)) (hw _ (List.mem_of_getElem? (i := 29) rfl)) (by decide) (rm_l l Z a0 hw a7 ((col + (1 : Int32)) % n) al nn dn (updV (fun _ => .null) cn (.ref a9)) cA .null h11 E_a7 F_longs_a7 V_al hdn hdn' (own_other hne rfl) rfl) E_a7 rfl pd_2 rfl (hst := rfl) (W := 0) (Nat.le_of_eq rfl) (by decide) (by decide) (c2 := 4) (s2 := 18) rfl rfl (by decide) (by decide) rfl rfl (q := 156) rfl ?_
          intro v19 T19 O19 q19
          obtain rfl := q19
          show Go C _ _ _ _ (T19.setTop (mkF C.m 156 #[.val (.int p0), .val (.int p1), .val (.int p2), .val (.int p3), .val (.int p4), .val (.long p5), .second, .val (.int n), .val (.int col), .val (.int len), .val (.int r), .val (.int (1 : Int32)), .val (.ref a7), .val (.ref a9), .val (.ref a9), .unset] [.null]))
          refine Jvm.OwnW.ifnullYes O19 at_156 (by decide) (q := 161) rfl ?_
          refine Jvm.OwnW.iload O19 at_161 rfl (q := 163) rfl ?_
          refine Jvm.OwnW.ifNo O19 at_163 (feq0 (show ¬ ((1 : Int32) = (0 : Int32)) from (by decide))).1 (q := 166) rfl ?_
          refine Jvm.OwnW.iload O19 at_166 rfl (q := 168) rfl ?_
          refine Jvm.OwnW.iload O19 at_168 rfl (q := 170) rfl ?_
          refine Jvm.OwnW.icmpNo O19 at_170 (flt (show ¬ (len < r) from nlt32 (by omega))).1 (q := 173) rfl ?_
          refine Jvm.OwnW.iconst O19 at_173 (r := (1 : Int32)) rfl (q := 174) rfl ?_
          refine Jvm.OwnW.goto O19 at_174 (by decide) (q := 178) rfl ?_
          refine Jvm.OwnW.istore O19 at_178 (L' := #[.val (.int p0), .val (.int p1), .val (.int p2), .val (.int p3), .val (.int p4), .val (.long p5), .second, .val (.int n), .val (.int col), .val (.int len), .val (.int r), .val (.int (1 : Int32)), .val (.ref a7), .val (.ref a9), .val (.ref a9), .val (.int (1 : Int32))]) rfl (q := 180) rfl ?_
          refine Jvm.OwnW.iload O19 at_180 rfl (q := 182) rfl ?_
          refine Jvm.OwnW.ifNo O19 at_182 (feq0 (show ¬ ((1 : Int32) = (0 : Int32)) from (by decide))).1 (q := 185) rfl ?_
          refine Jvm.OwnW.aload O19 at_185 rfl rfl (q := 187) rfl ?_
          refine Jvm.OwnW.aload O19 at_187 rfl rfl (q := 189) rfl ?_
          refine Jvm.OwnW.acmp O19 at_189 rfl rfl (same := true) (decide_eq_true rfl) (by decide) (q := 194) (by decide) ?_
          refine Jvm.OwnW.iload O19 at_194 rfl (q := 196) rfl ?_
          by_cases hc196 : (0 : Int32) < len
          · refine Jvm.OwnW.ifNo O19 at_196 (tgt0 hc196).2 (q := 199) rfl ?_
            obtain ⟨hO1, hO2⟩ := hO (by rw [Int32.lt_iff_toInt_lt] at hc196; have : (0 : Int32).toInt = 0 := rfl; omega)
            refine Jvm.OwnW.aload O19 at_199 rfl rfl (q := 201) rfl ?_
            refine Jvm.OwnW.iconst O19 at_201 (r := (0 : Int32)) rfl (q := 202) rfl ?_
            refine Jvm.OwnW.lalA O19 at_202 V_a9 (i := 0) rfl (by rw [Int32.lt_iff_toInt_lt] at hc196; have : (0 : Int32).toInt = 0 := rfl; omega) (v := (.long p5)) hO1 (q := 203) rfl ?_
            refine Jvm.OwnW.lload O19 at_203 rfl (q := 205) rfl ?_
            refine Jvm.OwnW.lcmp O19 at_205 rfl (q := 206) rfl ?_
            refine Jvm.OwnW.ifNo O19 at_206 (teqL (show p5 = p5 from rfl)).2 (q := 209) rfl ?_
            refine Jvm.OwnW.aload O19 at_209 rfl rfl (q := 211) rfl ?_
            refine Jvm.OwnW.iload O19 at_211 rfl (q := 213) rfl ?_
            refine Jvm.OwnW.iconst O19 at_213 (r := (1 : Int32)) rfl (q := 214) rfl ?_
            refine Jvm.OwnW.isub O19 at_214 rfl (q := 215) rfl ?_
            refine Jvm.OwnW.lalA O19 at_215 V_a9 (i := (ln - 1)) (dec32 hln (by rw [Int32.lt_iff_toInt_lt] at hc196; have : (0 : Int32).toInt = 0 := rfl; omega)) (by rw [Int32.lt_iff_toInt_lt] at hc196; have : (0 : Int32).toInt = 0 := rfl; omega) (v := (.long p5)) hO2 (q := 216) rfl ?_
            refine Jvm.OwnW.lload O19 at_216 rfl (q := 218) rfl ?_
            refine Jvm.OwnW.lcmp O19 at_218 rfl (q := 219) rfl ?_
            refine Jvm.OwnW.ifYes O19 at_219 (teqL (show p5 = p5 from rfl)).1 (by decide) (q := 224) rfl ?_
            refine Jvm.OwnW.iconst O19 at_224 (r := (1 : Int32)) rfl (q := 225) rfl ?_
            exact Jvm.OwnW.retB O19 at_225 rfl (Or.inr rfl) (by decide) (by decide) rfl
          · refine Jvm.OwnW.ifYes O19 at_196 (fgt0 hc196).2 (by decide) (q := 224) rfl ?_
            refine Jvm.OwnW.iconst O19 at_224 (r := (1 : Int32)) rfl (q := 225) rfl ?_
            exact Jvm.OwnW.retB O19 at_225 rfl (Or.inr rfl) (by decide) (by decide) rfl
        · refine Jvm.OwnW.icmpYes O18 at_141 (flt hc141).2.2.2 (by decide) (q := 161) rfl ?_
          refine Jvm.OwnW.iload O18 at_161 rfl (q := 163) rfl ?_
          refine Jvm.OwnW.ifNo O18 at_163 (feq0 (show ¬ ((1 : Int32) = (0 : Int32)) from (by decide))).1 (q := 166) rfl ?_
          refine Jvm.OwnW.iload O18 at_166 rfl (q := 168) rfl ?_
          refine Jvm.OwnW.iload O18 at_168 rfl (q := 170) rfl ?_
          refine Jvm.OwnW.icmpNo O18 at_170 (flt (show ¬ (len < r) from nlt32 (by omega))).1 (q := 173) rfl ?_
          refine Jvm.OwnW.iconst O18 at_173 (r := (1 : Int32)) rfl (q := 174) rfl ?_
          refine Jvm.OwnW.goto O18 at_174 (by decide) (q := 178) rfl ?_
          refine Jvm.OwnW.istore O18 at_178 (L' := #[.val (.int p0), .val (.int p1), .val (.int p2), .val (.int p3), .val (.int p4), .val (.long p5), .second, .val (.int n), .val (.int col), .val (.int len), .val (.int r), .val (.int (1 : Int32)), .val (.ref a7), .val (.ref a9), .val (.ref a9), .val (.int (1 : Int32))]) rfl (q := 180) rfl ?_
          refine Jvm.OwnW.iload O18 at_180 rfl (q := 182) rfl ?_
          refine Jvm.OwnW.ifNo O18 at_182 (feq0 (show ¬ ((1 : Int32) = (0 : Int32)) from (by decide))).1 (q := 185) rfl ?_
          refine Jvm.OwnW.aload O18 at_185 rfl rfl (q := 187) rfl ?_
          refine Jvm.OwnW.aload O18 at_187 rfl rfl (q := 189) rfl ?_
          refine Jvm.OwnW.acmp O18 at_189 rfl rfl (same := true) (decide_eq_true rfl) (by decide) (q := 194) (by decide) ?_
          refine Jvm.OwnW.iload O18 at_194 rfl (q := 196) rfl ?_
          by_cases hc196 : (0 : Int32) < len
          · refine Jvm.OwnW.ifNo O18 at_196 (tgt0 hc196).2 (q := 199) rfl ?_
            obtain ⟨hO1, hO2⟩ := hO (by rw [Int32.lt_iff_toInt_lt] at hc196; have : (0 : Int32).toInt = 0 := rfl; omega)
            refine Jvm.OwnW.aload O18 at_199 rfl rfl (q := 201) rfl ?_
            refine Jvm.OwnW.iconst O18 at_201 (r := (0 : Int32)) rfl (q := 202) rfl ?_
            refine Jvm.OwnW.lalA O18 at_202 V_a9 (i := 0) rfl (by rw [Int32.lt_iff_toInt_lt] at hc196; have : (0 : Int32).toInt = 0 := rfl; omega) (v := (.long p5)) hO1 (q := 203) rfl ?_
            refine Jvm.OwnW.lload O18 at_203 rfl (q := 205) rfl ?_
            refine Jvm.OwnW.lcmp O18 at_205 rfl (q := 206) rfl ?_
            refine Jvm.OwnW.ifNo O18 at_206 (teqL (show p5 = p5 from rfl)).2 (q := 209) rfl ?_
            refine Jvm.OwnW.aload O18 at_209 rfl rfl (q := 211) rfl ?_
            refine Jvm.OwnW.iload O18 at_211 rfl (q := 213) rfl ?_
            refine Jvm.OwnW.iconst O18 at_213 (r := (1 : Int32)) rfl (q := 214) rfl ?_
            refine Jvm.OwnW.isub O18 at_214 rfl (q := 215) rfl ?_
            refine Jvm.OwnW.lalA O18 at_215 V_a9 (i := (ln - 1)) (dec32 hln (by rw [Int32.lt_iff_toInt_lt] at hc196; have : (0 : Int32).toInt = 0 := rfl; omega)) (by rw [Int32.lt_iff_toInt_lt] at hc196; have : (0 : Int32).toInt = 0 := rfl; omega) (v := (.long p5)) hO2 (q := 216) rfl ?_
            refine Jvm.OwnW.lload O18 at_216 rfl (q := 218) rfl ?_
            refine Jvm.OwnW.lcmp O18 at_218 rfl (q := 219) rfl ?_
            refine Jvm.OwnW.ifYes O18 at_219 (teqL (show p5 = p5 from rfl)).1 (by decide) (q := 224) rfl ?_
            refine Jvm.OwnW.iconst O18 at_224 (r := (1 : Int32)) rfl (q := 225) rfl ?_
            exact Jvm.OwnW.retB O18 at_225 rfl (Or.inr rfl) (by decide) (by decide) rfl
          · refine Jvm.OwnW.ifYes O18 at_196 (fgt0 hc196).2 (by decide) (q := 224) rfl ?_
            refine Jvm.OwnW.iconst O18 at_224 (r := (1 : Int32)) rfl (q := 225) rfl ?_
            exact Jvm.OwnW.retB O18 at_225 rfl (Or.inr rfl) (by decide) (by decide) rfl
    refine Jvm.OwnW.iload O9 at_67 rfl (q := 69) rfl ?_
    by_cases hc69 : (0 : Int32) < len
    · refine Jvm.OwnW.ifNo O9 at_69 (tgt0 hc69).2 (q := 72) rfl ?_
      refine Jvm.OwnW.aload O9 at_72 rfl rfl (q := 74) rfl ?_
      refine Jvm.OwnW.iconst O9 at_74 (r := (0 : Int32)) rfl (q := 75) rfl ?_
      refine Jvm.OwnW.lload O9 at_75 rfl (q := 77) rfl ?_
      refine Jvm.OwnW.lasA O9 at_77 V_a9 (i := 0) rfl (by rw [Int32.lt_iff_toInt_lt] at hc69; have : (0 : Int32).toInt = 0 := rfl; omega) (Or.inr N9) (q := 78) rfl ?_
      intro T20 h20 O20 W20
      have V_a9 := V_a9.set W20 (by rw [Int32.lt_iff_toInt_lt] at hc69; have : (0 : Int32).toInt = 0 := rfl; omega)
      have E_a7 := E_a7.wr W20
      have F_longs_a7 := F_longs_a7.other W20 (Or.inl ne_a7_a9)
      have F_rows_a7 := F_rows_a7.other W20 (Or.inl ne_a7_a9)
      have V_al := V_al.other W20 ne_al_a9
      have E_a9 := E_a9.wr W20
      refine Jvm.OwnW.aload O20 at_78 rfl rfl (q := 80) rfl ?_
      refine Jvm.OwnW.iload O20 at_80 rfl (q := 82) rfl ?_
      refine Jvm.OwnW.iconst O20 at_82 (r := (1 : Int32)) rfl (q := 83) rfl ?_
      refine Jvm.OwnW.isub O20 at_83 rfl (q := 84) rfl ?_
      refine Jvm.OwnW.lload O20 at_84 rfl (q := 86) rfl ?_
      refine Jvm.OwnW.lasA O20 at_86 V_a9 (i := (ln - 1)) (dec32 hln (by rw [Int32.lt_iff_toInt_lt] at hc69; have : (0 : Int32).toInt = 0 := rfl; omega)) (by rw [Int32.lt_iff_toInt_lt] at hc69; have : (0 : Int32).toInt = 0 := rfl; omega) (Or.inr N9) (q := 87) rfl ?_
      intro T21 h21 O21 W21
      have V_a9 := V_a9.set W21 (by rw [Int32.lt_iff_toInt_lt] at hc69; have : (0 : Int32).toInt = 0 := rfl; omega)
      have E_a7 := E_a7.wr W21
      have F_longs_a7 := F_longs_a7.other W21 (Or.inl ne_a7_a9)
      have F_rows_a7 := F_rows_a7.other W21 (Or.inl ne_a7_a9)
      have V_al := V_al.other W21 ne_al_a9
      have E_a9 := E_a9.wr W21
      exact J87 _ _ O21 _ (fun _ => ⟨by simp only [updV]; split <;> rfl, if_pos rfl⟩) E_a7 F_longs_a7 F_rows_a7 V_al E_a9 V_a9
    · refine Jvm.OwnW.ifYes O9 at_69 (fgt0 hc69).2 (by decide) (q := 87) rfl ?_
      exact J87 _ _ O9 _ (fun q => absurd (lt32 (by rw [hln]; show (0 : Int) < _; omega)) hc69) E_a7 F_longs_a7 F_rows_a7 V_al E_a9 V_a9
set_option maxRecDepth 65536 in
set_option maxHeartbeats 40000000 in
theorem comes_1 {Post : Tables → Env → Array Value → State → Outcome → State → Prop} (hpost : ∀ tb e args s v u, (limb_1_1.after args s (.returned v) u = true ∧ limb_1_2.after args s (.returned v) u = true ∧ True) → FrameEnd s (.returned v) u (Jvm.fieldLocs frame_1_writes args s ++ Jvm.arrayLocs frame_1_arrays args s ++ Jvm.staticLocs frame_1_statics s) 24 128 → Post tb e args s (.returned v) u) :
    ArmFor flags0 classFile x code maxLocals ret World_1 tables_1 room_1 Calls_1 rest_1 Pre_1 Post := by
  intro l hfl _ _ p e ha hc hk s m args below hf hA hF happ hP
  obtain ⟨hcalls, hrest, hpre⟩ := hP
  obtain ⟨-, -, -, hnamed, -, -, -, hat⟩ := (Spec.applies_iff hf).mp happ
  obtain ⟨hg, hn⟩ := and_e (Cond.before_iff.mp (show (Jvm.Cond.and given_1 narrow_1).before args s = true from hpre))
  obtain ⟨hn1, hg⟩ := and_e hg
  obtain ⟨w0, w1, w2, w3, w4, w5, rfl⟩ : ∃ w0 w1 w2 w3 w4 w5 : Value, args = #[w0, w1, w2, w3, w4, w5] := by
    have hs : args.size = 6 := by simpa [Cond.value, given_1] using hn1
    obtain ⟨L⟩ := args
    match L, hs with
    | [w0, w1, w2, w3, w4, w5], _ => exact ⟨w0, w1, w2, w3, w4, w5, rfl⟩
  have hw := fun d (hd : d ∈ tables_1) => atoms_spec (ws := Jvm.Cond.code x code maxLocals ret :: tables_1) hat d (List.mem_cons_of_mem _ hd)
  obtain ⟨hg0, hg⟩ := and_e hg
  obtain ⟨i0, e0⟩ := is_v hg0
  obtain rfl : w0 = (.int i0) := Option.some.inj e0
  obtain ⟨hg1, hg⟩ := and_e hg
  obtain ⟨i1, e1⟩ := is_v hg1
  obtain rfl : w1 = (.int i1) := Option.some.inj e1
  obtain ⟨hg2, hg⟩ := and_e hg
  obtain ⟨i2, e2⟩ := is_v hg2
  obtain rfl : w2 = (.int i2) := Option.some.inj e2
  obtain ⟨hg3, hg⟩ := and_e hg
  obtain ⟨i3, e3⟩ := is_v hg3
  obtain rfl : w3 = (.int i3) := Option.some.inj e3
  obtain ⟨hg4, hg⟩ := and_e hg
  obtain ⟨i4, e4⟩ := is_v hg4
  obtain rfl : w4 = (.int i4) := Option.some.inj e4
  obtain ⟨i5, e5⟩ := isL_v hg
  obtain rfl : w5 = (.long i5) := Option.some.inj e5

  obtain ⟨n, o, h1, h2, h3, _, L, rfl, ⟨N, -, -, rfl⟩, hq⟩ := rm_0 l s _ hw tables_1 i0 i1 i2 i3 i4 i5 s.heap  p e ha hc hk s m _ below hf ((Spec.applies_iff_loose hf).mp happ).1 ⟨rfl, State.Warmed39.refl s, rfl⟩ trivial
  refine ⟨n, _, h1, h2, h3, hpost _ _ _ _ _ _ ⟨Cond.after_iff.mpr rfl, Cond.after_iff.mpr (eq_i res_at (Term.int_eval (1)) rfl), trivial⟩ ⟨hq.1, hq.2.1, (hq.2.2.sift fun y hy => Or.inr ((N y hy).elim (fun z => nomatch z) id)).mono (by decide) (by decide)⟩⟩
theorem main_1_1 : Claimed_1_1 := comes_1 fun _ _ _ _ _ _ h hF => ⟨h.1, hF⟩
theorem main_1_2 : Claimed_1_2 := comes_1 fun _ _ _ _ _ _ h hF => ⟨h.2.1, hF⟩
end Jvm.Pilot.@@N@@
namespace Jvm.Pilot.@@N@@
open Jvm Jvm.ClassFile Sem Op Lib Jvm.Free Jvm.Stand Jvm.Pilot.@@N@@.Jvm.D
/-! MADE BY PROGRAM (witnessworld.py) out of the Statement's table words and the real class files: 13 classes; the members and pool entries that the words name. The judged class is class 1, her method 1. -/
namespace start1
open Jvm.ClassFile
def u (s : String) : CpInfo := .utf8 (stringToUtf16 s)
/-- a pool by its gaps: so many unusable entries, then the entry; so many at the end -/
def gap : Nat → List CpInfo → List CpInfo
  | 0, r => r
  | n + 1, r => .unusable :: gap n r
def poolList (es : List (Nat × CpInfo)) (last : Nat) : List CpInfo := es.foldr (fun e r => gap e.1 (e.2 :: r)) (gap last [])
def pool (es : List (Nat × CpInfo)) (last : Nat) : Array CpInfo := ⟨poolList es last⟩
def fileOf (pool : Array CpInfo) (this : Nat) (attrs : Array Attribute := #[]) (ms : Array MethodInfo := #[]) (fl : Nat := 33) (sup : Nat := 0) (ifs : Array Nat := #[]) (fds : Array FieldInfo := #[]) : ClassFile where
  minorVersion := 0
  majorVersion := 65
  constantPool := pool
  accessFlags := fl
  thisClass := this
  superClass := sup
  interfaces := ifs
  fields := fds
  methods := ms
  attributes := attrs
def plain (name : String) (sup : Option ClassId) : Class where
  name := name
  kind := .ordinary
  loader := none
  accessFlags := 33
  super := sup
  interfaces := #[]
  cf := none
  fields := #[]
  methods := #[]
  instanceTypes := #[]
  staticTypes := #[]
  resolved := #[]
  callSites := []
  init := .initialized
  statics := none
  mirror := none

def pool0 : Array CpInfo := pool [(5, u "<init>"), (0, u "()V"), (1, .class_ 10), (1, u "java/lang/Object")] 113

def k0c0 : Code := { maxStack := 0, maxLocals := 1, code := object_method_1_code, exceptionTable := #[], attributes := #[] }
def k0m0 : Method := { name := "<init>", desc := "()V", sig := { parameters := [], returnType := none }, accessFlags := 1, code := some k0c0 }
/-- java/lang/Object -/
def k0 : Class := { plain "java/lang/Object" none with
  accessFlags := 33
  interfaces := #[]
  cf := some (fileOf pool0 8 #[] #[{ accessFlags := 1, nameIndex := 5, descriptorIndex := 6, attributes := #[] }] 33 0 #[] #[])
  fields := #[]
  methods := #[k0m0]
  instanceTypes := #[]
  staticTypes := #[]
  resolved := Array.replicate 124 none
  statics := none }

def pool1 : Array CpInfo := pool [(2, .class_ 4), (1, u "java/lang/Object"), (0, u "<init>"), (0, u "()V"), (0, .integer 2147483647), (0, .class_ 9), (0, u "com/example/lamina/lamina/table/Block"), (0, .methodref 8 11), (0, .nameAndType 5 12), (0, u "(I)V"), (0, .methodref 8 14), (0, .nameAndType 15 16), (0, u "setLongs"), (0, u "(I[J)V"), (0, .methodref 8 18), (0, .nameAndType 19 20), (0, u "longsForRows"), (0, u "(II)[J"), (0, .methodref 8 22), (0, .nameAndType 23 24), (0, u "longs"), (0, u "(I)[J"), (0, .methodref 8 26), (0, .nameAndType 27 28), (0, u "rows"), (0, u "()I"), (0, .class_ 30), (0, u "com/example/lamina/lamina/table/BlockLongsForRowsPinLaw"), (2, u "law"), (0, u "(IIIIIJ)Z")] 5

def k1m0 : Method := { name := "<init>", desc := "()V", sig := { parameters := [], returnType := none }, accessFlags := 1, code := none }
def k1c1 : Code := { maxStack := 4, maxLocals := 16, code := code, exceptionTable := #[], attributes := #[] }
def k1m1 : Method := { name := "law", desc := "(IIIIIJ)Z", sig := { parameters := [.int, .int, .int, .int, .int, .long], returnType := some .boolean }, accessFlags := 9, code := some k1c1 }
/-- com/example/lamina/lamina/table/BlockLongsForRowsPinLaw -/
def k1 : Class := { plain "com/example/lamina/lamina/table/BlockLongsForRowsPinLaw" (some 0) with
  accessFlags := 49
  interfaces := #[]
  cf := some (fileOf pool1 29 #[] #[{ accessFlags := 1, nameIndex := 5, descriptorIndex := 6, attributes := #[] }, { accessFlags := 9, nameIndex := 33, descriptorIndex := 34, attributes := #[] }] 49 2 #[] #[])
  fields := #[]
  methods := #[k1m0, k1m1]
  instanceTypes := #[]
  staticTypes := #[]
  resolved := Array.replicate 40 none
  statics := none }

def pool2 : Array CpInfo := pool [(1, .methodref 2 3), (0, .class_ 4), (0, .nameAndType 5 6), (0, u "java/lang/Object"), (0, u "<init>"), (0, u "()V"), (0, .class_ 8), (0, u "[J"), (0, .fieldref 10 11), (0, .class_ 12), (0, .nameAndType 13 14), (0, u "com/example/lamina/lamina/table/Block"), (0, u "longs"), (0, u "[[J"), (0, .class_ 16), (0, u "com/example/lamina/lamina/table/TextVector"), (0, .fieldref 10 18), (0, .nameAndType 19 20), (0, u "text"), (0, u "[Lcom/example/lamina/lamina/table/TextVector;"), (0, .fieldref 10 22), (0, .nameAndType 23 24), (0, u "rows"), (0, u "I"), (1, u "(I)V"), (2, u "()I"), (1, u "(I)[J"), (2, u "setLongs"), (0, u "(I[J)V"), (0, u "longsForRows"), (0, u "(II)[J")] 4

def k2c0 : Code := { maxStack := 2, maxLocals := 2, code := prog_60_method_1_code, exceptionTable := #[], attributes := #[] }
def k2m0 : Method := { name := "<init>", desc := "(I)V", sig := { parameters := [.int], returnType := none }, accessFlags := 0, code := some k2c0 }
def k2c1 : Code := { maxStack := 1, maxLocals := 1, code := prog_60_method_2_code, exceptionTable := #[], attributes := #[] }
def k2m1 : Method := { name := "rows", desc := "()I", sig := { parameters := [], returnType := some .int }, accessFlags := 1, code := some k2c1 }
def k2c2 : Code := { maxStack := 2, maxLocals := 2, code := prog_60_method_4_code, exceptionTable := #[], attributes := #[] }
def k2m2 : Method := { name := "longs", desc := "(I)[J", sig := { parameters := [.int], returnType := some (.array .long) }, accessFlags := 1, code := some k2c2 }
def k2c3 : Code := { maxStack := 3, maxLocals := 3, code := prog_60_method_7_code, exceptionTable := #[], attributes := #[] }
def k2m3 : Method := { name := "setLongs", desc := "(I[J)V", sig := { parameters := [.int, (.array .long)], returnType := none }, accessFlags := 0, code := some k2c3 }
def k2c4 : Code := { maxStack := 3, maxLocals := 3, code := prog_60_method_8_code, exceptionTable := #[], attributes := #[] }
def k2m4 : Method := { name := "longsForRows", desc := "(II)[J", sig := { parameters := [.int, .int], returnType := some (.array .long) }, accessFlags := 0, code := some k2c4 }
/-- com/example/lamina/lamina/table/Block -/
def k2 : Class := { plain "com/example/lamina/lamina/table/Block" (some 0) with
  accessFlags := 49
  interfaces := #[]
  cf := some (fileOf pool2 10 #[] #[{ accessFlags := 0, nameIndex := 5, descriptorIndex := 26, attributes := #[] }, { accessFlags := 1, nameIndex := 23, descriptorIndex := 29, attributes := #[] }, { accessFlags := 1, nameIndex := 13, descriptorIndex := 31, attributes := #[] }, { accessFlags := 0, nameIndex := 34, descriptorIndex := 35, attributes := #[] }, { accessFlags := 0, nameIndex := 36, descriptorIndex := 37, attributes := #[] }] 49 2 #[] #[{ accessFlags := 18, nameIndex := 13, descriptorIndex := 14, attributes := #[] }, { accessFlags := 18, nameIndex := 19, descriptorIndex := 20, attributes := #[] }, { accessFlags := 2, nameIndex := 23, descriptorIndex := 24, attributes := #[] }])
  fields := #[{ name := "longs", type := (.array (.array .long)), accessFlags := 18, slot := 0, constantValue := 0 }, { name := "text", type := (.array (.object "com/example/lamina/lamina/table/TextVector")), accessFlags := 18, slot := 1, constantValue := 0 }, { name := "rows", type := .int, accessFlags := 2, slot := 2, constantValue := 0 }]
  methods := #[k2m0, k2m1, k2m2, k2m3, k2m4]
  instanceTypes := #[(.array (.array .long)), (.array (.object "com/example/lamina/lamina/table/TextVector")), .int]
  staticTypes := #[]
  resolved := Array.replicate 42 none
  statics := none }

def pool3 : Array CpInfo := pool [(2, .class_ 4), (1, u "java/lang/Object"), (0, u "<init>"), (0, u "()V"), (1, .class_ 10), (1, u "com/example/lamina/lamina/table/TextVector"), (0, u "data"), (0, u "[B"), (2, u "offsets"), (0, u "[I"), (2, u "size"), (0, u "I")] 48

def k3m0 : Method := { name := "<init>", desc := "()V", sig := { parameters := [], returnType := none }, accessFlags := 1, code := none }
/-- com/example/lamina/lamina/table/TextVector -/
def k3 : Class := { plain "com/example/lamina/lamina/table/TextVector" (some 0) with
  accessFlags := 49
  interfaces := #[]
  cf := some (fileOf pool3 8 #[] #[{ accessFlags := 1, nameIndex := 5, descriptorIndex := 6, attributes := #[] }] 49 2 #[] #[{ accessFlags := 2, nameIndex := 11, descriptorIndex := 12, attributes := #[] }, { accessFlags := 2, nameIndex := 15, descriptorIndex := 16, attributes := #[] }, { accessFlags := 2, nameIndex := 19, descriptorIndex := 20, attributes := #[] }])
  fields := #[{ name := "data", type := (.array .byte), accessFlags := 2, slot := 0, constantValue := 0 }, { name := "offsets", type := (.array .int), accessFlags := 2, slot := 1, constantValue := 0 }, { name := "size", type := .int, accessFlags := 2, slot := 2, constantValue := 0 }]
  methods := #[k3m0]
  instanceTypes := #[(.array .byte), (.array .int), .int]
  staticTypes := #[]
  resolved := Array.replicate 69 none
  statics := none }

def pool4 : Array CpInfo := pool [(1, u "java/lang/Cloneable"), (0, .class_ 1), (0, u "java/lang/Object"), (0, .class_ 3)] 3

/-- java/lang/Cloneable -/
def k4 : Class := { plain "java/lang/Cloneable" (some 0) with
  accessFlags := 1537
  interfaces := #[]
  cf := some (fileOf pool4 2 #[] #[] 1537 4 #[] #[])
  fields := #[]
  methods := #[]
  instanceTypes := #[]
  staticTypes := #[]
  resolved := Array.replicate 8 none
  statics := none }

def pool5 : Array CpInfo := pool [(1, u "java/io/Serializable"), (0, .class_ 1), (0, u "java/lang/Object"), (0, .class_ 3)] 3

/-- java/io/Serializable -/
def k5 : Class := { plain "java/io/Serializable" (some 0) with
  accessFlags := 1537
  interfaces := #[]
  cf := some (fileOf pool5 2 #[] #[] 1537 4 #[] #[])
  fields := #[]
  methods := #[]
  instanceTypes := #[]
  staticTypes := #[]
  resolved := Array.replicate 8 none
  statics := none }

/-- the primitive byte -/
def k6 : Class := { plain "byte" none with kind := .primitive 'B', accessFlags := 0x411 }
/-- [B -/
def k7 : Class := { plain "[B" (some 0) with kind := .array 6 .byte, interfaces := #[4, 5], accessFlags := 1041 }

/-- the primitive int -/
def k8 : Class := { plain "int" none with kind := .primitive 'I', accessFlags := 0x411 }
/-- [I -/
def k9 : Class := { plain "[I" (some 0) with kind := .array 8 .int, interfaces := #[4, 5], accessFlags := 1041 }

/-- the primitive long -/
def k10 : Class := { plain "long" none with kind := .primitive 'J', accessFlags := 0x411 }
/-- [J -/
def k11 : Class := { plain "[J" (some 0) with kind := .array 10 .long, interfaces := #[4, 5], accessFlags := 1041 }

/-- [Lcom/example/lamina/lamina/table/TextVector; -/
def k12 : Class := { plain "[Lcom/example/lamina/lamina/table/TextVector;" (some 0) with kind := .array 3 (.object "com/example/lamina/lamina/table/TextVector"), interfaces := #[4, 5], accessFlags := 1041 }

/-- [[J -/
def k13 : Class := { plain "[[J" (some 0) with kind := .array 11 (.array .long), interfaces := #[4, 5], accessFlags := 1041 }

def heap : Heap := #[]
def classes : Array Class := #[k0, k1, k2, k3, k4, k5, k6, k7, k8, k9, k10, k11, k12, k13]
def interned : List (Array UInt16 × Addr) := []
def slotsUsed : Nat := 0
def theMethod : MethodId := ⟨1, 1⟩
def args0 : Array Value := #[.int 5, .int 5, .int 5, .int 5, .int 5, .long 9]
def aboutOver (below : List Frame) : State where
  vm := { classes := classes, interned := interned.toArray }
  heap := heap
  slotsUsed := slotsUsed
  threads := #[{ frames := .invoking theMethod args0 :: below }]
def below0 : List Frame := [.native { method := ⟨0, 0⟩, args := #[] }]
def about1 : State := aboutOver below0
def p0 : Program := .bare "" "" ""
def e0 : Env := launch0.env 0 0 0
theorem w_frames : about1.frames = Frame.invoking theMethod args0 :: below0 := rfl
set_option maxRecDepth 65536 in
theorem w_args : argsFit about1.vm theMethod args0 = true := by decide +kernel
set_option maxRecDepth 65536 in
theorem w_heap : heapFits about1 = true := by decide +kernel
set_option maxRecDepth 65536 in
theorem w_runnable : about1.curStatus? = some .runnable := by decide +kernel
set_option maxRecDepth 65536 in
theorem w_alone : about1.alone = true := by decide +kernel
set_option maxRecDepth 65536 in
theorem w_named : about1.methodNamed? x = some theMethod := by decide +kernel
set_option maxRecDepth 65536 in
theorem w_hears : about1.hears theMethod below0 = true := by decide +kernel
set_option maxRecDepth 65536 in
theorem w_ripe : about1.ripe theMethod args0 below0 = true := by decide +kernel
theorem w_running : about1.status = .running := rfl
set_option maxRecDepth 65536 in
theorem w_room : about1.hasRoom e0.platform room_1 = true :=
  launch0.hasRoom_least _ room_1 (by decide +kernel) (by decide +kernel) (by decide +kernel) (by decide +kernel) (by decide +kernel) (by decide +kernel)
theorem allAtoms_all (ts : List Jvm.Cond) (a : Array Jvm.Value) (st : Jvm.State) : (allAtoms ts).before a st = ts.all (fun c => c.before a st) := by
  induction ts with
  | nil => rfl
  | cons c t ih =>
    show (Jvm.Cond.and c (allAtoms t)).before a st = _
    rw [Jvm.Cond.before_and, ih, List.all_cons]
def words1 : List Jvm.Cond := Jvm.Cond.code x code maxLocals ret :: tables_1
/-- a 'code' word, met by the world's own term for the bytes: nothing is compared byte by byte -/
theorem code_word {y : MethodName} {bytes : ByteArray} {mx : Nat} {rt : Option FieldType} {a : Array Value} {s : State} {m : MethodId} {meth : Method} {c : Code} (h1 : s.methodNamed? y = some m) (h2 : s.vm.method? m = some meth) (h3 : meth.code = some c) (h4 : c.code = bytes)
    (h5 : (c.maxLocals == mx && c.exceptionTable.isEmpty && decide (c.maxStack ≤ mostOperands) && decide (meth.sig.returnType = rt) && !meth.locks && decide (parseMethodDescriptor y.desc = some meth.sig)) = true) : (Jvm.Cond.code y bytes mx rt).before a s = true := by
  simp only [Bool.and_eq_true, beq_iff_eq, Bool.not_eq_true', decide_eq_true_eq] at h5
  obtain ⟨⟨⟨⟨⟨g1, g2⟩, g3⟩, g4⟩, g5⟩, g6⟩ := h5
  simp [Cond.before, Cond.holds, Cond.value, h1, h2, h3, h4, g1, g2, g3, g4, g5, g6]
def isCode : Jvm.Cond → Bool
  | .code _ _ _ _ => true
  | _ => false
theorem all_split {L : List Jvm.Cond} {P : Jvm.Cond → Bool} (h1 : L.all (fun c => isCode c || P c) = true) (h2 : ∀ c ∈ L.filter isCode, P c = true) : L.all P = true := by
  refine List.all_eq_true.mpr fun c hc => ?_
  have h := List.all_eq_true.mp h1 c hc
  rcases Bool.eq_false_or_eq_true (isCode c) with hi | hi
  · exact h2 c (List.mem_filter.mpr ⟨hc, hi⟩)
  · simpa [hi] using h
set_option maxRecDepth 65536 in
theorem w_c0 : (Jvm.Cond.code x code maxLocals ret).before args0 about1 = true := code_word (m := ⟨1, 1⟩) (meth := k1m1) (c := k1c1) (by decide +kernel) rfl rfl rfl (by decide +kernel)
set_option maxRecDepth 65536 in
theorem w_c1 : (Jvm.Cond.code ({ cls := "com/example/lamina/lamina/table/Block", name := "<init>", desc := "(I)V" } : Jvm.MethodName) prog_60_method_1_code (2 : Nat) (Option.none : Option Jvm.ClassFile.FieldType)).before args0 about1 = true := code_word (m := ⟨2, 0⟩) (meth := k2m0) (c := k2c0) (by decide +kernel) rfl rfl rfl (by decide +kernel)
set_option maxRecDepth 65536 in
theorem w_c2 : (Jvm.Cond.code ({ cls := "java/lang/Object", name := "<init>", desc := "()V" } : Jvm.MethodName) object_method_1_code (1 : Nat) (Option.none : Option Jvm.ClassFile.FieldType)).before args0 about1 = true := code_word (m := ⟨0, 0⟩) (meth := k0m0) (c := k0c0) (by decide +kernel) rfl rfl rfl (by decide +kernel)
set_option maxRecDepth 65536 in
theorem w_c3 : (Jvm.Cond.code ({ cls := "com/example/lamina/lamina/table/Block", name := "longsForRows", desc := "(II)[J" } : Jvm.MethodName) prog_60_method_8_code (3 : Nat) (Option.some (Jvm.ClassFile.FieldType.array Jvm.ClassFile.FieldType.long))).before args0 about1 = true := code_word (m := ⟨2, 4⟩) (meth := k2m4) (c := k2c4) (by decide +kernel) rfl rfl rfl (by decide +kernel)
set_option maxRecDepth 65536 in
theorem w_c4 : (Jvm.Cond.code ({ cls := "com/example/lamina/lamina/table/Block", name := "longs", desc := "(I)[J" } : Jvm.MethodName) prog_60_method_4_code (2 : Nat) (Option.some (Jvm.ClassFile.FieldType.array Jvm.ClassFile.FieldType.long))).before args0 about1 = true := code_word (m := ⟨2, 2⟩) (meth := k2m2) (c := k2c2) (by decide +kernel) rfl rfl rfl (by decide +kernel)
set_option maxRecDepth 65536 in
theorem w_c5 : (Jvm.Cond.code ({ cls := "com/example/lamina/lamina/table/Block", name := "rows", desc := "()I" } : Jvm.MethodName) prog_60_method_2_code (1 : Nat) (Option.some Jvm.ClassFile.FieldType.int)).before args0 about1 = true := code_word (m := ⟨2, 1⟩) (meth := k2m1) (c := k2c1) (by decide +kernel) rfl rfl rfl (by decide +kernel)
set_option maxRecDepth 65536 in
theorem w_c6 : (Jvm.Cond.code ({ cls := "com/example/lamina/lamina/table/Block", name := "setLongs", desc := "(I[J)V" } : Jvm.MethodName) prog_60_method_7_code (3 : Nat) (Option.none : Option Jvm.ClassFile.FieldType)).before args0 about1 = true := code_word (m := ⟨2, 3⟩) (meth := k2m3) (c := k2c3) (by decide +kernel) rfl rfl rfl (by decide +kernel)
def codes1 : List Jvm.Cond := [Jvm.Cond.code x code maxLocals ret, Jvm.Cond.code ({ cls := "com/example/lamina/lamina/table/Block", name := "<init>", desc := "(I)V" } : Jvm.MethodName) prog_60_method_1_code (2 : Nat) (Option.none : Option Jvm.ClassFile.FieldType), Jvm.Cond.code ({ cls := "java/lang/Object", name := "<init>", desc := "()V" } : Jvm.MethodName) object_method_1_code (1 : Nat) (Option.none : Option Jvm.ClassFile.FieldType), Jvm.Cond.code ({ cls := "com/example/lamina/lamina/table/Block", name := "longsForRows", desc := "(II)[J" } : Jvm.MethodName) prog_60_method_8_code (3 : Nat) (Option.some (Jvm.ClassFile.FieldType.array Jvm.ClassFile.FieldType.long)), Jvm.Cond.code ({ cls := "com/example/lamina/lamina/table/Block", name := "longs", desc := "(I)[J" } : Jvm.MethodName) prog_60_method_4_code (2 : Nat) (Option.some (Jvm.ClassFile.FieldType.array Jvm.ClassFile.FieldType.long)), Jvm.Cond.code ({ cls := "com/example/lamina/lamina/table/Block", name := "rows", desc := "()I" } : Jvm.MethodName) prog_60_method_2_code (1 : Nat) (Option.some Jvm.ClassFile.FieldType.int), Jvm.Cond.code ({ cls := "com/example/lamina/lamina/table/Block", name := "setLongs", desc := "(I[J)V" } : Jvm.MethodName) prog_60_method_7_code (3 : Nat) (Option.none : Option Jvm.ClassFile.FieldType)]
set_option maxRecDepth 65536 in
theorem codes_eq : words1.filter isCode = codes1 := rfl
theorem w_codes : ∀ c ∈ words1.filter isCode, c.before args0 about1 = true := by
  rw [codes_eq]
  intro c hc
  simp only [codes1, List.mem_cons, List.not_mem_nil, or_false] at hc
  rcases hc with rfl | rfl | rfl | rfl | rfl | rfl | rfl
  · exact w_c0
  · exact w_c1
  · exact w_c2
  · exact w_c3
  · exact w_c4
  · exact w_c5
  · exact w_c6
set_option maxRecDepth 65536 in
theorem w_t1 : (words1.take 24).all (fun c => isCode c || c.before args0 about1) = true := by decide +kernel
set_option maxRecDepth 65536 in
theorem w_t2 : (words1.drop 24).all (fun c => isCode c || c.before args0 about1) = true := by decide +kernel
theorem w_tables : (allAtoms (Jvm.Cond.code x code maxLocals ret :: tables_1)).before args0 about1 = true := by
  rw [allAtoms_all]
  show words1.all (fun c => c.before args0 about1) = true
  refine all_split ?_ w_codes
  rw [← List.take_append_drop 24 words1, List.all_append, w_t1, w_t2]
  rfl
set_option maxRecDepth 65536 in
theorem w_case : (Jvm.Cond.and given_1 narrow_1).before args0 about1 = true := by decide +kernel
theorem w_applies : (headSpec (Jvm.Cond.code x code maxLocals ret :: tables_1) room_1).applies x e0.platform about1 = true :=
  (Spec.applies_iff w_frames).mpr ⟨w_running, w_runnable, w_alone, w_named, w_hears, w_ripe, w_room, w_tables⟩
theorem atStart : AtStart classFile x code maxLocals ret World_1 tables_1 room_1 Calls_1 rest_1 Pre_1 launch0 p0 e0 about1 theMethod args0 below0 :=
  ⟨lists_1, trivial, launch0.admits_env _ _ _, launch0.least_env, fairChoices_fair.cas, fairChoices_fair.clock, w_frames, w_args, w_heap, w_applies, trivial, trivial, w_case⟩
end start1
theorem witness_1 : WitnessClaimed_1 := ⟨start1.p0, start1.e0, start1.about1, start1.theMethod, start1.args0, start1.below0, start1.atStart⟩
end Jvm.Pilot.@@N@@
